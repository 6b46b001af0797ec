/- The package's key schedule: blowfish.ExpandKey. -/
import Derived.Test.YtolkgekbnbgodaaFill
namespace Go.Proofs.Ytolkgekbnbgodaa
open Go Go.RowKit
theorem mod_wrap {a n : Nat} (hn : 0 < n) (h : n ≤ a % n + 1) : (a + 1) % n = 0 := by
  have hlt := Nat.mod_lt a hn
  rw [Nat.add_mod, show a % n = n - 1 by omega]
  by_cases h1 : n = 1
  · subst h1; exact Nat.mod_one _
  · rw [Nat.mod_eq_of_lt (show 1 < n by omega), show n - 1 + 1 = n by omega, Nat.mod_self]
theorem mod_next {a n : Nat} (h : ¬ n ≤ a % n + 1) : (a + 1) % n = a % n + 1 := by
  rw [Nat.add_mod, Nat.mod_eq_of_lt (show 1 < n by omega), Nat.mod_eq_of_lt (by omega)]

set_option maxHeartbeats 1000000 in
theorem expand_any (ad : Addr) (n c g : Nat) (t : TypeId) (s : Tbl) (kb : Nat → Nat) (w : World) (hn0 : 0 < n) (hn : n ≤ 1000) (hk : Bytes w ad n kb) (hg : ad.block ≠ g) (hT : Tab w g s t) :
    Calls Try.prog 7 #[.slice (some ad) n c, .pointer (some ⟨g, 0, none⟩)] w (XkR w g (expandT s kb n)) := by
  refine g_enter (l := [_, _]) Try.func7 rfl Try.ntmps7 rfl ?_
  refine g_seq (g_region ?_)
  repeat (first
    | refine g_op rfl rfl rfl (run_asgV rfl) ?_
    | refine g_op rfl rfl rfl (run_asgP rfl) ?_
    | refine g_op rfl rfl rfl (run_asgS rfl) ?_
    | refine g_op rfl rfl rfl (run_asgI rfl) ?_
    | refine g_op rfl rfl rfl (run_asgB rfl) ?_)
  refine g_nil (g_then (g_seq (g_seq (g_region ?_))))
  repeat (first
    | refine g_op rfl rfl rfl (run_asgV rfl) ?_
    | refine g_op rfl rfl rfl (run_asgP rfl) ?_
    | refine g_op rfl rfl rfl (run_asgS rfl) ?_
    | refine g_op rfl rfl rfl (run_asgI rfl) ?_
    | refine g_op rfl rfl rfl (run_asgB rfl) ?_)
  refine g_nil (g_then (g_block ?_))
  refine g_loop (fun f w' μ => ∃ i : Nat, i ≤ 18 ∧ μ = 18 - i ∧ f 0 = .slice (some ad) n c ∧ f 1 = .pointer (some ⟨g, 0, none⟩) ∧ f 4 = .int .i64 ((4 * i % n : Nat) : Int) ∧ f 5 = .int .i64 (i : Int) ∧ Now w g (mixT s kb n i) w') 18
    ⟨0, by omega, by omega, rfl, rfl, congrArg (Value.int .i64) (by simp), rfl, by rw [mixT_zero]; exact Now.start hT⟩ ?_
  rintro f w' μ ⟨i, hi, rfl, h0, h1, h4, h5, hw⟩
  refine G.known (d := 5) h5 (G.known (d := 4) h4 (G.known (d := 1) h1 (G.known (d := 0) h0 ?_)))
  clear h0 h1 h4 h5
  have hk' : Bytes w' ad n kb := hw.bytes hk hg
  have hTw := hw.tab hT
  by_cases hlt : i < 18
  · refine g_seq (g_seq (g_region ?_))
    repeat (first
      | refine g_op rfl rfl rfl (run_moveV rfl) ?_
      | refine g_op rfl rfl rfl (run_moveP rfl) ?_
      | refine g_op rfl rfl rfl (run_moveS rfl) ?_
      | refine g_op rfl rfl rfl (run_moveI rfl) ?_
      | refine g_op rfl rfl rfl (run_moveB rfl) ?_
      | refine g_op rfl rfl rfl (run_moveT rfl) ?_
      | refine g_op rfl rfl rfl (run_lssT rfl rfl (by omega)) ?_
      | refine g_op rfl rfl rfl (run_lssF rfl rfl (by omega)) ?_)
    refine g_nil (g_then (g_cond_true rfl (g_skip (g_then (g_seq (g_block (g_seq (g_region ?_))))))))
    repeat (first
      | refine g_op rfl rfl rfl (run_asgV rfl) ?_
      | refine g_op rfl rfl rfl (run_asgP rfl) ?_
      | refine g_op rfl rfl rfl (run_asgS rfl) ?_
      | refine g_op rfl rfl rfl (run_asgI rfl) ?_
      | refine g_op rfl rfl rfl (run_asgB rfl) ?_)
    refine g_nil (g_then (g_seq (g_seq (g_region ?_))))
    repeat (first
      | refine g_op rfl rfl rfl (run_asgV rfl) ?_
      | refine g_op rfl rfl rfl (run_asgP rfl) ?_
      | refine g_op rfl rfl rfl (run_asgS rfl) ?_
      | refine g_op rfl rfl rfl (run_asgI rfl) ?_
      | refine g_op rfl rfl rfl (run_asgB rfl) ?_)
    refine g_nil (g_then (g_block ?_))
    refine g_loop (fun f' w'' μ => w'' = w' ∧ ∃ q : Nat, q ≤ 4 ∧ μ = 4 - q ∧ f' 0 = .slice (some ad) n c ∧ f' 1 = .pointer (some ⟨g, 0, none⟩) ∧ f' 4 = .int .i64 (((4 * i + q) % n : Nat) : Int) ∧ f' 5 = .int .i64 (i : Int) ∧
        f' 6 = V (wdk kb n (4 * i) q) ∧ f' 7 = .int .i64 (q : Int)) 4 ⟨rfl, 0, by omega, rfl, rfl, rfl, rfl, rfl, rfl, rfl⟩ ?_
    clear f
    rintro f w'' μ ⟨hw'', q, hq, rfl, h0, h1, h4, h5, h6, h7⟩
    subst hw''
    refine G.known (d := 7) h7 (G.known (d := 6) h6 (G.known (d := 5) h5 (G.known (d := 4) h4 (G.known (d := 1) h1 (G.known (d := 0) h0 ?_)))))
    clear h0 h1 h4 h5 h6 h7
    by_cases hq4 : q < 4
    · have hmod : (4 * i + q) % n < n := Nat.mod_lt _ hn0
      refine g_seq (g_seq (g_region ?_))
      repeat (first
        | refine g_op rfl rfl rfl (run_moveV rfl) ?_
        | refine g_op rfl rfl rfl (run_moveP rfl) ?_
        | refine g_op rfl rfl rfl (run_moveS rfl) ?_
        | refine g_op rfl rfl rfl (run_moveI rfl) ?_
        | refine g_op rfl rfl rfl (run_moveB rfl) ?_
        | refine g_op rfl rfl rfl (run_moveT rfl) ?_
        | refine g_op rfl rfl rfl (run_lssT rfl rfl (by omega)) ?_
        | refine g_op rfl rfl rfl (run_lssF rfl rfl (by omega)) ?_)
      refine g_nil (g_then (g_cond_true rfl (g_skip (g_then (g_seq (g_block (g_seq (g_region ?_))))))))
      repeat (first
        | refine g_op rfl rfl rfl (run_moveV rfl) ?_
        | refine g_op rfl rfl rfl (run_moveP rfl) ?_
        | refine g_op rfl rfl rfl (run_moveS rfl) ?_
        | refine g_op rfl rfl rfl (run_moveI rfl) ?_
        | refine g_op rfl rfl rfl (run_moveB rfl) ?_
        | refine g_op rfl rfl rfl (run_moveT rfl) ?_
        | refine g_op rfl rfl rfl (run_asgV rfl) ?_
        | refine g_op rfl rfl rfl (run_asgP rfl) ?_
        | refine g_op rfl rfl rfl (run_asgS rfl) ?_
        | refine g_op rfl rfl rfl (run_asgI rfl) ?_
        | refine g_op rfl rfl rfl (run_asgB rfl) ?_
        | refine g_op rfl rfl rfl (run_xor rfl rfl) ?_
        | refine g_op rfl rfl rfl (run_add rfl rfl) ?_
        | refine g_op rfl rfl rfl (run_or rfl rfl) ?_
        | refine g_op rfl rfl rfl (run_and255 rfl rfl) ?_
        | refine g_op rfl rfl rfl (run_shr24 rfl rfl) ?_
        | refine g_op rfl rfl rfl (run_shr16 rfl rfl) ?_
        | refine g_op rfl rfl rfl (run_shr8 rfl rfl) ?_
        | refine g_op rfl rfl rfl (run_shl8 rfl rfl) ?_
        | refine g_op rfl rfl rfl (run_conv8 rfl) ?_
        | refine g_op rfl rfl rfl (run_sidx Try.underlying22 sz5 rfl rfl hmod) ?_
        | refine g_op rfl rfl rfl (run_load1 Try.underlying5 rfl rfl (hk' _ hmod)) ?_
        | refine g_op rfl rfl rfl (run_conv32 rfl) ?_)
      refine g_nil (g_then (g_seq (g_region ?_)))
      repeat (first
        | refine g_op rfl rfl rfl (run_moveV rfl) ?_
        | refine g_op rfl rfl rfl (run_moveP rfl) ?_
        | refine g_op rfl rfl rfl (run_moveS rfl) ?_
        | refine g_op rfl rfl rfl (run_moveI rfl) ?_
        | refine g_op rfl rfl rfl (run_moveB rfl) ?_
        | refine g_op rfl rfl rfl (run_moveT rfl) ?_
        | refine g_op rfl rfl rfl (run_asgV rfl) ?_
        | refine g_op rfl rfl rfl (run_asgP rfl) ?_
        | refine g_op rfl rfl rfl (run_asgS rfl) ?_
        | refine g_op rfl rfl rfl (run_asgI rfl) ?_
        | refine g_op rfl rfl rfl (run_asgB rfl) ?_
        | refine g_op rfl rfl rfl (run_addI rfl rfl (by omega) (by omega)) ?_)
      refine g_nil (g_then (g_seq (g_region ?_)))
      by_cases hge : n ≤ (4 * i + q) % n + 1
      · have e4 := mod_wrap hn0 hge
        repeat (first
          | refine g_op rfl rfl rfl (run_moveV rfl) ?_
          | refine g_op rfl rfl rfl (run_moveP rfl) ?_
          | refine g_op rfl rfl rfl (run_moveS rfl) ?_
          | refine g_op rfl rfl rfl (run_moveI rfl) ?_
          | refine g_op rfl rfl rfl (run_moveB rfl) ?_
          | refine g_op rfl rfl rfl (run_moveT rfl) ?_
          | refine g_op rfl rfl rfl (run_asgV rfl) ?_
          | refine g_op rfl rfl rfl (run_asgP rfl) ?_
          | refine g_op rfl rfl rfl (run_asgS rfl) ?_
          | refine g_op rfl rfl rfl (run_asgI rfl) ?_
          | refine g_op rfl rfl rfl (run_asgB rfl) ?_
          | refine g_op rfl rfl rfl (run_len Try.underlying22 rfl) ?_
          | refine g_op rfl rfl rfl (run_geqT rfl rfl (by omega)) ?_)
        refine g_nil (g_then (g_cond_true rfl (g_region ?_)))
        repeat (first
          | refine g_op rfl rfl rfl (run_asgV rfl) ?_
          | refine g_op rfl rfl rfl (run_asgP rfl) ?_
          | refine g_op rfl rfl rfl (run_asgS rfl) ?_
          | refine g_op rfl rfl rfl (run_asgI rfl) ?_
          | refine g_op rfl rfl rfl (run_asgB rfl) ?_)
        refine g_nil (g_inb (g_then (g_region ?_)))
        repeat (first
          | refine g_op rfl rfl rfl (run_moveV rfl) ?_
          | refine g_op rfl rfl rfl (run_moveP rfl) ?_
          | refine g_op rfl rfl rfl (run_moveS rfl) ?_
          | refine g_op rfl rfl rfl (run_moveI rfl) ?_
          | refine g_op rfl rfl rfl (run_moveB rfl) ?_
          | refine g_op rfl rfl rfl (run_moveT rfl) ?_
          | refine g_op rfl rfl rfl (run_asgV rfl) ?_
          | refine g_op rfl rfl rfl (run_asgP rfl) ?_
          | refine g_op rfl rfl rfl (run_asgS rfl) ?_
          | refine g_op rfl rfl rfl (run_asgI rfl) ?_
          | refine g_op rfl rfl rfl (run_asgB rfl) ?_
          | refine g_op rfl rfl rfl (run_addI rfl rfl (by omega) (by omega)) ?_)
        exact g_nil (g_then (g_round (3 - q) ⟨rfl, q + 1, by omega, by omega, rfl, rfl, congrArg (Value.int .i64) (by rw [← Nat.add_assoc, e4]; rfl), rfl, rfl, rfl⟩ (by omega)))
      · have e4 := mod_next hge
        repeat (first
          | refine g_op rfl rfl rfl (run_moveV rfl) ?_
          | refine g_op rfl rfl rfl (run_moveP rfl) ?_
          | refine g_op rfl rfl rfl (run_moveS rfl) ?_
          | refine g_op rfl rfl rfl (run_moveI rfl) ?_
          | refine g_op rfl rfl rfl (run_moveB rfl) ?_
          | refine g_op rfl rfl rfl (run_moveT rfl) ?_
          | refine g_op rfl rfl rfl (run_asgV rfl) ?_
          | refine g_op rfl rfl rfl (run_asgP rfl) ?_
          | refine g_op rfl rfl rfl (run_asgS rfl) ?_
          | refine g_op rfl rfl rfl (run_asgI rfl) ?_
          | refine g_op rfl rfl rfl (run_asgB rfl) ?_
          | refine g_op rfl rfl rfl (run_len Try.underlying22 rfl) ?_
          | refine g_op rfl rfl rfl (run_geqF rfl rfl (by omega)) ?_)
        refine g_nil (g_then (g_cond_false rfl (g_skip (g_inb (g_then (g_region ?_))))))
        repeat (first
          | refine g_op rfl rfl rfl (run_moveV rfl) ?_
          | refine g_op rfl rfl rfl (run_moveP rfl) ?_
          | refine g_op rfl rfl rfl (run_moveS rfl) ?_
          | refine g_op rfl rfl rfl (run_moveI rfl) ?_
          | refine g_op rfl rfl rfl (run_moveB rfl) ?_
          | refine g_op rfl rfl rfl (run_moveT rfl) ?_
          | refine g_op rfl rfl rfl (run_asgV rfl) ?_
          | refine g_op rfl rfl rfl (run_asgP rfl) ?_
          | refine g_op rfl rfl rfl (run_asgS rfl) ?_
          | refine g_op rfl rfl rfl (run_asgI rfl) ?_
          | refine g_op rfl rfl rfl (run_asgB rfl) ?_
          | refine g_op rfl rfl rfl (run_addI rfl rfl (by omega) (by omega)) ?_)
        exact g_nil (g_then (g_round (3 - q) ⟨rfl, q + 1, by omega, by omega, rfl, rfl, congrArg (Value.int .i64) (by rw [← Nat.add_assoc, e4]; rfl), rfl, rfl, rfl⟩ (by omega)))
    · obtain rfl : q = 4 := by omega
      refine g_seq (g_seq (g_region ?_))
      repeat (first
        | refine g_op rfl rfl rfl (run_moveV rfl) ?_
        | refine g_op rfl rfl rfl (run_moveP rfl) ?_
        | refine g_op rfl rfl rfl (run_moveS rfl) ?_
        | refine g_op rfl rfl rfl (run_moveI rfl) ?_
        | refine g_op rfl rfl rfl (run_moveB rfl) ?_
        | refine g_op rfl rfl rfl (run_moveT rfl) ?_
        | refine g_op rfl rfl rfl (run_lssT rfl rfl (by omega)) ?_
        | refine g_op rfl rfl rfl (run_lssF rfl rfl (by omega)) ?_)
      refine g_nil (g_then (g_cond_false rfl (g_exit (g_texit (g_texit (g_out (g_then ?_)))))))
      refine a_region (by kernel_rfl) (n := 12) rfl ?_
      first
        | refine a_take 0 rfl rfl rfl rfl (by kernel_rfl) (by kernel_rfl) (by kernel_rfl) (fun _ _ _ h => h) (fun _ => run_moveV rfl) ?_
        | refine a_take 0 rfl rfl rfl rfl (by kernel_rfl) (by kernel_rfl) (by kernel_rfl) (fun _ _ _ h => h) (fun _ => run_moveP rfl) ?_
        | refine a_take 0 rfl rfl rfl rfl (by kernel_rfl) (by kernel_rfl) (by kernel_rfl) (fun _ _ _ h => h) (fun _ => run_moveI rfl) ?_
      first
        | refine a_take 1 rfl rfl rfl rfl (by kernel_rfl) (by kernel_rfl) (by kernel_rfl) (fun _ _ _ h => h) (fun _ => run_moveV rfl) ?_
        | refine a_take 1 rfl rfl rfl rfl (by kernel_rfl) (by kernel_rfl) (by kernel_rfl) (fun _ _ _ h => h) (fun _ => run_moveP rfl) ?_
        | refine a_take 1 rfl rfl rfl rfl (by kernel_rfl) (by kernel_rfl) (by kernel_rfl) (fun _ _ _ h => h) (fun _ => run_moveI rfl) ?_
      first
        | refine a_take 2 rfl rfl rfl rfl (by kernel_rfl) (by kernel_rfl) (by kernel_rfl) (fun _ _ _ h => h) (fun _ => run_nil rfl) ?_
      first
        | refine a_take 3 rfl rfl rfl rfl (by kernel_rfl) (by kernel_rfl) (by kernel_rfl) (fun _ _ _ h => h) (fun _ => run_f44_0 rfl) ?_
      first
        | refine a_take 4 rfl rfl rfl rfl (by kernel_rfl) (by kernel_rfl) (by kernel_rfl) (fun _ _ _ h => h) (fun _ => run_i24z (n := i) rfl rfl (by omega)) ?_
      first
        | refine a_take 6 rfl rfl rfl rfl (by kernel_rfl) (by kernel_rfl) (by kernel_rfl) (fun _ _ _ h => h) (fun _ => run_moveV rfl) ?_
        | refine a_take 6 rfl rfl rfl rfl (by kernel_rfl) (by kernel_rfl) (by kernel_rfl) (fun _ _ _ h => h) (fun _ => run_moveP rfl) ?_
        | refine a_take 6 rfl rfl rfl rfl (by kernel_rfl) (by kernel_rfl) (by kernel_rfl) (fun _ _ _ h => h) (fun _ => run_moveI rfl) ?_
      first
        | refine a_take 8 rfl rfl rfl rfl (by kernel_rfl) (by kernel_rfl) (by kernel_rfl) (fun _ _ _ h => h) (fun _ => run_nil rfl) ?_
      first
        | refine a_take 9 rfl rfl rfl rfl (by kernel_rfl) (by kernel_rfl) (by kernel_rfl) (fun _ _ _ h => h) (fun _ => run_f44_0 rfl) ?_
      refine a_one 5 rfl rfl rfl rfl (by kernel_rfl) (run_load rfl (hTw.drewN 1) (by omega)) ?_
      first
        | refine a_take 7 rfl rfl rfl rfl (by kernel_rfl) (by kernel_rfl) (by kernel_rfl) (fun _ _ _ h => h) (fun _ => run_xor rfl rfl) ?_
      first
        | refine a_take 10 rfl rfl rfl rfl (by kernel_rfl) (by kernel_rfl) (by kernel_rfl) (fun _ _ _ h => h) (fun _ => run_i24z (n := i) rfl rfl (by omega)) ?_
      refine a_store 11 rfl rfl rfl (by kernel_rfl) (run_store rfl rfl (hTw.drewN 1) (by omega)) ?_
      refine a_done (by kernel_rfl) ?_

      refine g_inb (g_then (g_region ?_))
      repeat (first
        | refine g_op rfl rfl rfl (run_moveV rfl) ?_
        | refine g_op rfl rfl rfl (run_moveP rfl) ?_
        | refine g_op rfl rfl rfl (run_moveS rfl) ?_
        | refine g_op rfl rfl rfl (run_moveI rfl) ?_
        | refine g_op rfl rfl rfl (run_moveB rfl) ?_
        | refine g_op rfl rfl rfl (run_moveT rfl) ?_
        | refine g_op rfl rfl rfl (run_asgV rfl) ?_
        | refine g_op rfl rfl rfl (run_asgP rfl) ?_
        | refine g_op rfl rfl rfl (run_asgS rfl) ?_
        | refine g_op rfl rfl rfl (run_asgI rfl) ?_
        | refine g_op rfl rfl rfl (run_asgB rfl) ?_
        | refine g_op rfl rfl rfl (run_addI rfl rfl (by omega) (by omega)) ?_)
      have hfin : Now w g (mixT s kb n (i + 1)) ((w''.drewN 1).setRow g (row (setT (mixT s kb n i) i (mixT s kb n i i ^^^ cyc kb n i)))) := by
        rw [mixT_succ]
        exact (hw.drewN 1).set _
      exact g_nil (g_then (g_round (17 - i) ⟨i + 1, by omega, by omega, rfl, rfl, rfl, rfl, hfin⟩ (by omega)))
  · obtain rfl : i = 18 := by omega
    refine g_seq (g_seq (g_region ?_))
    repeat (first
      | refine g_op rfl rfl rfl (run_moveV rfl) ?_
      | refine g_op rfl rfl rfl (run_moveP rfl) ?_
      | refine g_op rfl rfl rfl (run_moveS rfl) ?_
      | refine g_op rfl rfl rfl (run_moveI rfl) ?_
      | refine g_op rfl rfl rfl (run_moveB rfl) ?_
      | refine g_op rfl rfl rfl (run_moveT rfl) ?_
      | refine g_op rfl rfl rfl (run_lssT rfl rfl (by omega)) ?_
      | refine g_op rfl rfl rfl (run_lssF rfl rfl (by omega)) ?_)
    refine g_nil (g_then (g_cond_false rfl (g_exit (g_texit (g_texit (g_out (g_then (g_seq (g_region ?_)))))))))
    repeat (first
      | refine g_op rfl rfl rfl (run_asgV rfl) ?_
      | refine g_op rfl rfl rfl (run_asgP rfl) ?_
      | refine g_op rfl rfl rfl (run_asgS rfl) ?_
      | refine g_op rfl rfl rfl (run_asgI rfl) ?_
      | refine g_op rfl rfl rfl (run_asgB rfl) ?_)
    refine g_nil (g_then ?_)
    intro a ha
    exact fill3 hT _ w' rfl rfl rfl hw a ha
end Go.Proofs.Ytolkgekbnbgodaa
