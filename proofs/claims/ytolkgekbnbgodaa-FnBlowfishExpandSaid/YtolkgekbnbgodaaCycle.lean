/- The reference's numbers of bytes that are taken round and round: spec.cycle. -/
import Derived.Test.YtolkgekbnbgodaaOps2
namespace Go.Proofs.Ytolkgekbnbgodaa
open Go Go.RowKit
/-- The number of so many bytes from a place on, taken round and round. -/
def wdk (kb : Nat → Nat) (n a : Nat) : Nat → BitVec 32
  | 0 => 0#32
  | q + 1 => (wdk kb n a q <<< 8) ||| BitVec.ofNat 32 (kb ((a + q) % n))
def cyc (kb : Nat → Nat) (n i : Nat) : BitVec 32 := wdk kb n (4 * i) 4
def cycs (kb : Nat → Nat) (n m : Nat) : List Value := (List.range m).map fun i => V (cyc kb n i)
theorem cycs_succ (kb : Nat → Nat) (n m : Nat) : cycs kb n (m + 1) = cycs kb n m ++ [V (cyc kb n m)] := by
  simp [cycs, List.range_succ]

theorem cell_new1 (w : World) (v : Value) (t : TypeId) : ∀ j u, [v][j]? = some u → (w.alloc (.cells #[v] t)).cell? ((⟨w.heap.size, 0, none⟩ : Addr).add j) = some u := by
  intro j u hj
  match j with
  | 0 =>
    have e : v = u := by simpa using hj
    rw [Addr.add_zero', cell_of_row _ _ _ _ _ _ (heap_alloc_new w _), ← e]
    rfl
  | j + 1 => simp at hj
theorem own_block_ge {w : World} {B e n : Nat} {v : Value} {xs : List Value} (h : w.ownsRow B e 1 v n xs) {b : Nat} (hb : v.ownBlock = some b) : B ≤ b := by
  rcases h.2 with ⟨rfl, _⟩ | ⟨g, cap, cur, rfl, hg, _⟩
  · simp [Value.ownBlock] at hb
  · simp only [Value.ownBlock, Option.some.injEq] at hb
    omega

theorem cycle_any (ad : Addr) (n c m : Nat) (kb : Nat → Nat) (w : World) (hn0 : 0 < n) (hm : m ≤ 1042) (hk : Bytes w ad n kb) (had : ad.block < w.heap.size) :
    Calls Try.prog 10 #[.slice (some ad) n c, .int .i64 (m : Int)] w fun e w' => ∃ v, e = .returned v ∧ (w'.ownsRow w.heap.size 23 1 v m (cycs kb n m) ∧ Below w.heap.size w w') := by
  refine g_enter (l := [_, _]) Try.func10 rfl Try.ntmps10 rfl ?_
  refine g_seq (g_region ?_)
  repeat (first
    | refine g_op rfl rfl rfl (run_asgV rfl) ?_
    | refine g_op rfl rfl rfl (run_asgP rfl) ?_
    | refine g_op rfl rfl rfl (run_asgS rfl) ?_
    | refine g_op rfl rfl rfl (run_asgI rfl) ?_
    | refine g_op rfl rfl rfl (run_asgB rfl) ?_)
  refine g_nil (g_then (g_seq (g_region ?_)))
  refine g_op rfl rfl rfl (run_bs0 Try.underlying38 sz23) ?_
  repeat (first
    | refine g_op rfl rfl rfl (run_moveV rfl) ?_
    | refine g_op rfl rfl rfl (run_moveP rfl) ?_
    | refine g_op rfl rfl rfl (run_moveS rfl) ?_
    | refine g_op rfl rfl rfl (run_moveI rfl) ?_
    | refine g_op rfl rfl rfl (run_moveB rfl) ?_
    | refine g_op rfl rfl rfl (run_moveT rfl) ?_
    | refine g_op rfl rfl rfl (run_asgV rfl) ?_
    | refine g_op rfl rfl rfl (run_asgP rfl) ?_
    | refine g_op rfl rfl rfl (run_asgS rfl) ?_
    | refine g_op rfl rfl rfl (run_asgI rfl) ?_
    | refine g_op rfl rfl rfl (run_asgB rfl) ?_)
  refine g_nil (g_then (g_seq (g_region ?_)))
  repeat (first
    | refine g_op rfl rfl rfl (run_moveV rfl) ?_
    | refine g_op rfl rfl rfl (run_moveP rfl) ?_
    | refine g_op rfl rfl rfl (run_moveS rfl) ?_
    | refine g_op rfl rfl rfl (run_moveI rfl) ?_
    | refine g_op rfl rfl rfl (run_moveB rfl) ?_
    | refine g_op rfl rfl rfl (run_moveT rfl) ?_
    | refine g_op rfl rfl rfl (run_asgV rfl) ?_
    | refine g_op rfl rfl rfl (run_asgP rfl) ?_
    | refine g_op rfl rfl rfl (run_asgS rfl) ?_
    | refine g_op rfl rfl rfl (run_asgI rfl) ?_
    | refine g_op rfl rfl rfl (run_asgB rfl) ?_)
  refine g_nil (g_then (g_seq (g_block ?_)))
  refine g_loop (fun f w' μ => ∃ (k : Nat) (v : Value), k ≤ m ∧ μ = m - k ∧ f 0 = .slice (some ad) n c ∧ f 1 = .int .i64 ((m : Int) - (k : Int)) ∧ f 5 = v ∧ f 6 = .int .i64 ((4 * k : Nat) : Int) ∧
      w'.ownsRow w.heap.size 23 1 v k (cycs kb n k) ∧ Below w.heap.size w w') m
    ⟨0, _, by omega, by omega, rfl, congrArg (Value.int .i64) (by omega), rfl, rfl, World.ownsRow_lit w #[] 0 (Nat.le_refl _) (by simp [maxLen]) rfl, (Below.refl _ _).alloc (Nat.le_refl _) _⟩ ?_
  rintro f w' μ ⟨k, v, hkm, rfl, h0, h1, h5, h6, hown, hbel⟩
  refine G.known (d := 6) h6 (G.known (d := 5) h5 (G.known (d := 1) h1 (G.known (d := 0) h0 ?_)))
  clear h0 h1 h5 h6
  have hk' : Bytes w' ad n kb := hk.below hbel had
  by_cases hlt : k < m
  · refine g_seq (g_seq (g_region ?_))
    refine g_op rfl rfl rfl (run_moveI rfl) ?_
    refine g_op rfl rfl rfl (run_gtrT rfl rfl (by omega)) ?_
    refine g_nil (g_then (g_cond_true rfl (g_skip (g_then (g_seq (g_block (g_seq (g_region ?_))))))))
    repeat (first
      | refine g_op rfl rfl rfl (run_asgV rfl) ?_
      | refine g_op rfl rfl rfl (run_asgP rfl) ?_
      | refine g_op rfl rfl rfl (run_asgS rfl) ?_
      | refine g_op rfl rfl rfl (run_asgI rfl) ?_
      | refine g_op rfl rfl rfl (run_asgB rfl) ?_)
    refine g_nil (g_then (g_seq (g_seq (g_region ?_))))
    repeat (first
      | refine g_op rfl rfl rfl (run_asgV rfl) ?_
      | refine g_op rfl rfl rfl (run_asgP rfl) ?_
      | refine g_op rfl rfl rfl (run_asgS rfl) ?_
      | refine g_op rfl rfl rfl (run_asgI rfl) ?_
      | refine g_op rfl rfl rfl (run_asgB rfl) ?_)
    refine g_nil (g_then (g_block ?_))
    refine g_loop (fun f' w'' μ => w'' = w' ∧ ∃ q : Nat, q ≤ 4 ∧ μ = 4 - q ∧ f' 0 = .slice (some ad) n c ∧ f' 1 = .int .i64 ((m : Int) - (k : Int)) ∧ f' 5 = v ∧ f' 6 = .int .i64 ((4 * k + q : Nat) : Int) ∧
        f' 7 = V (wdk kb n (4 * k) q) ∧ f' 8 = .int .i64 (q : Int)) 4 ⟨rfl, 0, by omega, rfl, rfl, rfl, rfl, rfl, rfl, rfl⟩ ?_
    clear f
    rintro f w'' μ ⟨hw'', q, hq, rfl, h0, h1, h5, h6, h7, h8⟩
    refine G.known (d := 8) h8 (G.known (d := 7) h7 (G.known (d := 6) h6 (G.known (d := 5) h5 (G.known (d := 1) h1 (G.known (d := 0) h0 ?_)))))
    clear h0 h1 h5 h6 h7 h8
    subst hw''
    by_cases hq4 : q < 4
    · have hmod : (4 * k + q) % n < n := Nat.mod_lt _ hn0
      refine g_seq (g_seq (g_region ?_))
      repeat (first
        | refine g_op rfl rfl rfl (run_moveV rfl) ?_
        | refine g_op rfl rfl rfl (run_moveP rfl) ?_
        | refine g_op rfl rfl rfl (run_moveS rfl) ?_
        | refine g_op rfl rfl rfl (run_moveI rfl) ?_
        | refine g_op rfl rfl rfl (run_moveB rfl) ?_
        | refine g_op rfl rfl rfl (run_moveT rfl) ?_
        | refine g_op rfl rfl rfl (run_lssT rfl rfl (by omega)) ?_
        | refine g_op rfl rfl rfl (run_lssF rfl rfl (by omega)) ?_)
      refine g_nil (g_then (g_cond_true rfl (g_skip (g_then (g_seq (g_block (g_seq (g_region ?_))))))))
      repeat (first
        | refine g_op rfl rfl rfl (run_moveV rfl) ?_
        | refine g_op rfl rfl rfl (run_moveP rfl) ?_
        | refine g_op rfl rfl rfl (run_moveS rfl) ?_
        | refine g_op rfl rfl rfl (run_moveI rfl) ?_
        | refine g_op rfl rfl rfl (run_moveB rfl) ?_
        | refine g_op rfl rfl rfl (run_moveT rfl) ?_
        | refine g_op rfl rfl rfl (run_asgV rfl) ?_
        | refine g_op rfl rfl rfl (run_asgP rfl) ?_
        | refine g_op rfl rfl rfl (run_asgS rfl) ?_
        | refine g_op rfl rfl rfl (run_asgI rfl) ?_
        | refine g_op rfl rfl rfl (run_asgB rfl) ?_
        | refine g_op rfl rfl rfl (run_xor rfl rfl) ?_
        | refine g_op rfl rfl rfl (run_add rfl rfl) ?_
        | refine g_op rfl rfl rfl (run_or rfl rfl) ?_
        | refine g_op rfl rfl rfl (run_and255 rfl rfl) ?_
        | refine g_op rfl rfl rfl (run_shr24 rfl rfl) ?_
        | refine g_op rfl rfl rfl (run_shr16 rfl rfl) ?_
        | refine g_op rfl rfl rfl (run_shr8 rfl rfl) ?_
        | refine g_op rfl rfl rfl (run_shl8 rfl rfl) ?_
        | refine g_op rfl rfl rfl (run_conv8 rfl) ?_
        | refine g_op rfl rfl rfl (run_len Try.underlying22 rfl) ?_
        | refine g_op rfl rfl rfl (run_rem rfl rfl (by omega)) ?_
        | refine g_op rfl rfl rfl (run_sidx Try.underlying22 sz5 rfl rfl hmod) ?_
        | refine g_op rfl rfl rfl (run_load1 Try.underlying5 rfl rfl (hk' _ hmod)) ?_
        | refine g_op rfl rfl rfl (run_conv32 rfl) ?_)
      refine g_nil (g_then (g_region ?_))
      repeat (first
        | refine g_op rfl rfl rfl (run_moveV rfl) ?_
        | refine g_op rfl rfl rfl (run_moveP rfl) ?_
        | refine g_op rfl rfl rfl (run_moveS rfl) ?_
        | refine g_op rfl rfl rfl (run_moveI rfl) ?_
        | refine g_op rfl rfl rfl (run_moveB rfl) ?_
        | refine g_op rfl rfl rfl (run_moveT rfl) ?_
        | refine g_op rfl rfl rfl (run_asgV rfl) ?_
        | refine g_op rfl rfl rfl (run_asgP rfl) ?_
        | refine g_op rfl rfl rfl (run_asgS rfl) ?_
        | refine g_op rfl rfl rfl (run_asgI rfl) ?_
        | refine g_op rfl rfl rfl (run_asgB rfl) ?_
        | refine g_op rfl rfl rfl (run_addI rfl rfl (by omega) (by omega)) ?_)
      refine g_nil (g_region ?_)
      repeat (first
        | refine g_op rfl rfl rfl (run_moveV rfl) ?_
        | refine g_op rfl rfl rfl (run_moveP rfl) ?_
        | refine g_op rfl rfl rfl (run_moveS rfl) ?_
        | refine g_op rfl rfl rfl (run_moveI rfl) ?_
        | refine g_op rfl rfl rfl (run_moveB rfl) ?_
        | refine g_op rfl rfl rfl (run_moveT rfl) ?_
        | refine g_op rfl rfl rfl (run_asgV rfl) ?_
        | refine g_op rfl rfl rfl (run_asgP rfl) ?_
        | refine g_op rfl rfl rfl (run_asgS rfl) ?_
        | refine g_op rfl rfl rfl (run_asgI rfl) ?_
        | refine g_op rfl rfl rfl (run_asgB rfl) ?_
        | refine g_op rfl rfl rfl (run_addI rfl rfl (by omega) (by omega)) ?_)
      refine g_nil (g_then (g_round (3 - q) ⟨rfl, q + 1, by omega, by omega, rfl, rfl, rfl, rfl, rfl, rfl⟩ (by omega)))
    · obtain rfl : q = 4 := by omega
      refine g_seq (g_seq (g_region ?_))
      repeat (first
        | refine g_op rfl rfl rfl (run_moveV rfl) ?_
        | refine g_op rfl rfl rfl (run_moveP rfl) ?_
        | refine g_op rfl rfl rfl (run_moveS rfl) ?_
        | refine g_op rfl rfl rfl (run_moveI rfl) ?_
        | refine g_op rfl rfl rfl (run_moveB rfl) ?_
        | refine g_op rfl rfl rfl (run_moveT rfl) ?_
        | refine g_op rfl rfl rfl (run_lssT rfl rfl (by omega)) ?_
        | refine g_op rfl rfl rfl (run_lssF rfl rfl (by omega)) ?_)
      refine g_nil (g_then (g_cond_false rfl (g_exit (g_texit (g_texit (g_out (g_then (g_region ?_))))))))
      refine g_op rfl rfl rfl (run_move (v := v) rfl) ?_
      refine g_op rfl rfl rfl (run_moveV rfl) ?_
      refine g_op rfl rfl rfl (run_bs1 Try.underlying38 info23 (V_cells (wdk kb n (4 * k) 4)) rfl) ?_
      refine g_app Try.underlying38 info23 rfl (by omega) rfl rfl (hown.alloc _) (news := [V (wdk kb n (4 * k) 4)]) rfl rfl ?_ ?_ (by omega) ?_ ?_
      · exact cell_new1 _ _ _
      · intro u hu
        rw [List.mem_singleton.1 hu]
        rfl
      · rw [alloc_size]
        exact Nat.le_succ_of_le hbel.size
      intro v' w2 hown2 hg2
      refine g_op rfl rfl rfl (run_asg (v := v') rfl) ?_
      refine g_nil (g_region ?_)
      refine g_op rfl rfl rfl (run_moveI rfl) ?_
      refine g_op rfl rfl rfl (run_subI rfl rfl (by omega) (by omega)) ?_
      refine g_op rfl rfl rfl (run_asgI rfl) ?_
      have hg3 : (w''.alloc (.cells #[V (wdk kb n (4 * k) 4)] 23)).grownBy w2 v.ownBlock := hg2
      refine g_nil (g_then (g_round (m - (k + 1)) ⟨k + 1, v', by omega, rfl, rfl, congrArg (Value.int .i64) (by omega), rfl, rfl, ?_, ?_⟩ (by omega)))
      · rw [cycs_succ]
        exact hown2
      · refine (hbel.alloc hbel.size _).grown hg3 ?_ ?_
        · rw [alloc_size]
          exact Nat.le_succ_of_le hbel.size
        · intro b hb
          exact own_block_ge hown hb
  · obtain rfl : k = m := by omega
    refine g_seq (g_seq (g_region ?_))
    refine g_op rfl rfl rfl (run_moveI rfl) ?_
    refine g_op rfl rfl rfl (run_gtrF rfl rfl (by omega)) ?_
    refine g_nil (g_then (g_cond_false rfl (g_exit (g_texit (g_texit (g_out (g_then (g_seq (g_region ?_)))))))))
    refine g_op rfl rfl rfl (run_move (v := v) rfl) ?_
    refine g_op rfl rfl rfl (run_asg (v := v) rfl) ?_
    exact g_nil (g_then (g_ret (g_ret1 rfl rfl ⟨v, rfl, hown, hbel⟩)))
end Go.Proofs.Ytolkgekbnbgodaa
