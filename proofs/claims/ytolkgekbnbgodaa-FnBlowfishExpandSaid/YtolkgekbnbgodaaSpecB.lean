/- The reference's key schedule, its second half (spec.Expand). -/
import Derived.Test.YtolkgekbnbgodaaRow
namespace Go.Proofs.Ytolkgekbnbgodaa
open Go Go.RowKit
noncomputable def body5 : Code := Try.f5.body.getD .skip
def SpR (B : Nat) (w0 : World) (s : Tbl) (e : Ending) (w' : World) : Prop := e = .returned (.agg (row s)) ∧ Below B w0 w'

set_option maxHeartbeats 2000000 in
/-- The second half: from the place where both halves of the block are set to zero. -/
theorem spec_fill {W w0 : World} {B g g1 g9 c9 : Nat} {m : Tbl} {old : Array Value} (hT : Tab w0 g m 28) (hg1 : w0.heap[g1]? = some (.cells old 28 (0, 0))) (hold : old.size = 1042) (hne : g1 ≠ g) (hN : Nums w0 g9 1042 (fun _ => 0#32)) (hne9 : g9 ≠ g)
    (hb : Below B W w0) (hB : B ≤ g) (hB1 : B ≤ g1) (f : Nat → Value) (h3 : f 3 = .pointer (some ⟨g, 0, none⟩)) (h6 : f 6 = .pointer (some ⟨g1, 0, none⟩)) (h9 : f 9 = .slice (some ⟨g9, 0, none⟩) 1042 c9) :
    G 90 f fun a => (restOf 4 body5).wp Try.prog (bodyPost Try.prog Try.f5 (SpR B W (fillS m 521).1)) a w0 := by
  refine G.known (d := 9) h9 (G.known (d := 6) h6 (G.known (d := 3) h3 ?_))
  refine g_seq (g_region ?_)
  repeat (first
    | refine g_op rfl rfl rfl (run_asgV rfl) ?_
    | refine g_op rfl rfl rfl (run_asgP rfl) ?_
    | refine g_op rfl rfl rfl (run_asgS rfl) ?_
    | refine g_op rfl rfl rfl (run_asgI rfl) ?_
    | refine g_op rfl rfl rfl (run_asgB rfl) ?_)
  refine g_nil (g_then (g_seq (g_seq (g_region ?_))))
  repeat (first
    | refine g_op rfl rfl rfl (run_asgV rfl) ?_
    | refine g_op rfl rfl rfl (run_asgP rfl) ?_
    | refine g_op rfl rfl rfl (run_asgS rfl) ?_
    | refine g_op rfl rfl rfl (run_asgI rfl) ?_
    | refine g_op rfl rfl rfl (run_asgB rfl) ?_)
  refine g_nil (g_then (g_block ?_))
  refine g_loop (fun f w' μ => ∃ j : Nat, j ≤ 521 ∧ μ = 521 - j ∧ f 3 = .pointer (some ⟨g, 0, none⟩) ∧ f 6 = .pointer (some ⟨g1, 0, none⟩) ∧ f 9 = .slice (some ⟨g9, 0, none⟩) 1042 c9 ∧ f 10 = V (fillS m j).2.1 ∧ f 11 = V (fillS m j).2.2 ∧ f 12 = .int .i64 ((2 * j : Nat) : Int) ∧ Now w0 g (fillS m j).1 w') 521
    ⟨0, by omega, by omega, rfl, rfl, rfl, rfl, rfl, rfl, Now.start hT⟩ ?_
  clear h3 h6 h9 f
  rintro f w μ ⟨j, hj, rfl, h3, h6, h9, h10, h11, h12, hw⟩
  refine G.known (d := 12) h12 (G.known (d := 11) h11 (G.known (d := 10) h10 (G.known (d := 9) h9 (G.known (d := 6) h6 (G.known (d := 3) h3 ?_)))))
  clear h3 h6 h9 h10 h11 h12
  have hTw := hw.tab hT
  by_cases hlt : j < 521
  · refine g_seq (g_seq (g_region ?_))
    repeat (first
      | refine g_op rfl rfl rfl (run_moveV rfl) ?_
      | refine g_op rfl rfl rfl (run_moveP rfl) ?_
      | refine g_op rfl rfl rfl (run_moveS rfl) ?_
      | refine g_op rfl rfl rfl (run_moveI rfl) ?_
      | refine g_op rfl rfl rfl (run_moveB rfl) ?_
      | refine g_op rfl rfl rfl (run_moveT rfl) ?_
      | refine g_op rfl rfl rfl (run_lssT rfl rfl (by omega)) ?_
      | refine g_op rfl rfl rfl (run_lssF rfl rfl (by omega)) ?_)
    refine g_nil (g_then (g_cond_true rfl (g_skip (g_then (g_seq (g_block (g_seq (q_region (by kernel_rfl) (by kernel_rfl) ?_))))))))
    have hC : ∀ w', (∃ n', w' = w.drewN n') → Tab w' g (fillS m j).1 28 := by rintro w' ⟨n', rfl⟩; exact hTw
    have hC9 : ∀ w', (∃ n', w' = w.drewN n') → Nums w' g9 1042 (fun _ => 0#32) := by rintro w' ⟨n', rfl⟩; exact Nums.now (hw.drewN n') hN hne9
    have hcr : ∀ w', (∃ n', w' = w.drewN n') → Calls Try.prog 11 #[.pointer (some ⟨g, 0, none⟩), V ((fillS m j).2.1 ^^^ 0#32), V ((fillS m j).2.2 ^^^ 0#32)] w' fun e w'' =>
        e = .returned (.tuple #[V (crypt (fillS m j).1 (fillS m j).2).1, V (crypt (fillS m j).1 (fillS m j).2).2]) ∧ ∃ n', w'' = w.drewN n' := by
      rintro w' ⟨n', rfl⟩
      have h := crypt_any g 28 (fillS m j).1 ((fillS m j).2.1 ^^^ 0#32) ((fillS m j).2.2 ^^^ 0#32) (w.drewN n') hTw
      simp only [BitVec.xor_zero] at h ⊢
      exact h.mono fun e w'' ⟨he, n2, hn2⟩ => ⟨he, n' + n2, hn2.trans (World.drewN_drewN _ _ _)⟩
    repeat (first
      | refine q_op rfl rfl rfl (fun w hw => run_moveV rfl) ?_
      | refine q_op rfl rfl rfl (fun w hw => run_moveP rfl) ?_
      | refine q_op rfl rfl rfl (fun w hw => run_moveS rfl) ?_
      | refine q_op rfl rfl rfl (fun w hw => run_moveI rfl) ?_
      | refine q_op rfl rfl rfl (fun w hw => run_moveB rfl) ?_
      | refine q_op rfl rfl rfl (fun w hw => run_moveT rfl) ?_
      | refine q_op rfl rfl rfl (fun w hw => run_asgV rfl) ?_
      | refine q_op rfl rfl rfl (fun w hw => run_asgP rfl) ?_
      | refine q_op rfl rfl rfl (fun w hw => run_asgS rfl) ?_
      | refine q_op rfl rfl rfl (fun w hw => run_asgI rfl) ?_
      | refine q_op rfl rfl rfl (fun w hw => run_asgB rfl) ?_
      | refine q_op rfl rfl rfl (fun w hw => run_xor rfl rfl) ?_
      | refine q_op rfl rfl rfl (fun w hw => run_add rfl rfl) ?_
      | refine q_op rfl rfl rfl (fun w hw => run_or rfl rfl) ?_
      | refine q_op rfl rfl rfl (fun w hw => run_and255 rfl rfl) ?_
      | refine q_op rfl rfl rfl (fun w hw => run_shr24 rfl rfl) ?_
      | refine q_op rfl rfl rfl (fun w hw => run_shr16 rfl rfl) ?_
      | refine q_op rfl rfl rfl (fun w hw => run_shr8 rfl rfl) ?_
      | refine q_op rfl rfl rfl (fun w hw => run_shl8 rfl rfl) ?_
      | refine q_op rfl rfl rfl (fun w hw => run_conv8 rfl) ?_
      | refine q_op rfl rfl rfl (fun w hw => run_ext rfl rfl) ?_
      | refine q_op rfl rfl rfl (fun w hw => run_addI rfl rfl (by omega) (by omega)) ?_
      | refine q_op rfl rfl rfl (fun w hw => run_sidx (i := 2 * j) Try.underlying38 sz23 rfl rfl (by omega)) ?_
      | refine q_op rfl rfl rfl (fun w hw => run_sidx (i := 2 * j + 1) Try.underlying38 sz23 rfl rfl (by omega)) ?_
      | refine q_op rfl rfl rfl (fun w hw => run_load1 Try.underlying23 rfl rfl (hC9 w hw (2 * j) (by omega))) ?_
      | refine q_op rfl rfl rfl (fun w hw => run_load1 Try.underlying23 rfl rfl (hC9 w hw (2 * j + 1) (by omega))) ?_)
    refine q_call rfl rfl rfl (fun w hw => run_enter3 (va := .pointer (some ⟨g, 0, none⟩)) (vb := V ((fillS m j).2.1 ^^^ 0#32)) (vc := V ((fillS m j).2.2 ^^^ 0#32)) Try.func11 nm11 rfl rfl rfl rfl) hcr ?_
    repeat (first
      | refine q_op rfl rfl rfl (fun w hw => run_moveV rfl) ?_
      | refine q_op rfl rfl rfl (fun w hw => run_moveP rfl) ?_
      | refine q_op rfl rfl rfl (fun w hw => run_moveS rfl) ?_
      | refine q_op rfl rfl rfl (fun w hw => run_moveI rfl) ?_
      | refine q_op rfl rfl rfl (fun w hw => run_moveB rfl) ?_
      | refine q_op rfl rfl rfl (fun w hw => run_moveT rfl) ?_
      | refine q_op rfl rfl rfl (fun w hw => run_asgV rfl) ?_
      | refine q_op rfl rfl rfl (fun w hw => run_asgP rfl) ?_
      | refine q_op rfl rfl rfl (fun w hw => run_asgS rfl) ?_
      | refine q_op rfl rfl rfl (fun w hw => run_asgI rfl) ?_
      | refine q_op rfl rfl rfl (fun w hw => run_asgB rfl) ?_
      | refine q_op rfl rfl rfl (fun w hw => run_ext rfl rfl) ?_)
    refine q_nil (g_all fun n2 => g_then ?_)
    have hTn := hTw.drewN n2
    have hNn := hw.drewN n2
    obtain ⟨S, hS⟩ : ∃ S, S = (fillS m j).1 := ⟨_, rfl⟩
    obtain ⟨q, hq⟩ : ∃ q, q = crypt (fillS m j).1 (fillS m j).2 := ⟨_, rfl⟩
    refine G.gen6 (d1 := 3) (d2 := 6) (d3 := 9) (d4 := 10) (d5 := 11) (d6 := 12) (v1 := .pointer (some ⟨g, 0, none⟩)) (v2 := .pointer (some ⟨g1, 0, none⟩)) (v3 := .slice (some ⟨g9, 0, none⟩) 1042 c9) (v4 := V q.1) (v5 := V q.2) (v6 := .int .i64 ((2 * j : Nat) : Int)) rfl rfl rfl (by rw [hq]; rfl) (by rw [hq]; rfl) rfl ?_
    clear f hC hC9 hcr
    intro f h3 h6 h9 h10 h11 h12
    rw [← hS] at hTn hNn
    refine G.known (d := 12) h12 (G.known (d := 11) h11 (G.known (d := 10) h10 (G.known (d := 9) h9 (G.known (d := 6) h6 (G.known (d := 3) h3 ?_)))))
    clear h3 h6 h9 h10 h11 h12
    refine g_seq (g_region ?_)
    by_cases h18 : j < 9
    · refine g_op rfl rfl rfl (run_moveI rfl) ?_
      refine g_op rfl rfl rfl (run_lssT rfl rfl (by omega)) ?_
      refine g_nil (g_then (g_cond_true rfl (g_region ?_)))
      repeat (first
        | refine g_op rfl rfl rfl (run_moveV rfl) ?_
        | refine g_op rfl rfl rfl (run_moveP rfl) ?_
        | refine g_op rfl rfl rfl (run_moveS rfl) ?_
        | refine g_op rfl rfl rfl (run_moveI rfl) ?_
        | refine g_op rfl rfl rfl (run_moveB rfl) ?_
        | refine g_op rfl rfl rfl (run_moveT rfl) ?_
        | refine g_op rfl rfl rfl (run_addI rfl rfl (by omega) (by omega)) ?_
        | refine g_op rfl rfl rfl (run_nil rfl) ?_
        | refine g_op rfl rfl rfl (run_f28_0 rfl) ?_
        | refine g_op rfl rfl rfl (run_f28_1 rfl) ?_
        | refine g_op rfl rfl rfl (run_f44_0 rfl) ?_
        | refine g_op rfl rfl rfl (run_f44_1 rfl) ?_
        | refine g_op rfl rfl rfl (run_f44_2 rfl) ?_
        | refine g_op rfl rfl rfl (run_f44_3 rfl) ?_
        | refine g_op rfl rfl rfl (run_f44_4 rfl) ?_)
      refine g_op rfl rfl rfl (run_i24z (n := 2 * j) rfl rfl (by omega)) ?_
      refine g_store rfl rfl (run_store rfl rfl hTn (by omega)) ?_
      repeat (first
        | refine g_op rfl rfl rfl (run_moveV rfl) ?_
        | refine g_op rfl rfl rfl (run_moveP rfl) ?_
        | refine g_op rfl rfl rfl (run_moveS rfl) ?_
        | refine g_op rfl rfl rfl (run_moveI rfl) ?_
        | refine g_op rfl rfl rfl (run_moveB rfl) ?_
        | refine g_op rfl rfl rfl (run_moveT rfl) ?_
        | refine g_op rfl rfl rfl (run_addI rfl rfl (by omega) (by omega)) ?_
        | refine g_op rfl rfl rfl (run_nil rfl) ?_
        | refine g_op rfl rfl rfl (run_f28_0 rfl) ?_
        | refine g_op rfl rfl rfl (run_f28_1 rfl) ?_
        | refine g_op rfl rfl rfl (run_f44_0 rfl) ?_
        | refine g_op rfl rfl rfl (run_f44_1 rfl) ?_
        | refine g_op rfl rfl rfl (run_f44_2 rfl) ?_
        | refine g_op rfl rfl rfl (run_f44_3 rfl) ?_
        | refine g_op rfl rfl rfl (run_f44_4 rfl) ?_)
      refine g_op rfl rfl rfl (run_i24z (n := 2 * j + 1) rfl rfl (by omega)) ?_
      refine g_store rfl rfl (run_store rfl rfl (hTn.set _) (by omega)) ?_
      refine g_nil ?_
      refine g_inb (g_then (g_region ?_))
      repeat (first
        | refine g_op rfl rfl rfl (run_moveV rfl) ?_
        | refine g_op rfl rfl rfl (run_moveP rfl) ?_
        | refine g_op rfl rfl rfl (run_moveS rfl) ?_
        | refine g_op rfl rfl rfl (run_moveI rfl) ?_
        | refine g_op rfl rfl rfl (run_moveB rfl) ?_
        | refine g_op rfl rfl rfl (run_moveT rfl) ?_
        | refine g_op rfl rfl rfl (run_asgV rfl) ?_
        | refine g_op rfl rfl rfl (run_asgP rfl) ?_
        | refine g_op rfl rfl rfl (run_asgS rfl) ?_
        | refine g_op rfl rfl rfl (run_asgI rfl) ?_
        | refine g_op rfl rfl rfl (run_asgB rfl) ?_
        | refine g_op rfl rfl rfl (run_addI rfl rfl (by omega) (by omega)) ?_)
      have hfin : Now w0 g (fillS m (j + 1)).1 ((((w.drewN n2)).setRow g (row (setT S (2 * j) q.1))).setRow g (row (setT (setT S (2 * j) q.1) (2 * j + 1) q.2))) := by
        have e : (fillS m (j + 1)).1 = setT (setT S (2 * j) q.1) (2 * j + 1) q.2 := by
          have e1 : 2 * j = 2 * j := by omega
          have e2 : 2 * j + 1 = 2 * j + 1 := by omega
          rw [e2, e1, hS, hq]
          rfl
        rw [e]
        exact (hNn.set _).set _
      have e8 : V q.1 = V (fillS m (j + 1)).2.1 := by rw [hq]; rfl
      have e9 : V q.2 = V (fillS m (j + 1)).2.2 := by rw [hq]; rfl
      exact g_nil (g_then (g_round (520 - j) ⟨j + 1, by omega, by omega, rfl, rfl, rfl, e8, e9, congrArg (Value.int .i64) (by omega), hfin⟩ (by omega)))
    · refine g_op rfl rfl rfl (run_moveI rfl) ?_
      refine g_op rfl rfl rfl (run_lssF rfl rfl (by omega)) ?_
      refine g_nil (g_then (g_cond_false rfl (g_seq (g_region ?_))))
      refine g_op rfl rfl rfl (run_moveI rfl) ?_
      refine g_op rfl rfl rfl (run_subI rfl rfl (by omega) (by omega)) ?_
      refine g_op rfl rfl rfl (run_asgI rfl) ?_
      refine g_nil (g_then ?_)
      refine G.known (d := 13) (v := .int .i64 ((2 * j - 18 : Nat) : Int)) (congrArg (Value.int .i64) (by omega)) ?_
      refine a_region (by kernel_rfl) (n := 19) rfl ?_
      first
        | refine a_take 0 rfl rfl rfl rfl (by kernel_rfl) (by kernel_rfl) (by kernel_rfl) (fun _ _ _ h => h) (fun _ => run_moveV rfl) ?_
        | refine a_take 0 rfl rfl rfl rfl (by kernel_rfl) (by kernel_rfl) (by kernel_rfl) (fun _ _ _ h => h) (fun _ => run_moveP rfl) ?_
        | refine a_take 0 rfl rfl rfl rfl (by kernel_rfl) (by kernel_rfl) (by kernel_rfl) (fun _ _ _ h => h) (fun _ => run_moveI rfl) ?_
      first
        | refine a_take 1 rfl rfl rfl rfl (by kernel_rfl) (by kernel_rfl) (by kernel_rfl) (fun _ _ _ h => h) (fun _ => run_quo (m := 2 * j - 18) (n := 256) rfl rfl (by omega) (by omega)) ?_
      first
        | refine a_take 2 rfl rfl rfl rfl (by kernel_rfl) (by kernel_rfl) (by kernel_rfl) (fun _ _ _ h => h) (fun _ => run_moveV rfl) ?_
        | refine a_take 2 rfl rfl rfl rfl (by kernel_rfl) (by kernel_rfl) (by kernel_rfl) (fun _ _ _ h => h) (fun _ => run_moveP rfl) ?_
        | refine a_take 2 rfl rfl rfl rfl (by kernel_rfl) (by kernel_rfl) (by kernel_rfl) (fun _ _ _ h => h) (fun _ => run_moveI rfl) ?_
      first
        | refine a_take 3 rfl rfl rfl rfl (by kernel_rfl) (by kernel_rfl) (by kernel_rfl) (fun _ _ _ h => h) (fun _ => run_rem (m := 2 * j - 18) (n := 256) rfl rfl (by omega)) ?_
      first
        | refine a_take 4 rfl rfl rfl rfl (by kernel_rfl) (by kernel_rfl) (by kernel_rfl) (fun _ _ _ h => h) (fun _ => run_moveV rfl) ?_
        | refine a_take 4 rfl rfl rfl rfl (by kernel_rfl) (by kernel_rfl) (by kernel_rfl) (fun _ _ _ h => h) (fun _ => run_moveP rfl) ?_
        | refine a_take 4 rfl rfl rfl rfl (by kernel_rfl) (by kernel_rfl) (by kernel_rfl) (fun _ _ _ h => h) (fun _ => run_moveI rfl) ?_
      first
        | refine a_take 5 rfl rfl rfl rfl (by kernel_rfl) (by kernel_rfl) (by kernel_rfl) (fun _ _ _ h => h) (fun _ => run_quo (m := 2 * j - 18) (n := 256) rfl rfl (by omega) (by omega)) ?_
      first
        | refine a_take 6 rfl rfl rfl rfl (by kernel_rfl) (by kernel_rfl) (by kernel_rfl) (fun _ _ _ h => h) (fun _ => run_moveV rfl) ?_
        | refine a_take 6 rfl rfl rfl rfl (by kernel_rfl) (by kernel_rfl) (by kernel_rfl) (fun _ _ _ h => h) (fun _ => run_moveP rfl) ?_
        | refine a_take 6 rfl rfl rfl rfl (by kernel_rfl) (by kernel_rfl) (by kernel_rfl) (fun _ _ _ h => h) (fun _ => run_moveI rfl) ?_
      first
        | refine a_take 7 rfl rfl rfl rfl (by kernel_rfl) (by kernel_rfl) (by kernel_rfl) (fun _ _ _ h => h) (fun _ => run_rem (m := 2 * j - 18) (n := 256) rfl rfl (by omega)) ?_
      first
        | refine a_take 8 rfl rfl rfl rfl (by kernel_rfl) (by kernel_rfl) (by kernel_rfl) (fun _ _ _ h => h) (fun _ => run_addI rfl rfl (by omega) (by omega)) ?_
      first
        | refine a_take 9 rfl rfl rfl rfl (by kernel_rfl) (by kernel_rfl) (by kernel_rfl) (fun _ _ _ h => h) (fun _ => run_moveV rfl) ?_
        | refine a_take 9 rfl rfl rfl rfl (by kernel_rfl) (by kernel_rfl) (by kernel_rfl) (fun _ _ _ h => h) (fun _ => run_moveP rfl) ?_
        | refine a_take 9 rfl rfl rfl rfl (by kernel_rfl) (by kernel_rfl) (by kernel_rfl) (fun _ _ _ h => h) (fun _ => run_moveI rfl) ?_
      first
        | refine a_take 10 rfl rfl rfl rfl (by kernel_rfl) (by kernel_rfl) (by kernel_rfl) (fun _ _ _ h => h) (fun _ => run_moveV rfl) ?_
        | refine a_take 10 rfl rfl rfl rfl (by kernel_rfl) (by kernel_rfl) (by kernel_rfl) (fun _ _ _ h => h) (fun _ => run_moveP rfl) ?_
        | refine a_take 10 rfl rfl rfl rfl (by kernel_rfl) (by kernel_rfl) (by kernel_rfl) (fun _ _ _ h => h) (fun _ => run_moveI rfl) ?_
      first
        | refine a_take 11 rfl rfl rfl rfl (by kernel_rfl) (by kernel_rfl) (by kernel_rfl) (fun _ _ _ h => h) (fun _ => run_f28_1 rfl) ?_
      first
        | refine a_take 12 rfl rfl rfl rfl (by kernel_rfl) (by kernel_rfl) (by kernel_rfl) (fun _ _ _ h => h) (fun _ => run_i26 (n := (2 * j - 18) / 256) rfl rfl (by omega)) ?_
      first
        | refine a_take 13 rfl rfl rfl rfl (by kernel_rfl) (by kernel_rfl) (by kernel_rfl) (fun _ _ _ h => h) (fun _ => run_i25 (n := (2 * j - 18) % 256) rfl rfl (by omega)) ?_
      first
        | refine a_take 15 rfl rfl rfl rfl (by kernel_rfl) (by kernel_rfl) (by kernel_rfl) (fun _ _ _ h => h) (fun _ => run_f28_1 rfl) ?_
      first
        | refine a_take 16 rfl rfl rfl rfl (by kernel_rfl) (by kernel_rfl) (by kernel_rfl) (fun _ _ _ h => h) (fun _ => run_i26 (n := (2 * j - 18) / 256) rfl rfl (by omega)) ?_
      refine a_store 14 rfl rfl rfl (by kernel_rfl) (run_store rfl rfl (hTn.drewN 1) (by omega)) ?_
      first
        | refine a_take 17 rfl rfl rfl rfl (by kernel_rfl) (by kernel_rfl) (by kernel_rfl) (fun _ _ _ h => h) (fun _ => run_i25 (n := (2 * j - 18) % 256 + 1) rfl rfl (by omega)) ?_
      refine a_store 18 rfl rfl rfl (by kernel_rfl) (run_store rfl rfl ((hTn.drewN 1).set _) (by omega)) ?_
      refine a_done (by kernel_rfl) ?_
      refine g_inb (g_then (g_region ?_))
      repeat (first
        | refine g_op rfl rfl rfl (run_moveV rfl) ?_
        | refine g_op rfl rfl rfl (run_moveP rfl) ?_
        | refine g_op rfl rfl rfl (run_moveS rfl) ?_
        | refine g_op rfl rfl rfl (run_moveI rfl) ?_
        | refine g_op rfl rfl rfl (run_moveB rfl) ?_
        | refine g_op rfl rfl rfl (run_moveT rfl) ?_
        | refine g_op rfl rfl rfl (run_asgV rfl) ?_
        | refine g_op rfl rfl rfl (run_asgP rfl) ?_
        | refine g_op rfl rfl rfl (run_asgS rfl) ?_
        | refine g_op rfl rfl rfl (run_asgI rfl) ?_
        | refine g_op rfl rfl rfl (run_asgB rfl) ?_
        | refine g_op rfl rfl rfl (run_addI rfl rfl (by omega) (by omega)) ?_)
      have hfin : Now w0 g (fillS m (j + 1)).1 (((((w.drewN n2).drewN 1).setRow g (row (setT S (18 + (2 * j - 18) / 256 * 256 + (2 * j - 18) % 256) q.1))).setRow g (row (setT (setT S (18 + (2 * j - 18) / 256 * 256 + (2 * j - 18) % 256) q.1) (18 + (2 * j - 18) / 256 * 256 + ((2 * j - 18) % 256 + 1)) q.2)))) := by
        have e : (fillS m (j + 1)).1 = setT (setT S (18 + (2 * j - 18) / 256 * 256 + (2 * j - 18) % 256) q.1) (18 + (2 * j - 18) / 256 * 256 + ((2 * j - 18) % 256 + 1)) q.2 := by
          have e1 : 18 + (2 * j - 18) / 256 * 256 + (2 * j - 18) % 256 = 2 * j := by omega
          have e2 : 18 + (2 * j - 18) / 256 * 256 + ((2 * j - 18) % 256 + 1) = 2 * j + 1 := by omega
          rw [e2, e1, hS, hq]
          rfl
        rw [e]
        exact ((hNn.drewN 1).set _).set _
      have e8 : V q.1 = V (fillS m (j + 1)).2.1 := by rw [hq]; rfl
      have e9 : V q.2 = V (fillS m (j + 1)).2.2 := by rw [hq]; rfl
      exact g_nil (g_then (g_round (520 - j) ⟨j + 1, by omega, by omega, rfl, rfl, rfl, e8, e9, congrArg (Value.int .i64) (by omega), hfin⟩ (by omega)))
  · obtain rfl : j = 521 := by omega
    refine g_seq (g_seq (g_region ?_))
    repeat (first
      | refine g_op rfl rfl rfl (run_moveV rfl) ?_
      | refine g_op rfl rfl rfl (run_moveP rfl) ?_
      | refine g_op rfl rfl rfl (run_moveS rfl) ?_
      | refine g_op rfl rfl rfl (run_moveI rfl) ?_
      | refine g_op rfl rfl rfl (run_moveB rfl) ?_
      | refine g_op rfl rfl rfl (run_moveT rfl) ?_
      | refine g_op rfl rfl rfl (run_lssT rfl rfl (by omega)) ?_
      | refine g_op rfl rfl rfl (run_lssF rfl rfl (by omega)) ?_)
    refine g_nil (g_then (g_cond_false rfl (g_exit (g_texit (g_texit (g_out (g_then (g_seq (g_region ?_)))))))))
    have hg1w : w.heap[g1]? = some (.cells old 28 (0, 0)) := by
      obtain ⟨n, rfl⟩ := hw
      exact (setRow_other w0 g g1 _ hne).trans hg1
    refine g_op rfl rfl rfl (run_loadRow agg28 rfl hTw (row_size _)) ?_
    refine g_store rfl rfl (run_storeRow agg28 rfl rfl hg1w hold (row_size _) (row_one _)) ?_
    refine g_nil (g_then (g_ret (g_retC agg28 rfl rfl (setRow_heap _ _ _ _ _ _ hg1w) (row_size _) ⟨rfl, ?_⟩)))
    exact below_setRow (below_now hb hB hw) hB1 _
end Go.Proofs.Ytolkgekbnbgodaa
