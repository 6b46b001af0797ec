/- The reference's rounds: spec.crypt. -/
import Derived.Test.YtolkgekbnbgodaaMixed
namespace Go.Proofs.Ytolkgekbnbgodaa
open Go
/-- The rounds of the reference: both halves behind i of them. -/
def cr (s : Tbl) (l r : BitVec 32) : Nat → BitVec 32 × BitVec 32
  | 0 => (l, r)
  | i + 1 => ((cr s l r i).2 ^^^ F s ((cr s l r i).1 ^^^ s i), (cr s l r i).1 ^^^ s i)
/-- A block, encrypted by tables. -/
def crypt (s : Tbl) (x : BitVec 32 × BitVec 32) : BitVec 32 × BitVec 32 := ((cr s x.1 x.2 16).2 ^^^ s 17, (cr s x.1 x.2 16).1 ^^^ s 16)

theorem crypt_any (g : Nat) (t : TypeId) (s : Tbl) (l r : BitVec 32) (w : World) (hT : Tab w g s t) :
    Calls Try.prog 11 #[.pointer (some ⟨g, 0, none⟩), V l, V r] w fun e w' => e = .returned (.tuple #[V (crypt s (l, r)).1, V (crypt s (l, r)).2]) ∧ ∃ n, w' = w.drewN n := by
  refine g_enter (l := [_, _, _]) Try.func11 rfl Try.ntmps11 rfl ?_
  refine g_seq (g_region ?_)
  repeat (first
    | refine g_op rfl rfl rfl (run_asgV rfl) ?_
    | refine g_op rfl rfl rfl (run_asgP rfl) ?_
    | refine g_op rfl rfl rfl (run_asgS rfl) ?_
    | refine g_op rfl rfl rfl (run_asgI rfl) ?_
    | refine g_op rfl rfl rfl (run_asgB rfl) ?_)
  refine g_nil (g_seq (g_seq (g_region ?_)))
  repeat (first
    | refine g_op rfl rfl rfl (run_asgV rfl) ?_
    | refine g_op rfl rfl rfl (run_asgP rfl) ?_
    | refine g_op rfl rfl rfl (run_asgS rfl) ?_
    | refine g_op rfl rfl rfl (run_asgI rfl) ?_
    | refine g_op rfl rfl rfl (run_asgB rfl) ?_)
  refine g_nil (g_block ?_)
  refine g_loop (fun f w' m => ∃ i : Nat, i ≤ 16 ∧ m = 16 - i ∧ f 0 = .pointer (some ⟨g, 0, none⟩) ∧ f 1 = V (cr s l r i).1 ∧ f 2 = V (cr s l r i).2 ∧ f 8 = .int .i64 (i : Int) ∧ ∃ n, w' = w.drewN n) 16
    ⟨0, by omega, rfl, rfl, rfl, rfl, rfl, 0, rfl⟩ ?_
  rintro f w' m ⟨i, hi, rfl, h0, h1, h2, h8, n, rfl⟩
  refine G.known (d := 8) h8 (G.known (d := 2) h2 (G.known (d := 1) h1 (G.known (d := 0) h0 ?_)))
  have hT' : Tab (w.drewN n) g s t := hT.drewN n
  by_cases hlt : i < 16
  · refine g_seq (g_seq (g_region ?_))
    repeat (first
      | refine g_op rfl rfl rfl (run_moveV rfl) ?_
      | refine g_op rfl rfl rfl (run_moveP rfl) ?_
      | refine g_op rfl rfl rfl (run_moveS rfl) ?_
      | refine g_op rfl rfl rfl (run_moveI rfl) ?_
      | refine g_op rfl rfl rfl (run_moveB rfl) ?_
      | refine g_op rfl rfl rfl (run_moveT rfl) ?_
      | refine g_op rfl rfl rfl (run_lssT rfl rfl (by omega)) ?_
      | refine g_op rfl rfl rfl (run_lssF rfl rfl (by omega)) ?_)
    refine g_nil (g_cond_true rfl (g_skip (g_seq (g_block (g_seq (g_region ?_))))))
    repeat (first
      | refine g_op rfl rfl rfl (run_moveV rfl) ?_
      | refine g_op rfl rfl rfl (run_moveP rfl) ?_
      | refine g_op rfl rfl rfl (run_moveS rfl) ?_
      | refine g_op rfl rfl rfl (run_moveI rfl) ?_
      | refine g_op rfl rfl rfl (run_moveB rfl) ?_
      | refine g_op rfl rfl rfl (run_moveT rfl) ?_
      | refine g_op rfl rfl rfl (run_asgV rfl) ?_
      | refine g_op rfl rfl rfl (run_asgP rfl) ?_
      | refine g_op rfl rfl rfl (run_asgS rfl) ?_
      | refine g_op rfl rfl rfl (run_asgI rfl) ?_
      | refine g_op rfl rfl rfl (run_asgB rfl) ?_
      | refine g_op rfl rfl rfl (run_xor rfl rfl) ?_
      | refine g_op rfl rfl rfl (run_add rfl rfl) ?_
      | refine g_op rfl rfl rfl (run_or rfl rfl) ?_
      | refine g_op rfl rfl rfl (run_and255 rfl rfl) ?_
      | refine g_op rfl rfl rfl (run_shr24 rfl rfl) ?_
      | refine g_op rfl rfl rfl (run_shr16 rfl rfl) ?_
      | refine g_op rfl rfl rfl (run_shr8 rfl rfl) ?_
      | refine g_op rfl rfl rfl (run_shl8 rfl rfl) ?_
      | refine g_op rfl rfl rfl (run_conv8 rfl) ?_
      | refine g_op rfl rfl rfl (run_nil rfl) ?_
      | refine g_op rfl rfl rfl (run_f28_0 rfl) ?_
      | refine g_op rfl rfl rfl (run_f28_1 rfl) ?_
      | refine g_op rfl rfl rfl (run_f44_0 rfl) ?_
      | refine g_op rfl rfl rfl (run_f44_1 rfl) ?_
      | refine g_op rfl rfl rfl (run_f44_2 rfl) ?_
      | refine g_op rfl rfl rfl (run_f44_3 rfl) ?_
      | refine g_op rfl rfl rfl (run_f44_4 rfl) ?_
      | refine g_op rfl rfl rfl (run_i24z rfl rfl (by omega)) ?_
      | refine g_op rfl rfl rfl (run_load rfl hT' (by omega)) ?_)
    refine g_nil (g_seq (g_region ?_))
    repeat (first
      | refine g_op rfl rfl rfl (run_moveV rfl) ?_
      | refine g_op rfl rfl rfl (run_moveP rfl) ?_
      | refine g_op rfl rfl rfl (run_moveS rfl) ?_
      | refine g_op rfl rfl rfl (run_moveI rfl) ?_
      | refine g_op rfl rfl rfl (run_moveB rfl) ?_
      | refine g_op rfl rfl rfl (run_moveT rfl) ?_
      | refine g_op rfl rfl rfl (run_asgV rfl) ?_
      | refine g_op rfl rfl rfl (run_asgP rfl) ?_
      | refine g_op rfl rfl rfl (run_asgS rfl) ?_
      | refine g_op rfl rfl rfl (run_asgI rfl) ?_
      | refine g_op rfl rfl rfl (run_asgB rfl) ?_
      | refine g_op rfl rfl rfl (run_xor rfl rfl) ?_
      | refine g_op rfl rfl rfl (run_add rfl rfl) ?_
      | refine g_op rfl rfl rfl (run_or rfl rfl) ?_
      | refine g_op rfl rfl rfl (run_and255 rfl rfl) ?_
      | refine g_op rfl rfl rfl (run_shr24 rfl rfl) ?_
      | refine g_op rfl rfl rfl (run_shr16 rfl rfl) ?_
      | refine g_op rfl rfl rfl (run_shr8 rfl rfl) ?_
      | refine g_op rfl rfl rfl (run_shl8 rfl rfl) ?_
      | refine g_op rfl rfl rfl (run_conv8 rfl) ?_)
    refine g_callV rfl rfl rfl (run_enter2 (va := .pointer (some ⟨g, 0, none⟩)) (vb := V ((cr s l r i).1 ^^^ s i)) Try.func14 nm14 rfl rfl rfl) (mixed_any g t s _ _ hT') ?_
    rintro _ ⟨n2, rfl⟩
    repeat (first
      | refine g_op rfl rfl rfl (run_moveV rfl) ?_
      | refine g_op rfl rfl rfl (run_moveP rfl) ?_
      | refine g_op rfl rfl rfl (run_moveS rfl) ?_
      | refine g_op rfl rfl rfl (run_moveI rfl) ?_
      | refine g_op rfl rfl rfl (run_moveB rfl) ?_
      | refine g_op rfl rfl rfl (run_moveT rfl) ?_
      | refine g_op rfl rfl rfl (run_asgV rfl) ?_
      | refine g_op rfl rfl rfl (run_asgP rfl) ?_
      | refine g_op rfl rfl rfl (run_asgS rfl) ?_
      | refine g_op rfl rfl rfl (run_asgI rfl) ?_
      | refine g_op rfl rfl rfl (run_asgB rfl) ?_
      | refine g_op rfl rfl rfl (run_xor rfl rfl) ?_
      | refine g_op rfl rfl rfl (run_add rfl rfl) ?_
      | refine g_op rfl rfl rfl (run_or rfl rfl) ?_
      | refine g_op rfl rfl rfl (run_and255 rfl rfl) ?_
      | refine g_op rfl rfl rfl (run_shr24 rfl rfl) ?_
      | refine g_op rfl rfl rfl (run_shr16 rfl rfl) ?_
      | refine g_op rfl rfl rfl (run_shr8 rfl rfl) ?_
      | refine g_op rfl rfl rfl (run_shl8 rfl rfl) ?_
      | refine g_op rfl rfl rfl (run_conv8 rfl) ?_)
    refine g_nil (g_region ?_)
    repeat (first
      | refine g_op rfl rfl rfl (run_moveV rfl) ?_
      | refine g_op rfl rfl rfl (run_moveP rfl) ?_
      | refine g_op rfl rfl rfl (run_moveS rfl) ?_
      | refine g_op rfl rfl rfl (run_moveI rfl) ?_
      | refine g_op rfl rfl rfl (run_moveB rfl) ?_
      | refine g_op rfl rfl rfl (run_moveT rfl) ?_
      | refine g_op rfl rfl rfl (run_asgV rfl) ?_
      | refine g_op rfl rfl rfl (run_asgP rfl) ?_
      | refine g_op rfl rfl rfl (run_asgS rfl) ?_
      | refine g_op rfl rfl rfl (run_asgI rfl) ?_
      | refine g_op rfl rfl rfl (run_asgB rfl) ?_)
    refine g_nil (g_region ?_)
    repeat (first
      | refine g_op rfl rfl rfl (run_moveV rfl) ?_
      | refine g_op rfl rfl rfl (run_moveP rfl) ?_
      | refine g_op rfl rfl rfl (run_moveS rfl) ?_
      | refine g_op rfl rfl rfl (run_moveI rfl) ?_
      | refine g_op rfl rfl rfl (run_moveB rfl) ?_
      | refine g_op rfl rfl rfl (run_moveT rfl) ?_
      | refine g_op rfl rfl rfl (run_asgV rfl) ?_
      | refine g_op rfl rfl rfl (run_asgP rfl) ?_
      | refine g_op rfl rfl rfl (run_asgS rfl) ?_
      | refine g_op rfl rfl rfl (run_asgI rfl) ?_
      | refine g_op rfl rfl rfl (run_asgB rfl) ?_
      | refine g_op rfl rfl rfl (run_addI rfl rfl (by omega) (by omega)) ?_)
    refine g_nil (g_then (g_round (15 - i) ⟨i + 1, by omega, by omega, rfl, rfl, rfl, rfl, n + n2, World.drewN_drewN _ _ _⟩ (by omega)))
  · have hi16 : i = 16 := by omega
    refine g_seq (g_seq (g_region ?_))
    repeat (first
      | refine g_op rfl rfl rfl (run_moveV rfl) ?_
      | refine g_op rfl rfl rfl (run_moveP rfl) ?_
      | refine g_op rfl rfl rfl (run_moveS rfl) ?_
      | refine g_op rfl rfl rfl (run_moveI rfl) ?_
      | refine g_op rfl rfl rfl (run_moveB rfl) ?_
      | refine g_op rfl rfl rfl (run_moveT rfl) ?_
      | refine g_op rfl rfl rfl (run_lssT rfl rfl (by omega)) ?_
      | refine g_op rfl rfl rfl (run_lssF rfl rfl (by omega)) ?_)
    refine g_nil (g_cond_false rfl (g_exit (g_texit (g_texit (g_out (g_seq (q_region (by kernel_rfl) (by kernel_rfl) ?_)))))))
    have hC : ∀ w', (∃ n', w' = (w.drewN n).drewN n') → Tab w' g s t := by rintro w' ⟨n', rfl⟩; exact hT
    subst hi16
    repeat (first
      | refine q_op rfl rfl rfl (fun w hw => run_moveV rfl) ?_
      | refine q_op rfl rfl rfl (fun w hw => run_moveP rfl) ?_
      | refine q_op rfl rfl rfl (fun w hw => run_moveS rfl) ?_
      | refine q_op rfl rfl rfl (fun w hw => run_moveI rfl) ?_
      | refine q_op rfl rfl rfl (fun w hw => run_moveB rfl) ?_
      | refine q_op rfl rfl rfl (fun w hw => run_moveT rfl) ?_
      | refine q_op rfl rfl rfl (fun w hw => run_asgV rfl) ?_
      | refine q_op rfl rfl rfl (fun w hw => run_asgP rfl) ?_
      | refine q_op rfl rfl rfl (fun w hw => run_asgS rfl) ?_
      | refine q_op rfl rfl rfl (fun w hw => run_asgI rfl) ?_
      | refine q_op rfl rfl rfl (fun w hw => run_asgB rfl) ?_
      | refine q_op rfl rfl rfl (fun w hw => run_xor rfl rfl) ?_
      | refine q_op rfl rfl rfl (fun w hw => run_add rfl rfl) ?_
      | refine q_op rfl rfl rfl (fun w hw => run_or rfl rfl) ?_
      | refine q_op rfl rfl rfl (fun w hw => run_and255 rfl rfl) ?_
      | refine q_op rfl rfl rfl (fun w hw => run_shr24 rfl rfl) ?_
      | refine q_op rfl rfl rfl (fun w hw => run_shr16 rfl rfl) ?_
      | refine q_op rfl rfl rfl (fun w hw => run_shr8 rfl rfl) ?_
      | refine q_op rfl rfl rfl (fun w hw => run_shl8 rfl rfl) ?_
      | refine q_op rfl rfl rfl (fun w hw => run_conv8 rfl) ?_
      | refine q_op rfl rfl rfl (fun w hw => run_nil rfl) ?_
      | refine q_op rfl rfl rfl (fun w hw => run_f28_0 rfl) ?_
      | refine q_op rfl rfl rfl (fun w hw => run_f28_1 rfl) ?_
      | refine q_op rfl rfl rfl (fun w hw => run_f44_0 rfl) ?_
      | refine q_op rfl rfl rfl (fun w hw => run_f44_1 rfl) ?_
      | refine q_op rfl rfl rfl (fun w hw => run_f44_2 rfl) ?_
      | refine q_op rfl rfl rfl (fun w hw => run_f44_3 rfl) ?_
      | refine q_op rfl rfl rfl (fun w hw => run_f44_4 rfl) ?_
      | refine q_op rfl rfl rfl (fun w hw => run_i24c rfl rfl (by decide) (by decide)) ?_
      | refine q_op rfl rfl rfl (fun w hw => run_load rfl (hC w hw) (by decide)) ?_)
    refine q_nil (g_all fun n2 => g_ret (g_ret2 rfl rfl rfl ⟨rfl, n + n2, World.drewN_drewN _ _ _⟩))
end Go.Proofs.Ytolkgekbnbgodaa
