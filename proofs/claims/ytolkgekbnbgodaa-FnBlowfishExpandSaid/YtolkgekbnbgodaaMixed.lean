/- The reference's function of a half of a block: spec.mixed. -/
import Derived.Test.YtolkgekbnbgodaaOps
namespace Go.Proofs.Ytolkgekbnbgodaa
open Go
def F (s : Tbl) (x : BitVec 32) : BitVec 32 :=
  ((s (18 + (x >>> 24).toNat) + s (274 + (x >>> 16).toNat % 256)) ^^^ s (530 + (x >>> 8).toNat % 256)) + s (786 + x.toNat % 256)
theorem and255 (x : BitVec 32) : (x &&& 255#32).toNat = x.toNat % 256 := by
  rw [BitVec.toNat_and]
  exact Nat.and_two_pow_sub_one_eq_mod x.toNat 8
theorem shr24_lt (x : BitVec 32) : (x >>> 24).toNat < 256 := by
  have := x.isLt
  rw [BitVec.toNat_ushiftRight, Nat.shiftRight_eq_div_pow]
  omega
theorem mixed_any (g : Nat) (t : TypeId) (s : Tbl) (x : BitVec 32) (w : World) (hT : Tab w g s t) :
    Calls Try.prog 14 #[.pointer (some ⟨g, 0, none⟩), V x] w fun e w' => e = .returned (V (F s x)) ∧ ∃ n, w' = w.drewN n := by
  have hC : ∀ w', (∃ n, w' = w.drewN n) → Tab w' g s t := by rintro w' ⟨n, rfl⟩; exact hT
  have h24 := shr24_lt x
  have h16 : (x >>> 16 &&& 255#32).toNat < 256 := by rw [and255]; omega
  have h8 : (x >>> 8 &&& 255#32).toNat < 256 := by rw [and255]; omega
  have h0 : (x &&& 255#32).toNat < 256 := by rw [and255]; omega
  refine g_enter (l := [_, _]) Try.func14 rfl Try.ntmps14 rfl ?_
  refine g_seq (g_region ?_)
  refine g_op rfl rfl rfl (run_asgI rfl) ?_
  refine g_nil (g_seq (q_region (by kernel_rfl) (by kernel_rfl) ?_))
  repeat (first
    | refine q_op rfl rfl rfl (fun w hw => run_moveV rfl) ?_
    | refine q_op rfl rfl rfl (fun w hw => run_moveP rfl) ?_
    | refine q_op rfl rfl rfl (fun w hw => run_asgV rfl) ?_
    | refine q_op rfl rfl rfl (fun w hw => run_xor rfl rfl) ?_
    | refine q_op rfl rfl rfl (fun w hw => run_add rfl rfl) ?_
    | refine q_op rfl rfl rfl (fun w hw => run_and255 rfl rfl) ?_
    | refine q_op rfl rfl rfl (fun w hw => run_nil rfl) ?_
    | refine q_op rfl rfl rfl (fun w hw => run_f28_1 rfl) ?_
    | refine q_op rfl rfl rfl (fun w hw => run_shr24 rfl rfl) ?_
    | refine q_op rfl rfl rfl (fun w hw => run_shr16 rfl rfl) ?_
    | refine q_op rfl rfl rfl (fun w hw => run_shr8 rfl rfl) ?_
    | refine q_op rfl rfl rfl (fun w hw => run_i26c rfl rfl (by decide) (by decide)) ?_
    | refine q_op rfl rfl rfl (fun w hw => run_i25 rfl rfl (by assumption)) ?_
    | refine q_op rfl rfl rfl (fun w hw => run_load rfl (hC w hw) (by omega)) ?_)
  refine q_nil ?_
  refine g_all fun n => g_ret (g_ret1 rfl rfl ⟨?_, n, rfl⟩)
  rw [F, ← and255, ← and255, ← and255]
  rfl
end Go.Proofs.Ytolkgekbnbgodaa
