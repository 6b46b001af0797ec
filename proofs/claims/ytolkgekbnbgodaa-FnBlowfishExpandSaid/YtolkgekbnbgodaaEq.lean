/- Tables are equal to themselves: what the comparison of two structs of 1042 numbers yields where both are the same. -/
import Derived.Test.YtolkgekbnbgodaaImpl
namespace Go.Proofs.Ytolkgekbnbgodaa
open Go Go.RowKit
theorem segv_extract (xs : Nat → BitVec 32) (n a b : Nat) (hb : b ≤ n) : (segv xs n).extract a b = segv (fun j => xs (a + j)) (b - a) := by
  apply Array.ext_getElem?
  intro i
  rw [Array.getElem?_extract]
  by_cases h : i < b - a
  · rw [segv_get _ h, if_pos (by rw [segv_size]; omega), segv_get _ (by omega)]
  · rw [if_neg (by rw [segv_size]; omega), Array.getElem?_eq_none (by rw [segv_size]; omega)]
section
variable {w : World}
theorem part_agg {t : TypeId} {n : Nat} {cs : Array Value} {o : Nat} (hg : (isAgg t).run Try.prog w = .ok true w) (hs : (Try.prog.info? t).map (·.size) = some n) : (part t cs o).run Try.prog w = .ok (.agg (cs.extract o (o + n))) w := by
  simp only [part, Sem.run_bind, hg, Result.andThen_ok, if_true, size_run hs, Sem.run_pure]
theorem part_num {xs : Nat → BitVec 32} {n i : Nat} (hi : i < n) : (part 23 (segv xs n) i).run Try.prog w = .ok (V (xs i)) w := by
  simp [part, isAgg, run_underlying Try.underlying23, segv_get xs hi]
theorem eq_num (d : Nat) (p : BitVec 32) : (Op.equalIn (d + 1) 23 (V p) (V p)).run Try.prog w = .ok true w := by
  rw [V, run_equalIn_int w d 23 .u32 .u32 _ _ Try.underlying23]
  simp
theorem eq_array {t e : TypeId} {len m d : Nat} {xs : Array Value} (hu : Try.prog.underlying t = some (.array len e)) (hs : (Try.prog.info? e).map (·.size) = some m)
    (hall : ∀ i, i < len → ∃ v, (part e xs (i * m)).run Try.prog w = .ok v w ∧ (Op.equalIn d e v v).run Try.prog w = .ok true w) : (Op.equalIn (d + 1) t (.agg xs) (.agg xs)).run Try.prog w = .ok true w := by
  rw [Op.equalIn]
  simp only [Sem.run_bind, run_underlying hu, Result.andThen_ok, size_run hs, Std.Legacy.Range.forIn_eq_forIn_range', Std.Legacy.Range.size, Nat.sub_zero, Nat.add_sub_cancel, Nat.div_one]
  have hl : ∀ i ∈ List.range' 0 len 1, i < len := fun i hi => by simpa using (List.mem_range'_1.1 hi).2
  generalize List.range' 0 len 1 = l at hl ⊢
  induction l with
  | nil => simp
  | cons i l ih =>
    obtain ⟨v, hp, he⟩ := hall i (hl i (by simp))
    simp only [List.forIn_cons, Sem.run_bind, hp, he, Result.andThen_ok, Bool.not_true, Bool.false_eq_true, if_false, Sem.run_pure]
    exact ih fun j hj => hl j (by simp [hj])
theorem eq24 (d : Nat) (xs : Nat → BitVec 32) : (Op.equalIn (d + 2) 24 (.agg (segv xs 18)) (.agg (segv xs 18))).run Try.prog w = .ok true w :=
  eq_array Try.underlying24 sz23 fun i hi => ⟨_, by rw [Nat.mul_one]; exact part_num hi, eq_num d _⟩
theorem eq25 (d : Nat) (xs : Nat → BitVec 32) : (Op.equalIn (d + 2) 25 (.agg (segv xs 256)) (.agg (segv xs 256))).run Try.prog w = .ok true w :=
  eq_array Try.underlying25 sz23 fun i hi => ⟨_, by rw [Nat.mul_one]; exact part_num hi, eq_num d _⟩
theorem eq26 (d : Nat) (xs : Nat → BitVec 32) : (Op.equalIn (d + 3) 26 (.agg (segv xs 1024)) (.agg (segv xs 1024))).run Try.prog w = .ok true w :=
  eq_array Try.underlying26 sz25 fun i hi => ⟨_, part_agg (isAgg_of Try.underlying25 (.inr ⟨_, _, rfl⟩) w) sz25, by
    rw [segv_extract xs 1024 (i * 256) (i * 256 + 256) (by omega), show i * 256 + 256 - i * 256 = 256 by omega]
    exact eq25 d _⟩
theorem stood28 : Try.prog.stoodInHeld 28 = false := by kernel_rfl
theorem eqg28 : Try.prog.eqGuardType Try.prog.depth 28 = false := by kernel_rfl
theorem fields28 : Try.prog.fieldsOf 28 = #[{ name := "P", type := 24, offset := 0, embedded := false, tag := "", pkgPath := "", byteOffset := 0 }, { name := "S", type := 26, offset := 18, embedded := false, tag := "", pkgPath := "", byteOffset := 72 }] := by
  unfold Program.fieldsOf
  rw [Try.underlying28]
theorem part28P (s : Tbl) : (part 24 (row s) 0).run Try.prog w = .ok (.agg (segv s 18)) w := by
  have e : (row s).extract 0 (0 + 18) = segv s 18 := by
    rw [row_segv, segv_extract s 1042 0 (0 + 18) (by omega)]
    simp only [Nat.zero_add, Nat.sub_zero]
  rw [part_agg (isAgg_of Try.underlying24 (.inr ⟨_, _, rfl⟩) w) sz24, e]
theorem part28S (s : Tbl) : (part 26 (row s) 18).run Try.prog w = .ok (.agg (segv (fun j => s (18 + j)) 1024)) w := by
  have e : (row s).extract 18 (18 + 1024) = segv (fun j => s (18 + j)) 1024 := by
    rw [row_segv, segv_extract s 1042 18 (18 + 1024) (by omega), Nat.add_sub_cancel_left]
  rw [part_agg (isAgg_of Try.underlying26 (.inr ⟨_, _, rfl⟩) w) sz26, e]
theorem eqFields_cons {d : Nat} {xs ys : Array Value} (fl : Field) {fs : List Field} {a b : Value} {ft : TypeId} {o : Nat} (hn : (fl.name = "_") = False) (ht : fl.type = ft) (ho : fl.offset = o) (h1 : (part ft xs o).run Try.prog w = .ok a w) (h2 : (part ft ys o).run Try.prog w = .ok b w)
    (he : (Op.equalIn d ft a b).run Try.prog w = .ok true w) : (Op.eqFields d xs ys (fl :: fs)).run Try.prog w = (Op.eqFields d xs ys fs).run Try.prog w := by
  subst ht ho
  simp only [Op.eqFields, hn, ne_eq, not_false_eq_true, if_true, Sem.run_bind, h1, h2, he, Result.andThen_ok, Bool.not_true, Bool.false_eq_true, if_false]
theorem eqFields_nil (d : Nat) (xs ys : Array Value) : (Op.eqFields d xs ys []).run Try.prog w = .ok true w := rfl
theorem nmP : (("P" : String) = "_") = False := by decide
theorem nmS : (("S" : String) = "_") = False := by decide
theorem eqFields28 (d : Nat) (s : Tbl) : (Op.eqFields (d + 3) (row s) (row s) [{ name := "P", type := 24, offset := 0, embedded := false, tag := "", pkgPath := "", byteOffset := 0 }, { name := "S", type := 26, offset := 18, embedded := false, tag := "", pkgPath := "", byteOffset := 72 }]).run Try.prog w = .ok true w :=
  (eqFields_cons (d := d + 3) { name := "P", type := 24, offset := 0, embedded := false, tag := "", pkgPath := "", byteOffset := 0 } nmP rfl rfl (part28P s) (part28P s) (eq24 (d + 1) s)).trans
    ((eqFields_cons (d := d + 3) { name := "S", type := 26, offset := 18, embedded := false, tag := "", pkgPath := "", byteOffset := 72 } nmS rfl rfl (part28S s) (part28S s) (eq26 d (fun j => s (18 + j)))).trans (eqFields_nil _ _ _))
theorem eqIn28 (d : Nat) (s : Tbl) : (Op.equalIn (d + 4) 28 (.agg (row s)) (.agg (row s))).run Try.prog w = .ok true w := by
  rw [run_equalIn_struct w (d + 3) 28 _ _ (by rw [fields28]; exact Try.underlying28) stood28, fields28]
  exact eqFields28 d s
theorem eq28 (s : Tbl) : (binOp .eql 28 (.agg (row s)) (.agg (row s))).run Try.prog w = .ok (.bool true) w := by
  rw [run_eql_struct, eqIn28 9996 s]
  rfl
end
end Go.Proofs.Ytolkgekbnbgodaa
