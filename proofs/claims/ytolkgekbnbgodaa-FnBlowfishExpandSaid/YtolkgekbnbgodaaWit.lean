/- A world that meets the row: no key and tables of nought. -/
import Derived.Test.YtolkgekbnbgodaaPre
import Derived.Test.YtolkgekbnbgodaaRows
namespace Go.Proofs.Ytolkgekbnbgodaa
open Go Go.ChangeShapes Go.WideShapes Go.ChangeAt Go.RowKit

noncomputable abbrev inp : Input := ⟨#[], #[.slice none 0 0, .agg (Array.replicate 1042 (.int .u32 0))], []⟩
theorem types28 : Try.prog.cellTypes Try.prog.depth 28 = some (List.replicate 1042 23) := by kernel_rfl
theorem cell23 (w : World) : Cell.okWideB Try.prog w 23 (.int .u32 0) = true := by kernel_rfl
theorem cell22 (w : World) : Value.okWideB Try.prog w 22 (.slice none 0 0) = true := by kernel_rfl
theorem row28 (w : World) (base : Nat) : Row.okWide Try.prog w .any base 28 (Array.replicate 1042 (.int .u32 0)) := by
  refine ⟨_, types28, ⟨1, ?_⟩, ?_⟩
  · rw [Array.size_replicate, List.length_replicate, Nat.one_mul]
  · intro i v hv
    rw [Array.getElem?_replicate] at hv
    rw [List.length_replicate, List.getElem?_replicate, if_pos (Nat.mod_lt _ (by omega))]
    split at hv
    · obtain rfl := Option.some.inj hv
      exact ⟨23, rfl, Cell.okWide_of_okWideB (cell23 w)⟩
    · cases hv
theorem val28 (w : World) (base : Nat) : Value.okWide Try.prog w .any base 28 (.agg (Array.replicate 1042 (.int .u32 0))) := by
  unfold Value.okWide
  rw [Try.underlying28]
  exact ⟨_, rfl, by rw [Array.size_replicate, cellsOf_of sz28], row28 w base⟩
theorem inits3 : Try.prog.inits.idxOf? 3 = none := by kernel_rfl
theorem shape3 : Try.f3.body.isSome = true ∧ Try.f3.ours = false ∧ Try.f3.nfree = 0 := ⟨by kernel_rfl, by kernel_rfl, by kernel_rfl⟩
theorem size3 : Try.f3.params.size = 2 := by kernel_rfl
theorem wide3 (w : World) (base : Nat) : Input.okWide Try.prog w .any base 3 ⟨#[], inp.args, []⟩ := by
  unfold Input.okWide
  refine ⟨?_, ?_, inits3, Try.f3, Try.func3, shape3.1, shape3.2.1, shape3.2.2, ?_, ?_⟩
  · intro o ho
    exact absurd ho (by simp)
  · intro gv h
    cases h
  · rw [size3]
    rfl
  · intro j t v hj hv
    rw [Try.params3] at hj
    match j, hj, hv with
    | 0, hj, hv =>
      cases hj; cases hv
      exact Value.okWide_of_okWideB (cell22 w)
    | 1, hj, hv =>
      cases hj; cases hv
      exact val28 w base
    | j + 2, hj, hv => simp at hj
theorem wa (os : Os) : (World.plainHolding Try.checked.prog os inp).variablesB Try.checked.prog = true := by kernel_rfl
theorem wb (os : Os) : ((World.plainHolding Try.checked.prog os inp).heap.toList.drop Try.checked.prog.globals.size).take ((begin Try.checked.prog (fun _ _ => 0) default).world.heap.size - Try.checked.prog.globals.size) =
      (begin Try.checked.prog (fun _ _ => 0) default).world.heap.toList.drop Try.checked.prog.globals.size := by kernel_rfl
theorem wd (os : Os) (H : Type) (enc : TypeId × Value → H) : Rows.fnBlowfishExpandSpec.preB enc Try.checked.prog Try.f3 Rows.fnBlowfishExpandRow.domain false (World.plainHolding Try.checked.prog os inp).memory inp.args 8 = true := by kernel_rfl
theorem we (os : Os) (H : Type) (enc : TypeId × Value → H) : Rows.fnBlowfishExpandSpec.sizedB enc Try.checked.prog Try.f3 false (World.plainHolding Try.checked.prog os inp).memory inp.args 8 = true := by kernel_rfl
theorem met (os : Os) (H : Type) (enc : TypeId × Value → H) :
    ∃ (w : World) (tape : Tape) (i : Input), w.os = os ∧ (w.forCall tape i).Shaped Try.checked.prog ∧ i.vars = [] ∧ Input.okWide Try.checked.prog (w.forCall tape i) .any w.heap.size 3 i ∧
      Rows.fnBlowfishExpandSpec.pre6 enc Try.checked.prog Try.f3 Rows.fnBlowfishExpandRow.domain false (w.forCall tape i).memory i.args ∧ ({ modest := false } : Assume).holds Try.checked.prog (lone (Frame.enter Try.checked.prog 3 i.args .normal) [] (w.forCall tape i)) :=
  ⟨World.holding Try.checked.prog os inp, fun _ _ => 0, ⟨#[], inp.args, []⟩, rfl, World.shaped_of_B (wa os) (wb os), rfl, wide3 _ _, ⟨ChangeSpec.pre_of_preB (wd os H enc), sizedMet_of_sizedB (we os H enc)⟩, by
    simp only [Assume.holds]
    exact ⟨by simp, by simp, fun _ => Modest.zero, by simp, by simp⟩⟩
end Go.Proofs.Ytolkgekbnbgodaa
