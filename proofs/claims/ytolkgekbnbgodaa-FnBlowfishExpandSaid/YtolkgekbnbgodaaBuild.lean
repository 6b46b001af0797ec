/- Structs and arrays built of parts of tables. -/
import Derived.Test.YtolkgekbnbgodaaSeg
namespace Go.Proofs.Ytolkgekbnbgodaa
open Go Go.RowKit

theorem zero44 : ∃ z : Value, (Try.prog.info? 44).bind (·.zero) = some z ∧ z.cells.size = 1042 := zero_of (by kernel_rfl)
theorem built_struct {t : TypeId} {fs : Array Field} {pl : List (Nat × Nat)} {z : Value} (hu : Try.prog.underlying t = some (.struct fs)) (hp : fs.toList.mapM (fun f => (Try.prog.info? f.type).map fun i => (f.offset, i.size)) = some pl)
    (hz : (Try.prog.info? t).bind (·.zero) = some z) (parts : List (Nat × Value)) : Try.prog.built t parts = Instr.fill (pl.toArray[·]?) z.cells parts := by
  unfold Program.built
  cases hq : Try.prog.info? t with
  | none => simp [hq] at hz
  | some i =>
    have hz' : i.zero = some z := by simpa [hq] using hz
    simp only [hu, hz', hp]
theorem built_array {t e : TypeId} {m n : Nat} {z : Value} (hu : Try.prog.underlying t = some (.array m e)) (hs : (Try.prog.info? e).map (·.size) = some n)
    (hz : (Try.prog.info? t).bind (·.zero) = some z) (parts : List (Nat × Value)) : Try.prog.built t parts = Instr.fill (fun i => some (i * n, n)) z.cells parts := by
  unfold Program.built
  cases hq : Try.prog.info? t with
  | none => simp [hq] at hz
  | some i =>
    cases he : Try.prog.info? e with
    | none => simp [he] at hs
    | some ie =>
      have hz' : i.zero = some z := by simpa [hq] using hz
      have hs' : ie.size = n := by simpa [he] using hs
      simp only [hu, hz', he, hs']

theorem fill_nil (place : Nat → Option (Nat × Nat)) (cells : Array Value) : Instr.fill place cells [] = some cells := rfl

theorem built44 (s : Tbl) : Try.prog.built 44 [(0, .agg (segv s 18)), (1, .agg (segv (fun j => s (18 + j)) 256)), (2, .agg (segv (fun j => s (274 + j)) 256)), (3, .agg (segv (fun j => s (530 + j)) 256)), (4, .agg (segv (fun j => s (786 + j)) 256))] = some (row s) := by
  obtain ⟨z, hz, hzs⟩ := zero44
  rw [built_struct (pl := [(0, 18), (18, 256), (274, 256), (530, 256), (786, 256)]) Try.underlying44 (by kernel_rfl) hz]
  rw [fill_one (off := 0) (size := 18) rfl (segv_size _ _) (by omega), fill_one (off := 18) (size := 256) rfl (segv_size _ _) (by rw [splice_size]; omega),
    fill_one (off := 274) (size := 256) rfl (segv_size _ _) (by rw [splice_size, splice_size]; omega), fill_one (off := 530) (size := 256) rfl (segv_size _ _) (by rw [splice_size, splice_size, splice_size]; omega),
    fill_one (off := 786) (size := 256) rfl (segv_size _ _) (by rw [splice_size, splice_size, splice_size, splice_size]; omega)]
  rw [fill_nil]
  refine congrArg some (Array.ext_getElem? fun i => ?_)
  simp only [splice_get, splice_size, segv_size, hzs]
  by_cases h : i < 1042
  · rw [row_segv, segv_get s h]
    by_cases h4 : 786 ≤ i
    · rw [if_pos (by omega), segv_get _ (by omega)]
      simp only [show 786 + (i - 786) = i by omega]
    · rw [if_neg (by omega)]
      by_cases h3 : 530 ≤ i
      · rw [if_pos (by omega), segv_get _ (by omega)]
        simp only [show 530 + (i - 530) = i by omega]
      · rw [if_neg (by omega)]
        by_cases h2 : 274 ≤ i
        · rw [if_pos (by omega), segv_get _ (by omega)]
          simp only [show 274 + (i - 274) = i by omega]
        · rw [if_neg (by omega)]
          by_cases h1 : 18 ≤ i
          · rw [if_pos (by omega), segv_get _ (by omega)]
            simp only [show 18 + (i - 18) = i by omega]
          · rw [if_neg (by omega), if_pos (by omega), Nat.sub_zero, segv_get _ (by omega)]
  · rw [if_neg (by omega), if_neg (by omega), if_neg (by omega), if_neg (by omega), if_neg (by omega), Array.getElem?_eq_none (by omega), Array.getElem?_eq_none (by rw [row_size]; omega)]
theorem built28 (s : Tbl) : Try.prog.built 28 [(0, .agg (segv s 18)), (1, .agg (segv (fun j => s (18 + j)) 1024))] = some (row s) := by
  obtain ⟨z, hz, hzs⟩ := zero28
  rw [built_struct (pl := [(0, 18), (18, 1024)]) Try.underlying28 (by kernel_rfl) hz]
  rw [fill_one (off := 0) (size := 18) rfl (segv_size _ _) (by omega), fill_one (off := 18) (size := 1024) rfl (segv_size _ _) (by rw [splice_size]; omega)]
  rw [fill_nil]
  refine congrArg some (Array.ext_getElem? fun i => ?_)
  simp only [splice_get, splice_size, segv_size, hzs]
  by_cases h : i < 1042
  · rw [row_segv, segv_get s h]
    by_cases h1 : 18 ≤ i
    · rw [if_pos (by omega), segv_get _ (by omega)]
      simp only [show 18 + (i - 18) = i by omega]
    · rw [if_neg (by omega), if_pos (by omega), Nat.sub_zero, segv_get _ (by omega)]
  · rw [if_neg (by omega), if_neg (by omega), Array.getElem?_eq_none (by omega), Array.getElem?_eq_none (by rw [row_size]; omega)]
theorem built26 (s : Tbl) : Try.prog.built 26 [(0, .agg (segv (fun j => s (18 + j)) 256)), (1, .agg (segv (fun j => s (274 + j)) 256)), (2, .agg (segv (fun j => s (530 + j)) 256)), (3, .agg (segv (fun j => s (786 + j)) 256))] = some (segv (fun j => s (18 + j)) 1024) := by
  obtain ⟨z, hz, hzs⟩ := zero26
  rw [built_array Try.underlying26 sz25 hz]
  rw [fill_one (off := 0 * 256) (size := 256) rfl (segv_size _ _) (by omega), fill_one (off := 1 * 256) (size := 256) rfl (segv_size _ _) (by rw [splice_size]; omega),
    fill_one (off := 2 * 256) (size := 256) rfl (segv_size _ _) (by rw [splice_size, splice_size]; omega), fill_one (off := 3 * 256) (size := 256) rfl (segv_size _ _) (by rw [splice_size, splice_size, splice_size]; omega)]
  rw [fill_nil]
  refine congrArg some (Array.ext_getElem? fun i => ?_)
  simp only [splice_get, splice_size, segv_size, hzs]
  by_cases h : i < 1024
  · rw [segv_get _ h]
    by_cases h3 : 768 ≤ i
    · rw [if_pos (by omega), segv_get _ (by omega)]
      simp only [show 786 + (i - 3 * 256) = 18 + i by omega]
    · rw [if_neg (by omega)]
      by_cases h2 : 512 ≤ i
      · rw [if_pos (by omega), segv_get _ (by omega)]
        simp only [show 530 + (i - 2 * 256) = 18 + i by omega]
      · rw [if_neg (by omega)]
        by_cases h1 : 256 ≤ i
        · rw [if_pos (by omega), segv_get _ (by omega)]
          simp only [show 274 + (i - 1 * 256) = 18 + i by omega]
        · rw [if_neg (by omega), if_pos (by omega), segv_get _ (by omega)]
          simp only [show 18 + (i - 0 * 256) = 18 + i by omega]
  · rw [if_neg (by omega), if_neg (by omega), if_neg (by omega), if_neg (by omega), Array.getElem?_eq_none (by omega), Array.getElem?_eq_none (by rw [segv_size]; omega)]
end Go.Proofs.Ytolkgekbnbgodaa
