/- Parts of tables: loaded, and joined to a whole. -/
import Derived.Test.YtolkgekbnbgodaaSpec
namespace Go.Proofs.Ytolkgekbnbgodaa
open Go Go.RowKit

/-- So many numbers. -/
def segv (xs : Nat → BitVec 32) (n : Nat) : Array Value := ((List.range n).map fun j => V (xs j)).toArray
theorem segv_size (xs : Nat → BitVec 32) (n : Nat) : (segv xs n).size = n := by simp [segv]
theorem segv_get (xs : Nat → BitVec 32) {n i : Nat} (h : i < n) : (segv xs n)[i]? = some (V (xs i)) := by simp [segv, h]
theorem segv_one (xs : Nat → BitVec 32) (n : Nat) : (segv xs n).all (·.oneCell') = true := by
  rw [Array.all_eq_true_iff_forall_mem]
  intro v hv
  simp only [segv, List.mem_toArray, List.mem_map] at hv
  obtain ⟨i, _, rfl⟩ := hv
  rfl
theorem row_segv (s : Tbl) : row s = segv s 1042 := rfl

/-- What Instr.fill does with one part. -/
def splice (cells : Array Value) (off : Nat) (vs : Array Value) : Array Value := vs.zipIdx.foldl (fun cs (c, j) => cs.setIfInBounds (off + j) c) cells
theorem splice_list (off : Nat) : ∀ (l : List Value) (k : Nat) (cells : Array Value) (i : Nat),
    ((l.zipIdx k).foldl (fun (cs : Array Value) (x : Value × Nat) => cs.setIfInBounds (off + x.2) x.1) cells)[i]? = if off + k ≤ i ∧ i < off + k + l.length ∧ i < cells.size then l[i - (off + k)]? else cells[i]?
  | [], k, cells, i => by simp; omega
  | v :: l, k, cells, i => by
    rw [List.zipIdx_cons, List.foldl_cons, splice_list off l (k + 1)]
    simp only [Array.size_setIfInBounds, List.length_cons]
    by_cases h1 : off + k + 1 ≤ i ∧ i < off + k + 1 + l.length ∧ i < cells.size
    · rw [if_pos (by omega), if_pos (by omega), show i - (off + k) = (i - (off + (k + 1))) + 1 by omega, List.getElem?_cons_succ]
    · rw [if_neg (by omega)]
      by_cases h2 : i = off + k
      · subst h2
        by_cases h3 : off + k < cells.size
        · rw [if_pos (by omega)]
          simp [h3]
        · rw [if_neg (by omega)]
          simp [h3]
      · rw [if_neg (by omega), Array.getElem?_setIfInBounds_ne (by omega)]
theorem splice_get (cells : Array Value) (off : Nat) (vs : Array Value) (i : Nat) : (splice cells off vs)[i]? = if off ≤ i ∧ i < off + vs.size ∧ i < cells.size then vs[i - off]? else cells[i]? := by
  have h := splice_list off vs.toList 0 cells i
  simp only [Nat.add_zero, Array.length_toList, Array.getElem?_toList] at h
  rw [← h]
  unfold splice
  rw [← Array.foldl_toList, Array.toList_zipIdx]
theorem splice_size (cells : Array Value) (off : Nat) (vs : Array Value) : (splice cells off vs).size = cells.size := by
  unfold splice
  rw [← Array.foldl_toList]
  generalize vs.zipIdx.toList = l
  induction l generalizing cells with
  | nil => rfl
  | cons x l ih => rw [List.foldl_cons, ih]; simp

theorem fill_one {place : Nat → Option (Nat × Nat)} {cells vs : Array Value} {i off size : Nat} {rest : List (Nat × Value)} (hp : place i = some (off, size)) (hs : vs.size = size) (hb : off + size ≤ cells.size) :
    Instr.fill place cells ((i, .agg vs) :: rest) = Instr.fill place (splice cells off vs) rest := by
  have h1 : ((Value.agg vs).cells.size ≠ size || off + (Value.agg vs).cells.size > cells.size) = false := by
    simp [Value.cells, hs, hb]
  simp only [Instr.fill, hp, h1, Bool.false_eq_true, if_false]
  rfl

section
variable {f : Nat → Value} {d : Option Tmp} {a b x : Operand} {ty : TypeId} {pos : String} {af : Array Edge} {gd : Option (Nat × Bool)} {w : World}
theorem isAgg_of {t : TypeId} {dsc : TypeDesc} (hu : Try.prog.underlying t = some dsc) (hd : dsc = .struct (Try.prog.fieldsOf t) ∨ ∃ n e, dsc = .array n e) (w : World) : (isAgg t).run Try.prog w = .ok true w := by
  unfold isAgg
  rw [Sem.run_bind, run_underlying hu w]
  rcases hd with h | ⟨n, e, h⟩
  · rw [h]; rfl
  · rw [h]; rfl
theorem run_loadSeg {t e : TypeId} {n m g o : Nat} {xs : Nat → BitVec 32} (hu : Try.prog.underlying t = some (.array m e)) (hi : (Try.prog.info? t).map (·.size) = some n) (ha : evF f x = .pointer (some ⟨g, o, none⟩)) (hc : ∀ j, j < n → w.cell? ⟨g, o + j, none⟩ = some (V (xs j))) :
    Runs Try.prog f ⟨d, .load t x, ty, pos, af, gd⟩ w (.agg (segv xs n)) w := ⟨by
  have h1 := run_loadCells (P := Try.prog) w ⟨g, o, none⟩ n (fun j => V (xs j)) (fun j hj => by rw [Addr.add_lit]; exact hc j hj)
  simp only [execOp, ha, Instr.loadAt, Instr.sureAddr, Sem.run_bind, Sem.run_pure, Result.andThen_ok, loadVar, isAgg_of hu (.inr ⟨m, e, rfl⟩) w, if_true, size_run hi, h1]
  rfl⟩
end
end Go.Proofs.Ytolkgekbnbgodaa
