/- The law for any slice of bytes and any tables, and the tables that came in as a row of numbers. -/
import Derived.Test.YtolkgekbnbgodaaLaw
import Derived.ProofKit
import Derived.OpenShut
import Derived.ChangeOld
import Derived.Below
namespace Go.Proofs.Ytolkgekbnbgodaa
open Go Go.ChangeShapes Go.WideShapes Go.ChangeAt Go.RowKit

theorem own : ownKnob Try.prog.godebug = none := by kernel_rfl
theorem laidOut : laidOutB Try.prog = true := by kernel_rfl
theorem cellsOf_of {t : TypeId} {n : Nat} (h : (Try.prog.info? t).map (·.size) = some n) : Try.prog.cellsOf t = n := by
  unfold Program.cellsOf
  rw [h]
  rfl

/-- A slice of bytes that came in: nil, or a row of bytes. -/
def IsRow (w : World) (a : Option Addr) (len cap : Nat) (zs : List Int) : Prop :=
  (a = none ∧ len = 0 ∧ cap = 0 ∧ zs = []) ∨
  ∃ x, a = some x ∧ len ≤ cap ∧ cap ≤ maxLen ∧ zs.length = cap ∧ (∀ i, i < zs.length → w.cell? (x.add i) = some (.int .u8 (zs.getD i 0))) ∧ ∀ n ∈ zs, (Lit.int .u8 n).wf = true

theorem law_any (a : Option Addr) (len cap : Nat) (zs : List Int) (s : Tbl) (w : World) (hr : IsRow w a len cap zs) :
    Calls Try.prog 3 #[.slice a len cap, .agg (row s)] w fun e w' => e = .returned (.bool true) ∧ Below w.heap.size w w' := by
  by_cases hn : len < 1 ∨ 72 < len
  · exact law_out a len cap s w hn
  · rcases hr with ⟨rfl, rfl, rfl, rfl⟩ | ⟨x, rfl, hl, hm, hz, hcell, hwz⟩
    · omega
    · have hk : Bytes w x len (fun i => (zs.getD i 0).toNat) := by
        intro i hi
        rw [hcell i (by omega)]
        have hmem : zs.getD i 0 ∈ zs := by
          rw [List.getD_eq_getElem?_getD, List.getElem?_eq_getElem (by omega)]
          exact List.getElem_mem _
        have hb := bounds_u8 (hwz _ hmem)
        rw [Int.toNat_of_nonneg hb.1]
      have had : x.block < w.heap.size := by
        have h := block_lt_of_cell (hk 0 (by omega))
        rwa [add_block] at h
      exact law_in x len cap s _ w (by omega) (by omega) hk had

section
variable {H : Type} {enc : TypeId × Value → H} {w : World} {base : Nat} {spare : Nat → Bool} {held : Bool} {fuel : Nat} {cs : List Value} {x : DataW H × List MemPlace}
theorem nums_of_array {t : TypeId} {n : Nat} (hu : Try.prog.underlying t = some (.array n 23)) (h : DataW.trod enc Try.prog w base spare held fuel t cs = some x) : ∀ i, i < n → ∃ m : Int, cs[i]? = some (.int .u32 m) ∧ 0 ≤ m ∧ m ≤ 4294967295 := by
  obtain ⟨xs, m, _, _, _, hlen, hg⟩ := DataW.trod_array hu h
  intro i hi
  have h1 := hg i hi
  rw [List.getElem?_eq_getElem (by omega), cellsOf_of sz23, Nat.mul_one] at h1
  obtain ⟨z, hz, _, hwf⟩ := DataW.trod_int Try.underlying23 h1
  have hb := bounds_u32 hwf
  refine ⟨z, ?_, hb.1, hb.2⟩
  have h2 : ((cs.drop i).take 1)[0]? = some (.int .u32 z) := by rw [hz]; rfl
  rw [List.getElem?_take, if_pos (by omega), List.getElem?_drop] at h2
  simpa using h2
theorem nums_of_state (h : DataW.trod enc Try.prog w base spare held fuel 28 cs = some x) : cs.length = 1042 ∧ ∀ i, i < 1042 → ∃ m : Int, cs[i]? = some (.int .u32 m) ∧ 0 ≤ m ∧ m ≤ 4294967295 := by
  obtain ⟨xs, n, _, _, hcl, hlen, hf⟩ := DataW.trod_struct Try.underlying28 h
  rw [cellsOf_of sz28] at hcl
  refine ⟨hcl, fun i hi => ?_⟩
  have hlen2 : xs.length = 2 := hlen
  have hP : DataW.trod enc Try.prog w base spare held n 24 ((cs.drop 0).take (Try.prog.cellsOf 24)) = xs[0]? := hf 0 _ rfl
  have hS : DataW.trod enc Try.prog w base spare held n 26 ((cs.drop 18).take (Try.prog.cellsOf 26)) = xs[1]? := hf 1 _ rfl
  rw [List.getElem?_eq_getElem (by omega), cellsOf_of sz24] at hP
  rw [List.getElem?_eq_getElem (by omega), cellsOf_of sz26] at hS
  by_cases h18 : i < 18
  · obtain ⟨m, hm, hb⟩ := nums_of_array Try.underlying24 hP i h18
    refine ⟨m, ?_, hb⟩
    rw [List.getElem?_take, if_pos h18, List.getElem?_drop, Nat.zero_add] at hm
    exact hm
  · obtain ⟨ys, m2, _, _, _, hlen4, hg⟩ := DataW.trod_array Try.underlying26 hS
    have h1 := hg ((i - 18) / 256) (by omega)
    rw [List.getElem?_eq_getElem (by omega), cellsOf_of sz25] at h1
    obtain ⟨m, hm, hb⟩ := nums_of_array Try.underlying25 h1 ((i - 18) % 256) (by omega)
    refine ⟨m, ?_, hb⟩
    rw [List.getElem?_take, if_pos (by omega), List.getElem?_drop, List.getElem?_take, if_pos (by omega), List.getElem?_drop] at hm
    rw [show 18 + ((i - 18) / 256 * 256 + (i - 18) % 256) = i by omega] at hm
    exact hm
theorem row_of_state (h : DataW.trod enc Try.prog w base spare held fuel 28 cs = some x) : ∃ s : Tbl, cs.toArray = row s := by
  obtain ⟨hl, hc⟩ := nums_of_state h
  refine ⟨fun i => BitVec.ofNat 32 (intOf (cs.getD i undef)).toNat, ?_⟩
  apply Array.ext_getElem?
  intro i
  by_cases hi : i < 1042
  · obtain ⟨m, hm, h0, h1⟩ := hc i hi
    rw [row_get _ hi, List.getElem?_toArray, hm]
    have e : cs.getD i undef = .int .u32 m := by rw [List.getD_eq_getElem?_getD, hm]; rfl
    have e2 : intOf (.int .u32 m) = m := rfl
    rw [e, e2]
    unfold V
    refine congrArg (fun z : Int => some (Value.int .u32 z)) ?_
    rw [BitVec.toNat_ofNat, Nat.mod_eq_of_lt (by omega), Int.toNat_of_nonneg h0]
  · rw [Array.getElem?_eq_none (by simp; omega), Array.getElem?_eq_none (by rw [row_size]; omega)]
end
end Go.Proofs.Ytolkgekbnbgodaa
