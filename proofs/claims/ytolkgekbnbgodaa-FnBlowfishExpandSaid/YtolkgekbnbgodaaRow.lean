/- Whole tables: loaded, stored, handed back. -/
import Derived.Test.YtolkgekbnbgodaaMix
namespace Go.Proofs.Ytolkgekbnbgodaa
open Go Go.RowKit
section
variable {f : Nat → Value} {d : Option Tmp} {a b x : Operand} {ty : TypeId} {pos : String} {af : Array Edge} {gd : Option (Nat × Bool)} {w : World}
theorem G.gen6 {N : Nat} {S : Act → Prop} {d1 d2 d3 d4 d5 d6 : Nat} {v1 v2 v3 v4 v5 v6 : Value} (h1 : f d1 = v1) (h2 : f d2 = v2) (h3 : f d3 = v3) (h4 : f d4 = v4) (h5 : f d5 = v5) (h6 : f d6 = v6)
    (k : ∀ g : Nat → Value, g d1 = v1 → g d2 = v2 → g d3 = v3 → g d4 = v4 → g d5 = v5 → g d6 = v6 → G N g S) : G N f S := k f h1 h2 h3 h4 h5 h6
theorem row_one (s : Tbl) : (row s).all (·.oneCell') = true := by
  rw [Array.all_eq_true_iff_forall_mem]
  intro v hv
  simp only [row, List.mem_toArray, List.mem_map] at hv
  obtain ⟨i, _, rfl⟩ := hv
  rfl
/-- A type of n cells, a struct or an array: a variable of it is loaded whole. -/
structure AggTy (t : TypeId) (n : Nat) : Prop where
  size : (Try.prog.info? t).map (·.size) = some n
  load : ∀ (w : World) (g : Nat) (e : TypeId) (cs : Array Value) (fr : Nat × Nat), w.heap[g]? = some (.cells cs e fr) → cs.size = n → (loadVar t ⟨g, 0, none⟩).run Try.prog w = .ok (.agg cs) w
theorem agg24 : AggTy 24 18 := ⟨sz24, fun w g e cs fr hg hn => run_loadVar_row w g e 24 cs fr _ hg Try.underlying24 rfl (by rw [hn]; exact sz24)⟩
theorem agg25 : AggTy 25 256 := ⟨sz25, fun w g e cs fr hg hn => run_loadVar_row w g e 25 cs fr _ hg Try.underlying25 rfl (by rw [hn]; exact sz25)⟩
theorem agg26 : AggTy 26 1024 := ⟨sz26, fun w g e cs fr hg hn => run_loadVar_row w g e 26 cs fr _ hg Try.underlying26 rfl (by rw [hn]; exact sz26)⟩
theorem agg28 : AggTy 28 1042 := ⟨sz28, fun w g e cs fr hg hn => run_loadVar_row w g e 28 cs fr _ hg Try.underlying28 rfl (by rw [hn]; exact sz28)⟩
theorem agg44 : AggTy 44 1042 := ⟨sz44, fun w g e cs fr hg hn => run_loadVar_row w g e 44 cs fr _ hg Try.underlying44 rfl (by rw [hn]; exact sz44)⟩
theorem run_loadRow {t : TypeId} {n g : Nat} {cs : Array Value} {e : TypeId} {fr : Nat × Nat} (hA : AggTy t n) (ha : evF f x = .pointer (some ⟨g, 0, none⟩)) (hg : w.heap[g]? = some (.cells cs e fr)) (hn : cs.size = n) : Runs Try.prog f ⟨d, .load t x, ty, pos, af, gd⟩ w (.agg cs) w := ⟨by
  simp only [execOp, ha, Instr.loadAt, Instr.sureAddr, Sem.run_bind, Sem.run_pure, Result.andThen_ok, hA.load w g e cs fr hg hn]⟩
theorem run_storeRow {t : TypeId} {n g : Nat} {old cs : Array Value} {e : TypeId} (hA : AggTy t n) (ha : evF f a = .pointer (some ⟨g, 0, none⟩)) (hb : evF f b = .agg cs)
    (hg : w.heap[g]? = some (.cells old e (0, 0))) (ho : old.size = n) (hn : cs.size = n) (h1 : cs.all (·.oneCell') = true) : Stores Try.prog f ⟨none, .store t a b, ty, pos, af, gd⟩ w (w.setRow g cs) := ⟨by
  simp only [execOp, ha, hb, Instr.storeAt, Instr.sureAddr, Sem.run_bind, Sem.run_pure, Result.andThen_ok, run_storeVar_row w g e t old cs hg (by rw [hn]; exact hA.size) (by rw [ho, hn]) h1]⟩
theorem g_retC {N : Nat} {fn : Func} {R : Ending → World → Prop} {p : Tmp} {t : TypeId} {n g : Nat} {cs : Array Value} {e : TypeId} {fr : Nat × Nat} (hA : AggTy t n) (hr : fn.results = #[.cell p t]) (hp : f p = .pointer (some ⟨g, 0, none⟩))
    (hg : w.heap[g]? = some (.cells cs e fr)) (hn : cs.size = n) (h : R (.returned (.agg cs)) w) :
    G N f fun a => bodyPost Try.prog fn R .ret a w := fun a ha =>
  bodyPost_ret (by
    have hp' : a.tmps[p]?.getD undef = .pointer (some ⟨g, 0, none⟩) := by
      have := ha.get p
      rw [hp] at this
      simpa using this
    simp [results, hr, hp', asAddr, hA.load w g e cs fr hg hn]) ha.dfr h
end
/-- The zero value of a type of many cells: so many cells. -/
theorem zero_of {t : TypeId} {n : Nat} (h : (Try.prog.info? t).bind (fun i => i.zero.map (·.cells.size)) = some n) : ∃ z : Value, (Try.prog.info? t).bind (·.zero) = some z ∧ z.cells.size = n := by
  cases hq : Try.prog.info? t with
  | none => simp [hq] at h
  | some i =>
    cases hz : i.zero with
    | none => simp [hq, hz] at h
    | some z => exact ⟨z, by simp [hz], by simpa [hq, hz] using h⟩
theorem zero28 : ∃ z : Value, (Try.prog.info? 28).bind (·.zero) = some z ∧ z.cells.size = 1042 := zero_of (by kernel_rfl)
theorem zero24 : ∃ z : Value, (Try.prog.info? 24).bind (·.zero) = some z ∧ z.cells.size = 18 := zero_of (by kernel_rfl)
theorem zero26 : ∃ z : Value, (Try.prog.info? 26).bind (·.zero) = some z ∧ z.cells.size = 1024 := zero_of (by kernel_rfl)

/-- Numbers that lie in a row. -/
def Nums (w : World) (gv n : Nat) (xs : Nat → BitVec 32) : Prop := ∀ i, i < n → w.cell? ((⟨gv, 0, none⟩ : Addr).add i) = some (V (xs i))
theorem Nums.now {w0 w : World} {g gv n : Nat} {s : Tbl} {xs : Nat → BitVec 32} (h : Now w0 g s w) (hk : Nums w0 gv n xs) (hg : gv ≠ g) : Nums w gv n xs := by
  obtain ⟨m, rfl⟩ := h
  intro i hi
  exact (World.cell?_of_block (by rw [add_block]; exact setRow_other w0 g _ _ hg)).trans (hk i hi)
theorem Nums.of_own {w : World} {B n : Nat} {v : Value} {kb : Nat → Nat} {k : Nat} (h : w.ownsRow B 23 1 v n (cycs kb k n)) (hn : 0 < n) : ∃ gv cap, v = .slice (some ⟨gv, 0, none⟩) n cap ∧ B ≤ gv ∧ Nums w gv n (cyc kb k) ∧ gv < w.heap.size := by
  rcases h.2 with ⟨_, h0⟩ | ⟨gv, cap, cur, rfl, hB, hg, _⟩
  · omega
  · refine ⟨gv, cap, rfl, hB, fun i hi => ?_, (Array.getElem?_eq_some_iff.1 hg).1⟩
    rw [Addr.add_lit, Nat.zero_add, h.cellAt i (by omega)]
    simp [cycs, hi]
theorem cyc_zero (i : Nat) : cyc (fun _ => 0) 1 i = 0#32 := by
  have : ∀ q, wdk (fun _ => 0) 1 (4 * i) q = 0#32 := by
    intro q
    induction q with
    | zero => rfl
    | succ q ih => rw [wdk, ih]; decide
  exact this 4
theorem below_now {B g : Nat} {a w w' : World} {s : Tbl} (h : Below B a w) (hg : B ≤ g) (hw : Now w g s w') : Below B a w' := by
  obtain ⟨n, rfl⟩ := hw
  exact below_drewN (below_setRow h hg _) n
end Go.Proofs.Ytolkgekbnbgodaa
