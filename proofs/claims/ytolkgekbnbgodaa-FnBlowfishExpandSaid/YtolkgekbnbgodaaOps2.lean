/- More single operations: slices of bytes and of numbers, new memory, division; and what is kept of old memory. -/
import Derived.Test.YtolkgekbnbgodaaOps
import Derived.OwnWalk
import Derived.Below
namespace Go.Proofs.Ytolkgekbnbgodaa
open Go Go.RowKit

theorem info23 : (Try.prog.info? 23).map (fun i => (i.zero, i.size, i.bytes)) = some (some (.int .u32 0), 1, 4) := by kernel_rfl
theorem info5 : (Try.prog.info? 5).map (fun i => (i.zero, i.size, i.bytes)) = some (some (.int .u8 0), 1, 1) := by kernel_rfl

section
variable {f : Nat → Value} {d : Option Tmp} {a b x s : Operand} {ty : TypeId} {pos : String} {af : Array Edge} {gd : Option (Nat × Bool)} {w : World} {p q : BitVec 32}

theorem run_len {t e : TypeId} {ad : Option Addr} {n c : Nat} (hu : Try.prog.underlying t = some (.slice e)) (h : evF f x = .slice ad n c) :
    Runs Try.prog f ⟨d, .call { callee := .builtin .len, args := #[x], argTypes := #[t] }, ty, pos, af, gd⟩ w (.int .i64 (n : Int)) w := ⟨by
  have hl : (Builtin.len_ #[t] ty #[.slice ad n c]).run Try.prog w = .ok (goInt n) w := by
    simp [Builtin.len_, run_underlying hu]
  simp [execOp, resolve, invoke, builtin, h, hl, goInt]⟩
theorem run_rem {t1 t2 : TypeId} {m n : Nat} (ha : evF f a = .int .i64 (m : Int)) (hb : evF f b = .int .i64 (n : Int)) (hn : n ≠ 0) :
    Runs Try.prog f ⟨d, .binOp .rem t1 a b t2, ty, pos, af, gd⟩ w (.int .i64 ((m % n : Nat) : Int)) w := ⟨by
  have hs : binOp .rem t1 (.int .i64 (m : Int)) (.int .i64 (n : Int)) = pure (.int .i64 ((m % n : Nat) : Int)) := by
    rw [binOp_rem]
    unfold Op.intDiv
    rw [if_neg (by omega)]
    simp only [Int.tmod_eq_emod_of_nonneg (Int.natCast_nonneg m)]
    rfl
  simp only [execOp, ha, hb]
  simp [eqGuard_rem, hs]⟩
theorem run_quo {t1 t2 : TypeId} {m n : Nat} (ha : evF f a = .int .i64 (m : Int)) (hb : evF f b = .int .i64 (n : Int)) (hn : n ≠ 0) (hm : m ≤ 1000000) :
    Runs Try.prog f ⟨d, .binOp .quo t1 a b t2, ty, pos, af, gd⟩ w (.int .i64 ((m / n : Nat) : Int)) w := ⟨by
  have hle : m / n ≤ m := Nat.div_le_self m n
  have hs : binOp .quo t1 (.int .i64 (m : Int)) (.int .i64 (n : Int)) = pure (.int .i64 ((m / n : Nat) : Int)) := by
    rw [binOp_quo]
    unfold Op.intDiv
    rw [if_neg (by omega)]
    simp only [Int.tdiv_eq_ediv_of_nonneg (Int.natCast_nonneg m)]
    have e : IntKind.i64.wrap ((m : Int) / (n : Int)) = ((m / n : Nat) : Int) := by
      have h0 : (0 : Int) ≤ ((m / n : Nat) : Int) := Int.natCast_nonneg _
      rw [← Int.natCast_ediv]
      generalize m / n = z at *
      exact IntWalk.i64_in _ (by omega)
    rw [e]
  simp only [execOp, ha, hb]
  simp [eqGuard_quo, hs]⟩
theorem run_sidx {t e : TypeId} {ad : Addr} {n c i : Nat} {k : IntKind} (hu : Try.prog.underlying t = some (.slice e)) (hs : (Try.prog.info? e).map (·.size) = some 1)
    (ha : evF f a = .slice (some ad) n c) (hb : evF f b = .int k (i : Int)) (hi : i < n) :
    Runs Try.prog f ⟨d, .indexAddr t a b, ty, pos, af, gd⟩ w (.pointer (some (ad.add i))) w := ⟨by
  have h0 : (0 : Int) ≤ (i : Int) ∧ (i : Int) < (n : Int) := ⟨by omega, by omega⟩
  simp only [execOp, ha, hb, Instr.indexAt, asIntOf, Sem.run_bind, run_underlying hu, Result.andThen_ok, Sem.run_pure, if_pos h0, size_run hs, Int.toNat_natCast, Nat.mul_one]⟩
theorem run_box {t : TypeId} {v : Value} (h : evF f x = v) : Runs Try.prog f ⟨d, .box t x, ty, pos, af, gd⟩ w (.pointer (some ⟨w.heap.size, 0, none⟩)) (w.alloc (.cells v.cells t)) := ⟨by
  subst h
  simp [execOp, Instr.box, newVar, newRow]⟩
theorem run_alloc {t : TypeId} {z : Value} (h : (Try.prog.info? t).bind (·.zero) = some z) : Runs Try.prog f ⟨d, .alloc t, ty, pos, af, gd⟩ w (.pointer (some ⟨w.heap.size, 0, none⟩)) (w.alloc (.cells z.cells t)) := ⟨by
  cases hq : Try.prog.info? t with
  | none => simp [hq] at h
  | some i =>
    have hz : i.zero = some z := by simpa [hq] using h
    simp [execOp, Instr.alloc, zeroValue, typeInfo, hq, hz, newVar, newRow]⟩
theorem run_bs0 {t e : TypeId} (hu : Try.prog.underlying t = some (.slice e)) (hs : (Try.prog.info? e).map (·.size) = some 1) :
    Runs Try.prog f ⟨d, .buildSlice t 0 #[], ty, pos, af, gd⟩ w (.slice (some ⟨w.heap.size, 0, none⟩) 0 0) (w.alloc (.cells #[] e)) := ⟨by
  simp [execOp, Instr.buildSlice, run_underlying hu, size_run hs, Instr.fill, newRow, Array.range_zero']⟩
theorem run_bs1 {t e : TypeId} {z u : Value} {m : Nat} (hu : Try.prog.underlying t = some (.slice e)) (hi : (Try.prog.info? e).map (fun i => (i.zero, i.size, i.bytes)) = some (some z, 1, m)) (h1 : u.cells = #[u]) (h : evF f x = u) :
    Runs Try.prog f ⟨d, .buildSlice t 1 #[(0, x)], ty, pos, af, gd⟩ w (.slice (some ⟨w.heap.size, 0, none⟩) 1 1) (w.alloc (.cells #[u] e)) := ⟨by
  obtain ⟨i, hq, h2, h3, h4⟩ := info_parts hi
  have hr : Array.range 1 = #[0] := rfl
  simp [execOp, Instr.buildSlice, run_underlying hu, sizeOf, typeInfo, hq, h3, zeroValue, h2, Instr.fill, h, h1, newRow, hr]⟩

variable {N : Nat} {ops : Array Oper} {Q : Exit → Act → World → Prop} {rest : List Oper} {dst : Nat}
/-- append of one number to a row of the call's own. -/
theorem g_app {t e : TypeId} {z v : Value} {ad : Addr} {n c m B : Nat} {xs : List Value} (hu : Try.prog.underlying t = some (.slice e)) (hi : (Try.prog.info? e).map (fun i => (i.zero, i.size, i.bytes)) = some (some z, 1, m)) (hz : z.cells.size = 1) (hm : m ≤ 4) (hN : Nat.blt dst N = true)
    (hs : evF f s = v) (hown : w.ownsRow B e 1 v n xs) {k : Nat} {news : List Value} (hx : evF f x = .slice (some ad) k c) (hl : news.length = k) (hc : ∀ j u, news[j]? = some u → w.cell? (ad.add j) = some u) (h1 : ∀ u ∈ news, u.oneCell' = true) (hn : n + k ≤ 2000) (hB : B ≤ w.heap.size)
    (K : ∀ v' w', w'.ownsRow B e 1 v' (n + k) (xs ++ news) → w.grownBy w' v.ownBlock → G N (upd f dst v') fun a => wpList Try.prog ops Q rest a w') :
    G N f fun a => wpList Try.prog ops Q (⟨some dst, .call { callee := .builtin .append, args := #[s, x], argTypes := #[t, t] }, ty, pos, af, none⟩ :: rest) a w := by
  obtain ⟨i, hq, h2, h3, h4⟩ := info_parts hi
  obtain ⟨v', w', hrun, h5, h6, _⟩ := run_append_own (P := Try.prog) w B t ty e i z 1 m hu hq h2 h3 h4 hz (by omega) v n xs hown ad k c news (by omega) hc h1 (by simp only [maxLen]; omega) (by
    have : (n + k) * m ≤ 2000 * 4 := Nat.mul_le_mul hn hm
    omega) hB
  refine g_op (v := v') (w' := w') rfl rfl hN ⟨?_⟩ (K v' w' h5 h6)
  simp [execOp, resolve, invoke, builtin, hs, hx, hrun]
end

theorem V_cells (p : BitVec 32) : (V p).cells = #[V p] := rfl
theorem V_one (p : BitVec 32) : (V p).oneCell' = true := rfl

/-- Old memory: below B the world is as it was. -/
theorem below_drewN {B : Nat} {a w : World} (h : Below B a w) (n : Nat) : Below B a (w.drewN n) := ⟨h.os, h.tape, h.output, h.size, h.block⟩
theorem below_setRow {B : Nat} {a w : World} (h : Below B a w) {g : Nat} (hg : B ≤ g) (cs : Array Value) : Below B a (w.setRow g cs) :=
  h.trans ⟨rfl, rfl, rfl, by simp, fun k hk => setRow_other _ _ _ _ (by omega)⟩
theorem tab_below {B : Nat} {a w : World} (h : Below B a w) {g : Nat} {s : Tbl} {t : TypeId} (hT : Tab a g s t) (hg : g < B) : Tab w g s t := (h.block g hg).trans hT
theorem alloc_size (w : World) (o : Obj) : (w.alloc o).heap.size = w.heap.size + 1 := by simp
theorem tab_new (w : World) (s : Tbl) (t : TypeId) : Tab (w.alloc (.cells (row s) t)) w.heap.size s t := heap_alloc_new w _
theorem tab_alloc {w : World} {g : Nat} {s : Tbl} {t : TypeId} (hT : Tab w g s t) (o : Obj) : Tab (w.alloc o) g s t := by
  have hlt : g < w.heap.size := (Array.getElem?_eq_some_iff.1 hT).1
  exact (heap_alloc_old w o hlt).trans hT
theorem tab_lt {w : World} {g : Nat} {s : Tbl} {t : TypeId} (hT : Tab w g s t) : g < w.heap.size := (Array.getElem?_eq_some_iff.1 hT).1

/-- Bytes that lie in a row from the address on. -/
def Bytes (w : World) (ad : Addr) (n : Nat) (kb : Nat → Nat) : Prop := ∀ i, i < n → w.cell? (ad.add i) = some (.int .u8 ((kb i : Nat) : Int))
theorem add_block (a : Addr) (n : Nat) : (a.add n).block = a.block := by unfold Addr.add; split <;> rfl
theorem Bytes.below {B : Nat} {a w : World} {ad : Addr} {n : Nat} {kb : Nat → Nat} (h : Bytes a ad n kb) (hb : Below B a w) (hB : ad.block < B) : Bytes w ad n kb := fun i hi =>
  (hb.cell (by rw [add_block]; exact hB)).trans (h i hi)
theorem Bytes.drewN {w : World} {ad : Addr} {n : Nat} {kb : Nat → Nat} (h : Bytes w ad n kb) (m : Nat) : Bytes (w.drewN m) ad n kb := h
theorem Bytes.setRow {w : World} {ad : Addr} {n g : Nat} {kb : Nat → Nat} (h : Bytes w ad n kb) (hg : ad.block ≠ g) (cs : Array Value) : Bytes (w.setRow g cs) ad n kb := fun i hi =>
  (World.cell?_of_block (by rw [add_block]; exact setRow_other w g _ cs hg)).trans (h i hi)
end Go.Proofs.Ytolkgekbnbgodaa
