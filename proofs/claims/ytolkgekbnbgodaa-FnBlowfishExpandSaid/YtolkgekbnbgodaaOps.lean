/- What single operations of this program do, in the words of the frame calculus: numbers of 32 bits as bit vectors, tables as rows of 1042 such numbers. -/
import Derived.Test.YtolkgekbnbgodaaFrame
namespace Go.Proofs.Ytolkgekbnbgodaa
open Go

/-- A number of 32 bits as a value. -/
def V (b : BitVec 32) : Value := .int .u32 (b.toNat : Int)
/-- Tables: 18 numbers, then four times 256. -/
abbrev Tbl := Nat → BitVec 32
def row (s : Tbl) : Array Value := ((List.range 1042).map fun i => V (s i)).toArray
def setT (s : Tbl) (i : Nat) (v : BitVec 32) : Tbl := fun j => if j = i then v else s j
/-- Block g of the memory is the row of s. -/
def Tab (w : World) (g : Nat) (s : Tbl) (t : TypeId) : Prop := w.heap[g]? = some (.cells (row s) t (0, 0))

theorem row_size (s : Tbl) : (row s).size = 1042 := by simp [row]
theorem row_get (s : Tbl) {i : Nat} (h : i < 1042) : (row s)[i]? = some (V (s i)) := by simp [row, h]
theorem row_set (s : Tbl) (i : Nat) (v : BitVec 32) : (row s).setIfInBounds i (V v) = row (setT s i v) := by
  apply Array.ext
  · simp [row]
  · intro j h1 h2
    have hj : j < 1042 := by simpa [row] using h2
    rw [Array.getElem_setIfInBounds (by rw [row_size]; exact hj)]
    simp only [row, List.getElem_toArray, List.getElem_map, List.getElem_range, setT]
    by_cases h : i = j
    · subst h; simp
    · rw [if_neg h, if_neg (fun e => h e.symm)]
theorem Tab.cell {w : World} {g : Nat} {s : Tbl} {t : TypeId} (h : Tab w g s t) {i : Nat} (hi : i < 1042) : w.cell? ⟨g, i, none⟩ = some (V (s i)) := by
  rw [cell_of_row w g i (row s) t (0, 0) h, row_get s hi]
theorem Tab.frozen {w : World} {g : Nat} {s : Tbl} {t : TypeId} (h : Tab w g s t) (i : Nat) : w.frozen? ⟨g, i, none⟩ = false := frozen_of_row w g i (row s) t h
theorem Tab.drewN {w : World} {g : Nat} {s : Tbl} {t : TypeId} (h : Tab w g s t) (n : Nat) : Tab (w.drewN n) g s t := h
theorem Tab.set {w : World} {g : Nat} {s : Tbl} {t : TypeId} (h : Tab w g s t) (s' : Tbl) : Tab (w.setRow g (row s')) g s' t := setRow_heap w g _ _ t _ h

section
variable {P : Program} {f : Nat → Value} {d : Option Tmp} {a b x : Operand} {ty : TypeId} {pos : String} {af : Array Edge} {gd : Option (Nat × Bool)} {w : World} {p q : BitVec 32}

theorem run_move {v : Value} (h : evF f x = v) : Runs P f ⟨d, .move x, ty, pos, af, gd⟩ w v w := ⟨by subst h; rfl⟩
theorem run_moveV (h : evF f x = V p) : Runs P f ⟨d, .move x, ty, pos, af, gd⟩ w (V p) w := run_move h
theorem run_moveP {q : Option Addr} (h : evF f x = .pointer q) : Runs P f ⟨d, .move x, ty, pos, af, gd⟩ w (.pointer q) w := run_move h
theorem run_moveI {k : IntKind} {n : Int} (h : evF f x = .int k n) : Runs P f ⟨d, .move x, ty, pos, af, gd⟩ w (.int k n) w := run_move h
theorem run_moveS {q : Option Addr} {n c : Nat} (h : evF f x = .slice q n c) : Runs P f ⟨d, .move x, ty, pos, af, gd⟩ w (.slice q n c) w := run_move h
theorem run_moveB {q : Bool} (h : evF f x = .bool q) : Runs P f ⟨d, .move x, ty, pos, af, gd⟩ w (.bool q) w := run_move h
theorem run_moveT {q : Array Value} (h : evF f x = .tuple q) : Runs P f ⟨d, .move x, ty, pos, af, gd⟩ w (.tuple q) w := run_move h
theorem run_asg {v : Value} (h : evF f x = v) : Runs P f ⟨d, .assign x, ty, pos, af, gd⟩ w v w := ⟨by subst h; rfl⟩
theorem run_asgV (h : evF f x = V p) : Runs P f ⟨d, .assign x, ty, pos, af, gd⟩ w (V p) w := run_asg h
theorem run_asgP {q : Option Addr} (h : evF f x = .pointer q) : Runs P f ⟨d, .assign x, ty, pos, af, gd⟩ w (.pointer q) w := run_asg h
theorem run_asgI {k : IntKind} {n : Int} (h : evF f x = .int k n) : Runs P f ⟨d, .assign x, ty, pos, af, gd⟩ w (.int k n) w := run_asg h
theorem run_asgS {q : Option Addr} {n c : Nat} (h : evF f x = .slice q n c) : Runs P f ⟨d, .assign x, ty, pos, af, gd⟩ w (.slice q n c) w := run_asg h
theorem run_asgB {q : Bool} (h : evF f x = .bool q) : Runs P f ⟨d, .assign x, ty, pos, af, gd⟩ w (.bool q) w := run_asg h

theorem toNat_ofInt (p : BitVec 32) : BitVec.ofInt 32 (p.toNat : Int) = p := by
  apply BitVec.eq_of_toNat_eq
  simp
theorem wrapV (p : BitVec 32) : IntKind.u32.wrap (p.toNat : Int) = (p.toNat : Int) := by
  have := p.isLt
  simp [IntKind.wrap, IntKind.bits, IntKind.signed]
  omega

theorem run_xor {t1 t2 : TypeId} (ha : evF f a = V p) (hb : evF f b = V q) : Runs P f ⟨d, .binOp .xor t1 a b t2, ty, pos, af, gd⟩ w (V (p ^^^ q)) w := ⟨by
  have e : bits .xor .u32 (p.toNat : Int) (q.toNat : Int) = ((p ^^^ q).toNat : Int) := by
    show IntKind.u32.wrap ((BitVec.ofInt 32 (p.toNat : Int) ^^^ BitVec.ofInt 32 (q.toNat : Int)).toNat : Int) = _
    rw [toNat_ofInt, toNat_ofInt, wrapV]
  simp only [execOp, ha, hb, V]
  simp [eqGuard_xor, binOp_xor, intBits_xor, e]⟩
theorem run_or {t1 t2 : TypeId} (ha : evF f a = V p) (hb : evF f b = V q) : Runs P f ⟨d, .binOp .or t1 a b t2, ty, pos, af, gd⟩ w (V (p ||| q)) w := ⟨by
  have e : bits .or .u32 (p.toNat : Int) (q.toNat : Int) = ((p ||| q).toNat : Int) := by
    show IntKind.u32.wrap ((BitVec.ofInt 32 (p.toNat : Int) ||| BitVec.ofInt 32 (q.toNat : Int)).toNat : Int) = _
    rw [toNat_ofInt, toNat_ofInt, wrapV]
  simp only [execOp, ha, hb, V]
  simp [eqGuard_or, binOp_or, intBits_or, e]⟩
theorem run_and255 {t1 t2 : TypeId} (ha : evF f a = V p) (hb : evF f b = .int .u32 255) : Runs P f ⟨d, .binOp .and t1 a b t2, ty, pos, af, gd⟩ w (V (p &&& 255#32)) w := ⟨by
  have e : bits .and .u32 (p.toNat : Int) 255 = ((p &&& 255#32).toNat : Int) := by
    show IntKind.u32.wrap ((BitVec.ofInt 32 (p.toNat : Int) &&& BitVec.ofInt 32 255).toNat : Int) = _
    rw [toNat_ofInt, wrapV]
    rfl
  simp only [execOp, ha, hb, V]
  simp [eqGuard_and, binOp_and, intBits_and, e]⟩
theorem run_add {t1 t2 : TypeId} (ha : evF f a = V p) (hb : evF f b = V q) : Runs P f ⟨d, .binOp .add t1 a b t2, ty, pos, af, gd⟩ w (V (p + q)) w := ⟨by
  have e : IntKind.u32.wrap ((p.toNat : Int) + (q.toNat : Int)) = ((p + q).toNat : Int) := by
    simp [IntKind.wrap, IntKind.bits, IntKind.signed, BitVec.toNat_add]
  simp only [execOp, ha, hb, V]
  simp [eqGuard_add, binOp_add, Op.intArith, e]⟩
theorem run_shr {t1 t2 : TypeId} {n : Nat} (hn : n ≤ 32) (ha : evF f a = V p) (hb : evF f b = .int .u64 (n : Int)) : Runs P f ⟨d, .binOp .shr t1 a b t2, ty, pos, af, gd⟩ w (V (p >>> n)) w := ⟨by
  have e : (p.toNat : Int) / 2 ^ ((n : Int)).toNat = ((p >>> n).toNat : Int) := by
    rw [Int.toNat_natCast, BitVec.toNat_ushiftRight, Nat.shiftRight_eq_div_pow]
    simp
  have hs : binOp .shr t1 (V p) (.int .u64 (n : Int)) = pure (V (p >>> n)) := by
    unfold V
    rw [binOp_shr, shift_shr .u32 .u64 (p.toNat : Int) (n : Int) (by omega) (by simp [IntKind.bits]; omega), e]
  simp only [execOp, ha, hb]
  simp [eqGuard_shr, hs]⟩
theorem run_shr24 {t1 t2 : TypeId} (ha : evF f a = V p) (hb : evF f b = .int .u64 24) : Runs P f ⟨d, .binOp .shr t1 a b t2, ty, pos, af, gd⟩ w (V (p >>> 24)) w :=
  run_shr (n := 24) (by decide) ha hb
theorem run_shr16 {t1 t2 : TypeId} (ha : evF f a = V p) (hb : evF f b = .int .u64 16) : Runs P f ⟨d, .binOp .shr t1 a b t2, ty, pos, af, gd⟩ w (V (p >>> 16)) w :=
  run_shr (n := 16) (by decide) ha hb
theorem run_shr8 {t1 t2 : TypeId} (ha : evF f a = V p) (hb : evF f b = .int .u64 8) : Runs P f ⟨d, .binOp .shr t1 a b t2, ty, pos, af, gd⟩ w (V (p >>> 8)) w :=
  run_shr (n := 8) (by decide) ha hb
theorem run_shl8 {t1 t2 : TypeId} (ha : evF f a = V p) (hb : evF f b = .int .u64 8) : Runs P f ⟨d, .binOp .shl t1 a b t2, ty, pos, af, gd⟩ w (V (p <<< 8)) w := ⟨by
  have e : IntKind.u32.wrap ((p.toNat : Int) * 2 ^ ((8 : Int)).toNat) = ((p <<< 8).toNat : Int) := by
    simp [IntKind.wrap, IntKind.bits, IntKind.signed, BitVec.toNat_shiftLeft, Nat.shiftLeft_eq]
  have hs : binOp .shl t1 (V p) (.int .u64 8) = pure (V (p <<< 8)) := by
    unfold V
    rw [binOp_shl, shift_shl .u32 .u64 (p.toNat : Int) 8 (by omega) (by simp [IntKind.bits]), e]
  simp only [execOp, ha, hb]
  simp [eqGuard_shl, hs]⟩
theorem run_nil {q : Addr} (h : evF f x = .pointer (some q)) : Runs P f ⟨d, .nilCheck x, ty, pos, af, gd⟩ w (.pointer (some q)) w := ⟨by
  simp only [execOp, h]; rfl⟩
theorem run_ext {vs : Array Value} {i : Nat} {v : Value} (h : evF f x = .tuple vs) (hv : vs[i]? = some v) : Runs P f ⟨d, .extract x i, ty, pos, af, gd⟩ w v w := ⟨by
  simp only [execOp, h, Instr.extract, hv]; rfl⟩

/-! Comparisons and sums of int -/
theorem run_lssT {t1 t2 : TypeId} {k : IntKind} {m n : Int} (ha : evF f a = .int k m) (hb : evF f b = .int k n) (h : m < n) : Runs P f ⟨d, .binOp .lss t1 a b t2, ty, pos, af, gd⟩ w (.bool true) w := ⟨by
  simp only [execOp, ha, hb]; simp [eqGuard_lss, binOp_lss, h]⟩
theorem run_lssF {t1 t2 : TypeId} {k : IntKind} {m n : Int} (ha : evF f a = .int k m) (hb : evF f b = .int k n) (h : ¬ m < n) : Runs P f ⟨d, .binOp .lss t1 a b t2, ty, pos, af, gd⟩ w (.bool false) w := ⟨by
  simp only [execOp, ha, hb]; simp [eqGuard_lss, binOp_lss, h]⟩
theorem run_gtrT {t1 t2 : TypeId} {k : IntKind} {m n : Int} (ha : evF f a = .int k m) (hb : evF f b = .int k n) (h : n < m) : Runs P f ⟨d, .binOp .gtr t1 a b t2, ty, pos, af, gd⟩ w (.bool true) w := ⟨by
  simp only [execOp, ha, hb]; simp [eqGuard_gtr, binOp_gtr, h]⟩
theorem run_gtrF {t1 t2 : TypeId} {k : IntKind} {m n : Int} (ha : evF f a = .int k m) (hb : evF f b = .int k n) (h : ¬ n < m) : Runs P f ⟨d, .binOp .gtr t1 a b t2, ty, pos, af, gd⟩ w (.bool false) w := ⟨by
  simp only [execOp, ha, hb]; simp [eqGuard_gtr, binOp_gtr, h]⟩
theorem run_geqT {t1 t2 : TypeId} {k : IntKind} {m n : Int} (ha : evF f a = .int k m) (hb : evF f b = .int k n) (h : n ≤ m) : Runs P f ⟨d, .binOp .geq t1 a b t2, ty, pos, af, gd⟩ w (.bool true) w := ⟨by
  simp only [execOp, ha, hb]; simp [eqGuard_geq, binOp_geq, h]⟩
theorem run_geqF {t1 t2 : TypeId} {k : IntKind} {m n : Int} (ha : evF f a = .int k m) (hb : evF f b = .int k n) (h : ¬ n ≤ m) : Runs P f ⟨d, .binOp .geq t1 a b t2, ty, pos, af, gd⟩ w (.bool false) w := ⟨by
  simp only [execOp, ha, hb]; simp [eqGuard_geq, binOp_geq, h]⟩
theorem run_eqlT {t1 t2 : TypeId} {k : IntKind} {m n : Int} (ha : evF f a = .int k m) (hb : evF f b = .int k n) (h : m = n) : Runs P f ⟨d, .binOp .eql t1 a b t2, ty, pos, af, gd⟩ w (.bool true) w := ⟨by
  simp only [execOp, ha, hb]; simp [eqGuard_at_int, binOp_eql, h]⟩
theorem run_eqlF {t1 t2 : TypeId} {k : IntKind} {m n : Int} (ha : evF f a = .int k m) (hb : evF f b = .int k n) (h : ¬ m = n) : Runs P f ⟨d, .binOp .eql t1 a b t2, ty, pos, af, gd⟩ w (.bool false) w := ⟨by
  simp only [execOp, ha, hb]; simp [eqGuard_at_int, binOp_eql, h]⟩
theorem run_addI {t1 t2 : TypeId} {m n : Int} (ha : evF f a = .int .i64 m) (hb : evF f b = .int .i64 n) (h0 : -1000000 ≤ m + n) (h1 : m + n ≤ 1000000) : Runs P f ⟨d, .binOp .add t1 a b t2, ty, pos, af, gd⟩ w (.int .i64 (m + n)) w := ⟨by
  have e : IntKind.i64.wrap (m + n) = m + n := IntWalk.i64_in _ (by omega)
  simp only [execOp, ha, hb]; simp [eqGuard_add, binOp_add, Op.intArith, e]⟩
theorem run_subI {t1 t2 : TypeId} {m n : Int} (ha : evF f a = .int .i64 m) (hb : evF f b = .int .i64 n) (h0 : -1000000 ≤ m - n) (h1 : m - n ≤ 1000000) : Runs P f ⟨d, .binOp .sub t1 a b t2, ty, pos, af, gd⟩ w (.int .i64 (m - n)) w := ⟨by
  have e : IntKind.i64.wrap (m - n) = m - n := IntWalk.i64_in _ (by omega)
  simp only [execOp, ha, hb]; simp [eqGuard_sub, binOp_sub, Op.intArith, e]⟩
end

/-! ### What needs the program's types -/
theorem size_run {P : Program} {t : TypeId} {n : Nat} (h : (P.info? t).map (·.size) = some n) (w : World) : (sizeOf t).run P w = .ok n w := by
  cases hq : P.info? t with
  | none => simp [hq] at h
  | some i =>
    have : i.size = n := by simpa [hq] using h
    simp [sizeOf, typeInfo, hq, this]
theorem sz5 : (Try.prog.info? 5).map (·.size) = some 1 := by kernel_rfl
theorem sz23 : (Try.prog.info? 23).map (·.size) = some 1 := by kernel_rfl
theorem sz24 : (Try.prog.info? 24).map (·.size) = some 18 := by kernel_rfl
theorem sz25 : (Try.prog.info? 25).map (·.size) = some 256 := by kernel_rfl
theorem sz26 : (Try.prog.info? 26).map (·.size) = some 1024 := by kernel_rfl
theorem sz28 : (Try.prog.info? 28).map (·.size) = some 1042 := by kernel_rfl
theorem sz44 : (Try.prog.info? 44).map (·.size) = some 1042 := by kernel_rfl

section
variable {f : Nat → Value} {d : Option Tmp} {a b x : Operand} {ty : TypeId} {pos : String} {af : Array Edge} {gd : Option (Nat × Bool)} {w : World} {p q : BitVec 32}

theorem run_conv8 (ha : evF f a = V p) : Runs Try.prog f ⟨d, .convert 23 5 a, ty, pos, af, gd⟩ w (.int .u8 ((p.toNat % 256 : Nat) : Int)) w := ⟨by
  have e : IntKind.u8.wrap (p.toNat : Int) = ((p.toNat % 256 : Nat) : Int) := by
    simp [IntKind.wrap, IntKind.bits, IntKind.signed]
  simp only [execOp, ha, V]
  simp [convert, run_underlying Try.underlying5, run_underlying Try.underlying23, Conv.intToInt, e]⟩
theorem run_conv32 {n : Nat} (ha : evF f a = .int .u8 (n : Int)) : Runs Try.prog f ⟨d, .convert 5 23 a, ty, pos, af, gd⟩ w (V (BitVec.ofNat 32 n)) w := ⟨by
  have e : IntKind.u32.wrap (n : Int) = (((BitVec.ofNat 32 n).toNat : Nat) : Int) := by
    simp [IntKind.wrap, IntKind.bits, IntKind.signed]
  simp only [execOp, ha, V]
  simp [convert, run_underlying Try.underlying5, run_underlying Try.underlying23, Conv.intToInt, e]⟩

theorem run_field {s u : TypeId} {i k n : Nat} {fs : Array Field} {fl : Field} {g : Nat} (hu : Try.prog.underlying s = some (.struct fs)) (hf : fs[i]? = some fl) (ho : fl.offset = k) (ht : fl.type = u)
    (hs : (Try.prog.info? u).map (·.size) = some n) (hn : n ≠ 0) (h : evF f x = .pointer (some ⟨g, 0, none⟩)) :
    Runs Try.prog f ⟨d, .fieldAddr s x i, ty, pos, af, gd⟩ w (.pointer (some ⟨g, k, none⟩)) w := ⟨by
  subst ht
  have e : (⟨g, 0, none⟩ : Addr).add fl.offset = ⟨g, k, none⟩ := by rw [Addr.add_lit, ho, Nat.zero_add]
  simp only [execOp, h, Instr.fieldAt, Instr.sureAddr, Sem.run_bind, run_underlying hu, Result.andThen_ok, hf, fieldPlace, size_run hs, Sem.run_pure, if_neg hn, e]⟩
theorem run_f28_0 {g : Nat} (h : evF f x = .pointer (some ⟨g, 0, none⟩)) : Runs Try.prog f ⟨d, .fieldAddr 28 x 0, ty, pos, af, gd⟩ w (.pointer (some ⟨g, 0, none⟩)) w :=
  run_field Try.underlying28 rfl rfl rfl sz24 (by decide) h
theorem run_f28_1 {g : Nat} (h : evF f x = .pointer (some ⟨g, 0, none⟩)) : Runs Try.prog f ⟨d, .fieldAddr 28 x 1, ty, pos, af, gd⟩ w (.pointer (some ⟨g, 18, none⟩)) w :=
  run_field Try.underlying28 rfl rfl rfl sz26 (by decide) h
theorem run_f44_0 {g : Nat} (h : evF f x = .pointer (some ⟨g, 0, none⟩)) : Runs Try.prog f ⟨d, .fieldAddr 44 x 0, ty, pos, af, gd⟩ w (.pointer (some ⟨g, 0, none⟩)) w :=
  run_field Try.underlying44 rfl rfl rfl sz24 (by decide) h
theorem run_f44_1 {g : Nat} (h : evF f x = .pointer (some ⟨g, 0, none⟩)) : Runs Try.prog f ⟨d, .fieldAddr 44 x 1, ty, pos, af, gd⟩ w (.pointer (some ⟨g, 18, none⟩)) w :=
  run_field Try.underlying44 rfl rfl rfl sz25 (by decide) h
theorem run_f44_2 {g : Nat} (h : evF f x = .pointer (some ⟨g, 0, none⟩)) : Runs Try.prog f ⟨d, .fieldAddr 44 x 2, ty, pos, af, gd⟩ w (.pointer (some ⟨g, 274, none⟩)) w :=
  run_field Try.underlying44 rfl rfl rfl sz25 (by decide) h
theorem run_f44_3 {g : Nat} (h : evF f x = .pointer (some ⟨g, 0, none⟩)) : Runs Try.prog f ⟨d, .fieldAddr 44 x 3, ty, pos, af, gd⟩ w (.pointer (some ⟨g, 530, none⟩)) w :=
  run_field Try.underlying44 rfl rfl rfl sz25 (by decide) h
theorem run_f44_4 {g : Nat} (h : evF f x = .pointer (some ⟨g, 0, none⟩)) : Runs Try.prog f ⟨d, .fieldAddr 44 x 4, ty, pos, af, gd⟩ w (.pointer (some ⟨g, 786, none⟩)) w :=
  run_field Try.underlying44 rfl rfl rfl sz25 (by decide) h

theorem run_index {arr e : TypeId} {len m g o n : Nat} {k : IntKind} (hu : Try.prog.underlying arr = some (.array len e)) (hs : (Try.prog.info? e).map (·.size) = some m)
    (ha : evF f a = .pointer (some ⟨g, o, none⟩)) (hb : evF f b = .int k (n : Int)) (hn : n < len) :
    Runs Try.prog f ⟨d, .indexAddr arr a b, ty, pos, af, gd⟩ w (.pointer (some ⟨g, o + n * m, none⟩)) w := ⟨by
  have h0 : (0 : Int) ≤ (n : Int) ∧ (n : Int) < (len : Int) := ⟨by omega, by omega⟩
  simp only [execOp, ha, hb, Instr.indexAt, asIntOf, Sem.run_bind, run_underlying hu, Result.andThen_ok, Sem.run_pure, Instr.sureAddr, if_pos h0, size_run hs, Int.toNat_natCast, Addr.add_lit]⟩
theorem run_i24 {g o n : Nat} {k : IntKind} (ha : evF f a = .pointer (some ⟨g, o, none⟩)) (hb : evF f b = .int k (n : Int)) (hn : n < 18) :
    Runs Try.prog f ⟨d, .indexAddr 24 a b, ty, pos, af, gd⟩ w (.pointer (some ⟨g, o + n, none⟩)) w := by
  have := run_index (d := d) (ty := ty) (pos := pos) (af := af) (gd := gd) (w := w) Try.underlying24 sz23 ha hb hn
  rwa [Nat.mul_one] at this
theorem run_i24z {g n : Nat} {k : IntKind} (ha : evF f a = .pointer (some ⟨g, 0, none⟩)) (hb : evF f b = .int k (n : Int)) (hn : n < 18) :
    Runs Try.prog f ⟨d, .indexAddr 24 a b, ty, pos, af, gd⟩ w (.pointer (some ⟨g, n, none⟩)) w := by
  have := run_i24 (d := d) (ty := ty) (pos := pos) (af := af) (gd := gd) (w := w) ha hb hn
  rwa [Nat.zero_add] at this
theorem run_i25 {g o n : Nat} {k : IntKind} (ha : evF f a = .pointer (some ⟨g, o, none⟩)) (hb : evF f b = .int k (n : Int)) (hn : n < 256) :
    Runs Try.prog f ⟨d, .indexAddr 25 a b, ty, pos, af, gd⟩ w (.pointer (some ⟨g, o + n, none⟩)) w := by
  have := run_index (d := d) (ty := ty) (pos := pos) (af := af) (gd := gd) (w := w) Try.underlying25 sz23 ha hb hn
  rwa [Nat.mul_one] at this
theorem run_i26 {g o n : Nat} {k : IntKind} (ha : evF f a = .pointer (some ⟨g, o, none⟩)) (hb : evF f b = .int k (n : Int)) (hn : n < 4) :
    Runs Try.prog f ⟨d, .indexAddr 26 a b, ty, pos, af, gd⟩ w (.pointer (some ⟨g, o + n * 256, none⟩)) w :=
  run_index Try.underlying26 sz25 ha hb hn

theorem run_i24c {g o : Nat} {k : IntKind} {i : Int} (ha : evF f a = .pointer (some ⟨g, o, none⟩)) (hb : evF f b = .int k i) (h0 : 0 ≤ i) (hn : i.toNat < 18) :
    Runs Try.prog f ⟨d, .indexAddr 24 a b, ty, pos, af, gd⟩ w (.pointer (some ⟨g, o + i.toNat, none⟩)) w :=
  run_i24 ha (hb.trans (by rw [Int.toNat_of_nonneg h0])) hn
theorem run_i26c {g o : Nat} {k : IntKind} {i : Int} (ha : evF f a = .pointer (some ⟨g, o, none⟩)) (hb : evF f b = .int k i) (h0 : 0 ≤ i) (hn : i.toNat < 4) :
    Runs Try.prog f ⟨d, .indexAddr 26 a b, ty, pos, af, gd⟩ w (.pointer (some ⟨g, o + i.toNat * 256, none⟩)) w :=
  run_i26 ha (hb.trans (by rw [Int.toNat_of_nonneg h0])) hn

theorem run_load1 {t : TypeId} {dsc : TypeDesc} {v : Value} {q : Addr} (hu : Try.prog.underlying t = some dsc) (hd : (match dsc with | .struct _ | .array _ _ => true | _ => false) = false)
    (ha : evF f x = .pointer (some q)) (hc : w.cell? q = some v) : Runs Try.prog f ⟨d, .load t x, ty, pos, af, gd⟩ w v w := ⟨by
  have hagg : (isAgg t).run Try.prog w = .ok false w := by
    unfold isAgg
    rw [Sem.run_bind, run_underlying hu w]
    cases dsc <;> simp_all
  simp [execOp, ha, Instr.loadAt, Instr.sureAddr, loadVar, hagg, hc]⟩
theorem run_load {g i : Nat} {s : Tbl} {t : TypeId} (ha : evF f x = .pointer (some ⟨g, i, none⟩)) (hT : Tab w g s t) (hi : i < 1042) :
    Runs Try.prog f ⟨d, .load 23 x, ty, pos, af, gd⟩ w (V (s i)) w := run_load1 Try.underlying23 rfl ha (hT.cell hi)
theorem run_store {g i : Nat} {s : Tbl} {t : TypeId} (ha : evF f a = .pointer (some ⟨g, i, none⟩)) (hb : evF f b = V p) (hT : Tab w g s t) (hi : i < 1042) :
    Stores Try.prog f ⟨none, .store 23 a b, ty, pos, af, gd⟩ w (w.setRow g (row (setT s i p))) := ⟨by
  have h1 : (store ⟨g, i, none⟩ (V p)).run Try.prog w = .ok () (w.setRow g (row (setT s i p))) := by
    rw [Go.run_store Try.prog w _ _ _ rfl, hT.cell hi]
    simp only [hT.frozen i, setCell_eq_setRow w g i (row s) t (0, 0) (V p) hT, row_set]
    rfl
  simp only [execOp, ha, hb, Instr.storeAt, Instr.sureAddr, Sem.run_bind, Sem.run_pure, Result.andThen_ok, storeVar, size_run sz23]
  simp [V, Value.cells, storeCells, Addr.add_zero'] at h1 ⊢
  simp [h1]⟩

/-- A call of a function with a body. -/
theorem run_enter {k : Nat} {fn : Func} {l : List Operand} {ats : Array TypeId} {vs : List Value} (hf : Try.prog.funcs[k]? = some fn) (hn : (fn.name == "runtime.NumGoroutine") = false) (hb : fn.body.isNone = false)
    (hv : l.map (evF f) = vs) : Enters Try.prog f ⟨d, .call { callee := .value (.func k), args := l.toArray, argTypes := ats }, ty, pos, af, gd⟩ w k vs.toArray := ⟨by
  subst hv
  have hc : (callFunc k (l.map (evF f)).toArray).run Try.prog w = .ok (.enter k (l.map (evF f)).toArray) w := by
    simp only [callFunc, Sem.run_bind, run_program, Result.andThen_ok, hf, hn, hb, Bool.false_eq_true, if_false, Sem.run_pure]
  simp [execOp, resolve, evF, Deferred.ofValue, invoke, hc]⟩
theorem run_enter1 {k : Nat} {fn : Func} {ats : Array TypeId} {va : Value} (hf : Try.prog.funcs[k]? = some fn) (hn : (fn.name == "runtime.NumGoroutine") = false) (hb : fn.body.isNone = false)
    (ha : evF f a = va) : Enters Try.prog f ⟨d, .call { callee := .value (.func k), args := #[a], argTypes := ats }, ty, pos, af, gd⟩ w k #[va] :=
  run_enter (l := [a]) (vs := [va]) hf hn hb (by rw [List.map_cons, ha]; rfl)
theorem run_enter2 {k : Nat} {fn : Func} {ats : Array TypeId} {va vb : Value} (hf : Try.prog.funcs[k]? = some fn) (hn : (fn.name == "runtime.NumGoroutine") = false) (hb : fn.body.isNone = false)
    (h1 : evF f a = va) (h2 : evF f b = vb) : Enters Try.prog f ⟨d, .call { callee := .value (.func k), args := #[a, b], argTypes := ats }, ty, pos, af, gd⟩ w k #[va, vb] :=
  run_enter (l := [a, b]) (vs := [va, vb]) hf hn hb (by rw [List.map_cons, List.map_cons, h1, h2]; rfl)
theorem run_enter3 {k : Nat} {fn : Func} {ats : Array TypeId} {va vb vc : Value} {c : Operand} (hf : Try.prog.funcs[k]? = some fn) (hn : (fn.name == "runtime.NumGoroutine") = false) (hb : fn.body.isNone = false)
    (h1 : evF f a = va) (h2 : evF f b = vb) (h3 : evF f c = vc) : Enters Try.prog f ⟨d, .call { callee := .value (.func k), args := #[a, b, c], argTypes := ats }, ty, pos, af, gd⟩ w k #[va, vb, vc] :=
  run_enter (l := [a, b, c]) (vs := [va, vb, vc]) hf hn hb (by rw [List.map_cons, List.map_cons, List.map_cons, h1, h2, h3]; rfl)
end
/-! None of the functions is the runtime's own counter of goroutines. -/
theorem nm4 : (Try.f4.name == "runtime.NumGoroutine") = false := by kernel_rfl
theorem nm5 : (Try.f5.name == "runtime.NumGoroutine") = false := by kernel_rfl
theorem nm6 : (Try.f6.name == "runtime.NumGoroutine") = false := by kernel_rfl
theorem nm7 : (Try.f7.name == "runtime.NumGoroutine") = false := by kernel_rfl
theorem nm8 : (Try.f8.name == "runtime.NumGoroutine") = false := by kernel_rfl
theorem nm9 : (Try.f9.name == "runtime.NumGoroutine") = false := by kernel_rfl
theorem nm10 : (Try.f10.name == "runtime.NumGoroutine") = false := by kernel_rfl
theorem nm11 : (Try.f11.name == "runtime.NumGoroutine") = false := by kernel_rfl
theorem nm12 : (Try.f12.name == "runtime.NumGoroutine") = false := by kernel_rfl
theorem nm13 : (Try.f13.name == "runtime.NumGoroutine") = false := by kernel_rfl
theorem nm14 : (Try.f14.name == "runtime.NumGoroutine") = false := by kernel_rfl
end Go.Proofs.Ytolkgekbnbgodaa
