/- A small calculus of frames: a frame is read through a function from slots to values; each operation turns that function at one slot. It holds of every program. -/
import Derived.Test.YtolkgekbnbgodaaProg
import Derived.WalkKit
import Derived.WalkLawsBesides
import Derived.Deep.Quiet
import Derived.Deep.Draws
namespace Go.Proofs.Ytolkgekbnbgodaa
open Go

/-- The frame 'a' has N slots, no deferred call, and reads as 'f'. -/
structure Fr (N : Nat) (f : Nat → Value) (a : Act) : Prop where
  size : a.tmps.size = N
  dfr : a.defers = []
  get : ∀ i, a.tmps.getD i undef = f i

def upd (f : Nat → Value) (d : Nat) (v : Value) : Nat → Value := fun i => bif Nat.beq i d then v else f i

theorem upd_same (f : Nat → Value) (d : Nat) (v : Value) : upd f d v d = v := by simp [upd]
theorem upd_ne (f : Nat → Value) {d i : Nat} (v : Value) (h : i ≠ d) : upd f d v i = f i := by
  unfold upd
  have : Nat.beq i d = false := by
    cases hb : Nat.beq i d
    · rfl
    · exact absurd (Nat.eq_of_beq_eq_true hb) h
  rw [this]; rfl
/-- A known slot may be written out. -/
theorem upd_known {f : Nat → Value} {d : Nat} {v : Value} (h : f d = v) : upd f d v = f := by
  funext i
  by_cases hi : i = d
  · subst hi; rw [upd_same, h]
  · rw [upd_ne f v hi]

def evF (f : Nat → Value) : Operand → Value
  | .tmp t => f t
  | .const v => v
  | .global g => .pointer (some ⟨g, 0, none⟩)
  | .func k => .func (.func k) #[] #[]

section
variable {P : Program} {N : Nat} {f : Nat → Value} {a : Act}

theorem Fr.eval (h : Fr N f a) : a.eval = evF f := by
  funext x
  cases x with
  | tmp t => exact h.get t
  | const v => rfl
  | global g => rfl
  | func k => rfl

theorem Fr.put (h : Fr N f a) (d : Nat) (v : Value) (hd : Nat.blt d N = true) : Fr N (upd f d v) (a.put (some d) v) := by
  have hd' : d < a.tmps.size := by rw [h.size]; exact Nat.le_of_ble_eq_true hd
  refine ⟨by simp [Act.put, h.size], h.dfr, fun i => ?_⟩
  by_cases hi : i = d
  · subst hi
    rw [upd_same]
    simp [Act.put, hd']
  · rw [upd_ne f v hi, ← h.get i]
    simp [Act.put, Array.getElem?_setIfInBounds_ne (Ne.symm hi)]

/-- Whatever frame reads as 'f'. -/
def G (N : Nat) (f : Nat → Value) (S : Act → Prop) : Prop := ∀ a, Fr N f a → S a

theorem G.known {S : Act → Prop} {d : Nat} {v : Value} (h : f d = v) (k : G N (upd f d v) S) : G N f S := by
  rw [← upd_known h]; exact k

/-- All but three slots is forgotten. -/
theorem G.gen3 {S : Act → Prop} {d1 d2 d3 : Nat} {v1 v2 v3 : Value} (h1 : f d1 = v1) (h2 : f d2 = v2) (h3 : f d3 = v3) (k : ∀ g : Nat → Value, g d1 = v1 → g d2 = v2 → g d3 = v3 → G N g S) : G N f S := k f h1 h2 h3

theorem G.mono {S S' : Act → Prop} (h : ∀ a, S a → S' a) (k : G N f S) : G N f S' := fun a ha => h a (k a ha)

theorem g_all {β : Sort _} {S : Act → β → Prop} (k : ∀ n, G N f fun a => S a n) : G N f fun a => ∀ n, S a n := fun a ha n => k n a ha

/-- What one operation does: run in a frame that reads as 'f', in the world 'w', it yields 'v' and leaves 'w''. -/
structure Runs (P : Program) (f : Nat → Value) (o : Oper) (w : World) (v : Value) (w' : World) : Prop where
  out : (execOp (evF f) o).run P w = .ok (.value v) w'
/-- .. and it yields nothing (a store). -/
structure Stores (P : Program) (f : Nat → Value) (o : Oper) (w : World) (w' : World) : Prop where
  out : (execOp (evF f) o).run P w = .ok .skip w'
/-- .. and it enters a function. -/
structure Enters (P : Program) (f : Nat → Value) (o : Oper) (w : World) (k : FuncId) (args : Array Value) : Prop where
  out : (execOp (evF f) o).run P w = .ok (.enter k args) w

variable {ops : Array Oper} {Q : Exit → Act → World → Prop} {rest : List Oper} {o : Oper} {d : Nat} {v : Value} {w w' : World}

theorem g_op (hd : o.dst = some d) (hg : o.guard = none) (hN : Nat.blt d N = true) (h : Runs P f o w v w')
    (k : G N (upd f d v) fun a => wpList P ops Q rest a w') : G N f fun a => wpList P ops Q (o :: rest) a w := fun a ha =>
  wpList_plain hg fun K hK => by
    unfold Oper.wp
    rw [ha.eval, h.out, Oper.upon_value, hd]
    exact hK _ _ (k _ (ha.put d v hN))

theorem g_store (hd : o.dst = none) (hg : o.guard = none) (h : Stores P f o w w')
    (k : G N f fun a => wpList P ops Q rest a w') : G N f fun a => wpList P ops Q (o :: rest) a w := fun a ha =>
  wpList_plain hg fun K hK => by
    unfold Oper.wp
    rw [ha.eval, h.out, Oper.upon_skip, hd]
    exact hK _ _ (k _ ha)

theorem g_call {kf : FuncId} {args : Array Value} {S : Value → World → Prop} (hd : o.dst = some d) (hg : o.guard = none) (hN : Nat.blt d N = true)
    (h : Enters P f o w kf args) (hc : Calls P kf args w fun e w' => ∃ v, e = .returned v ∧ S v w')
    (k : ∀ v w', S v w' → G N (upd f d v) fun a => wpList P ops Q rest a w') : G N f fun a => wpList P ops Q (o :: rest) a w := fun a ha =>
  wpList_plain hg fun K hK => by
    unfold Oper.wp
    rw [ha.eval, h.out, Oper.upon_enter, hd]
    refine hc.mono fun e w' he => ?_
    obtain ⟨v, rfl, hs⟩ := he
    exact hK _ _ (k v w' hs _ (ha.put d v hN))

/-- The same by a contract that names the value. -/
theorem g_callV {kf : FuncId} {args : Array Value} {S : World → Prop} (hd : o.dst = some d) (hg : o.guard = none) (hN : Nat.blt d N = true)
    (h : Enters P f o w kf args) (hc : Calls P kf args w fun e w' => e = .returned v ∧ S w')
    (k : ∀ w', S w' → G N (upd f d v) fun a => wpList P ops Q rest a w') : G N f fun a => wpList P ops Q (o :: rest) a w :=
  g_call (S := fun u w' => u = v ∧ S w') hd hg hN h (hc.mono fun _ _ ⟨he, hs⟩ => ⟨v, he, rfl, hs⟩) fun u w' ⟨hu, hs⟩ => by subst hu; exact k w' hs

theorem g_nil (k : G N f fun a => Q .normal a w) : G N f fun a => wpList P ops Q [] a w := fun a ha => wpList_nil (k a ha)

theorem g_region {id : Nat} {l : List Oper} (k : G N f fun a => wpList P l.toArray Q l a w) : G N f fun a => (Code.region id l.toArray false).wp P Q a w := fun a ha =>
  wp_region_lit (k a ha)
theorem g_seq {x y : Code} (k : G N f fun a => x.wp P (Exit.then (y.wp P Q) Q) a w) : G N f fun a => (Code.seq x y).wp P Q a w := fun a ha =>
  wp_seq (k a ha)
theorem g_then {K : Act → World → Prop} (k : G N f fun a => K a w) : G N f fun a => Exit.then K Q .normal a w := k
theorem g_texit {id : Nat} {K : Act → World → Prop} (k : G N f fun a => Q (.exit id) a w) : G N f fun a => Exit.then K Q (.exit id) a w := k
theorem g_ret (k : G N f fun a => Q .ret a w) : G N f fun a => Code.ret.wp P Q a w := fun a ha => wp_ret (k a ha)
theorem g_skip (k : G N f fun a => Q .normal a w) : G N f fun a => Code.skip.wp P Q a w := fun a ha => wp_skip (k a ha)
theorem g_exit {id : Nat} (k : G N f fun a => Q (.exit id) a w) : G N f fun a => (Code.exit id).wp P Q a w := fun a ha => wp_exit (k a ha)
theorem g_block {id : Nat} {c : Code} (k : G N f fun a => c.wp P (Exit.inBlock id Q) a w) : G N f fun a => (Code.block id c).wp P Q a w := fun a ha =>
  wp_block (k a ha)
theorem g_cond_true {c : Operand} {x y : Code} (hc : evF f c = .bool true) (k : G N f fun a => x.wp P Q a w) : G N f fun a => (Code.cond c x y).wp P Q a w := fun a ha =>
  wp_cond_true (by rw [ha.eval]; exact hc) (k a ha)
theorem g_cond_false {c : Operand} {x y : Code} (hc : evF f c = .bool false) (k : G N f fun a => y.wp P Q a w) : G N f fun a => (Code.cond c x y).wp P Q a w := fun a ha =>
  wp_cond_false (by rw [ha.eval]; exact hc) (k a ha)

theorem g_out {id : Nat} (k : G N f fun a => Q .normal a w) : G N f fun a => Exit.inBlock id Q (.exit id) a w := fun a ha => by
  show (if id = id then Q .normal a w else Q (.exit id) a w)
  rw [if_pos rfl]
  exact k a ha
theorem g_round {J : (Nat → Value) → Nat → Prop} {m : Nat} (m' : Nat) (hI : J f m') (hm : m' < m) : G N f fun a => ∃ f' m', Fr N f' a ∧ J f' m' ∧ m' < m := fun _ ha =>
  ⟨f, m', ha, hI, hm⟩

/-- A loop: the invariant speaks of the function through which the frame is read. -/
theorem g_loop {c : Code} (I : (Nat → Value) → World → Nat → Prop) (m : Nat) (h0 : I f w m)
    (round : ∀ f w m, I f w m → G N f fun a => c.wp P (Exit.then (fun a' w' => ∃ f' m', Fr N f' a' ∧ I f' w' m' ∧ m' < m) Q) a w) :
    G N f fun a => (Code.loop c).wp P Q a w := fun a ha => by
  intro b k cs
  have key : ∀ m a w, (∃ f, Fr N f a ∧ I f w m) →
      ∃ e a' w', Q e a' w' ∧ Arrives P (lone (b.at a (.code c :: .inLoop c :: k)) cs w) b k cs e a' w' := by
    intro m
    induction m using Nat.strongRecOn with
    | _ m ih =>
      rintro a w ⟨f, ha, hI⟩
      obtain ⟨e, a1, w1, hq, harr⟩ := round f w m hI a ha b (.inLoop c :: k) cs
      cases e with
      | normal =>
        obtain ⟨f', m', hf', hI', hm'⟩ := hq
        obtain ⟨e2, a2, w2, hq2, harr2⟩ := ih m' hm' a1 w1 ⟨f', hf', hI'⟩
        exact ⟨e2, a2, w2, hq2, .of_steps (Steps.trans harr (.one step_inLoop)) harr2⟩
      | exit id => exact ⟨_, a1, w1, hq, .pass (x := .inLoop c) rfl (fun _ _ => .inl (by simp)) harr⟩
      | goto l => exact ⟨_, a1, w1, hq, .pass (x := .inLoop c) rfl (fun _ _ => .inl (by simp)) harr⟩
      | ret => exact ⟨_, a1, w1, hq, .pass (x := .inLoop c) rfl (fun _ _ => .inl (by simp)) harr⟩
      | panic ch => exact ⟨_, a1, w1, hq, .pass (x := .inLoop c) rfl (fun _ _ => .inl (by simp)) harr⟩
      | outgrown => exact ⟨_, a1, w1, hq, .pass (x := .inLoop c) rfl (fun _ _ => .inl (by simp)) harr⟩
  obtain ⟨e, a', w', hq, harr⟩ := key m a w ⟨f, ha, h0⟩
  exact ⟨e, a', w', hq, .of_steps (.one step_loop) harr⟩

/-! ### A function's beginning and end -/

def argF : List Value → Nat → Value
  | [], _ => undef
  | v :: _, 0 => v
  | _ :: r, i + 1 => argF r i
theorem argF_get : ∀ (l : List Value) (i : Nat), argF l i = l[i]?.getD undef
  | [], i => by simp [argF]
  | v :: r, 0 => by simp [argF]
  | v :: r, i + 1 => by simp [argF, argF_get r i]

theorem g_enter {k : FuncId} {fn : Func} {c : Code} {l : List Value} {R : Ending → World → Prop} (hf : P.funcs[k]? = some fn) (hb : fn.body = some c) (hN : fn.ntmps = N) (hl : Nat.ble l.length N = true)
    (h : G N (argF l) fun a => c.wp P (bodyPost P fn R) a w) : Calls P k l.toArray w R := by
  refine calls_of_wp hf hb (h _ ⟨?_, rfl, fun i => ?_⟩)
  · have := Nat.le_of_ble_eq_true hl
    simp [hN]; omega
  · rw [argF_get]
    simp only [hN]
    rw [Array.getD_eq_getD_getElem?, Array.getElem?_append]
    by_cases hi : i < l.length
    · simp [hi]
    · simp [hi, Array.getElem?_replicate]
      split <;> rfl

theorem g_ret1 {fn : Func} {R : Ending → World → Prop} {t : Tmp} (hr : fn.results = #[.tmp t]) (hv : f t = v) (h : R (.returned v) w) : G N f fun a => bodyPost P fn R .ret a w := fun a ha =>
  bodyPost_ret (results_tmp hr _ _ _) ha.dfr (by rw [ha.get, hv]; exact h)
theorem g_ret2 {fn : Func} {R : Ending → World → Prop} {t u : Tmp} {v2 : Value} (hr : fn.results = #[.tmp t, .tmp u]) (hv : f t = v) (hv2 : f u = v2) (h : R (.returned (.tuple #[v, v2])) w) : G N f fun a => bodyPost P fn R .ret a w := fun a ha =>
  bodyPost_ret (results_tmp2 hr _ _ _) ha.dfr (by rw [ha.get, ha.get, hv, hv2]; exact h)
theorem g_end0 {fn : Func} {R : Ending → World → Prop} (hr : fn.results = #[]) (h : R (.returned (.tuple #[])) w) : G N f fun a => bodyPost P fn R .normal a w := fun _ ha =>
  bodyPost_end (results_none hr _ _ _) ha.dfr h
theorem g_ret0 {fn : Func} {R : Ending → World → Prop} (hr : fn.results = #[]) (h : R (.returned (.tuple #[])) w) : G N f fun a => bodyPost P fn R .ret a w := fun _ ha =>
  bodyPost_ret (results_none hr _ _ _) ha.dfr h

/-! ### Regions that draw their order and only read -/

variable {C : World → Prop} {Qa : Act → Prop}
theorem q_op (hd : o.dst = some d) (hg : o.guard = none) (hN : Nat.blt d N = true) (h : ∀ w, C w → Runs P f o w v w)
    (k : G N (upd f d v) fun a => wpQuiet P ops C Qa rest a) : G N f fun a => wpQuiet P ops C Qa (o :: rest) a := fun a ha => by
  refine wpQuiet_step fun K hK => ?_
  rw [if_pos (by simp [Region.wanted, hg])]
  refine ⟨v, fun w hw => ?_, ?_⟩
  · unfold Oper.quietAt
    rw [ha.eval, (h w hw).out]
    exact ⟨rfl, rfl⟩
  · rw [hd]
    exact hK _ (k _ (ha.put d v hN))
theorem q_call {kf : FuncId} {args : Array Value} (hd : o.dst = some d) (hg : o.guard = none) (hN : Nat.blt d N = true)
    (h : ∀ w, C w → Enters P f o w kf args) (hc : ∀ w, C w → Calls P kf args w fun e w' => e = .returned v ∧ C w')
    (k : G N (upd f d v) fun a => wpQuiet P ops C Qa rest a) : G N f fun a => wpQuiet P ops C Qa (o :: rest) a := fun a ha => by
  refine wpQuiet_step fun K hK => ?_
  rw [if_pos (by simp [Region.wanted, hg])]
  refine ⟨v, fun w hw => ?_, ?_⟩
  · unfold Oper.quietAt
    rw [ha.eval, (h w hw).out]
    exact ⟨rfl, hc w hw⟩
  · rw [hd]
    exact hK _ (k _ (ha.put d v hN))
theorem q_nil (k : G N f Qa) : G N f fun a => wpQuiet P ops C Qa [] a := fun a ha => wpQuiet_nil (k a ha)
/-- The region's head: the class of worlds is 'w after some draws'. -/
theorem q_region {id : Nat} {l : List Oper} (hm : P.follows .mixedOrders = true) (hB : Region.lexB .any l.toArray = true)
    (k : G N f fun a => wpQuiet P l.toArray (fun w' => ∃ n, w' = w.drewN n) (fun a' => ∀ n, Q .normal a' (w.drewN n)) l a) :
    G N f fun a => (Code.region id l.toArray true).wp P Q a w := fun a ha =>
  wp_region_quiet (C := fun w' => ∃ n, w' = w.drewN n) hm hB ⟨1, rfl⟩ (by
    have h := k a ha
    have : (fun a' => ∀ n, Q .normal a' (w.drewN n)) = (fun a' => ∀ w', (∃ n, w' = w.drewN n) → Q .normal a' w') := by
      funext a'
      exact propext ⟨fun h w' ⟨n, hn⟩ => hn ▸ h n, fun h n => h _ ⟨n, rfl⟩⟩
    rw [this] at h
    simpa using h)

end
end Go.Proofs.Ytolkgekbnbgodaa
