/- The law's own function, walked: laws.FnBlowfishExpand. -/
import Derived.Test.YtolkgekbnbgodaaEq
namespace Go.Proofs.Ytolkgekbnbgodaa
open Go Go.RowKit
section
variable {P : Program} {N : Nat} {f : Nat → Value} {ops : Array Oper} {Q : Exit → Act → World → Prop} {rest : List Oper} {o : Oper} {d j t : Nat} {v : Value} {w w' : World} {c k : Bool} {C : World → Prop} {Qa : Act → Prop} {a : Act}
theorem g_tret {K : Act → World → Prop} (kk : G N f fun a => Q .ret a w) : G N f fun a => Exit.then K Q .ret a w := kk
/-! Guarded operations. -/
theorem wanted_of (h : Fr N f a) (hg : o.guard = some (j, k)) (hj : (ops[j]?).bind (·.dst) = some t) (ht : Nat.blt t N = true) (hf : f t = .bool c) : Region.wanted o (yielded ops a.tmps) = (c == k) := by
  have ht' : t < a.tmps.size := by rw [h.size]; exact Nat.le_of_ble_eq_true ht
  have hv : a.tmps[t]? = some (.bool c) := by
    have := h.get t
    rw [hf, Array.getD_eq_getD_getElem?, Array.getElem?_eq_getElem ht'] at this
    rw [Array.getElem?_eq_getElem ht']
    simpa using this
  unfold Region.wanted
  rw [hg]
  simp only [yielded, hj, Option.bind_some, hv]
  cases c <;> cases k <;> rfl
theorem g_opG (hd : o.dst = some d) (hg : o.guard = some (j, k)) (hj : (ops[j]?).bind (·.dst) = some t) (ht : Nat.blt t N = true) (hf : f t = .bool k) (hN : Nat.blt d N = true) (h : Runs P f o w v w')
    (kk : G N (upd f d v) fun a => wpList P ops Q rest a w') : G N f fun a => wpList P ops Q (o :: rest) a w := fun a ha =>
  wpList_step fun K hK => by
    rw [wanted_of ha hg hj ht hf, if_pos (by simp)]
    unfold Oper.wp
    rw [ha.eval, h.out, Oper.upon_value, hd]
    exact hK _ _ (kk _ (ha.put d v hN))
theorem g_passG (hd : o.dst = some d) (hg : o.guard = some (j, k)) (hj : (ops[j]?).bind (·.dst) = some t) (ht : Nat.blt t N = true) (hf : f t = .bool (!k)) (hN : Nat.blt d N = true)
    (kk : G N (upd f d undef) fun a => wpList P ops Q rest a w) : G N f fun a => wpList P ops Q (o :: rest) a w := fun a ha =>
  wpList_step fun K hK => by
    rw [wanted_of ha hg hj ht hf, if_neg (by cases k <;> simp), hd]
    exact hK _ _ (kk _ (ha.put d undef hN))
theorem q_opG (hd : o.dst = some d) (hg : o.guard = some (j, k)) (hj : (ops[j]?).bind (·.dst) = some t) (ht : Nat.blt t N = true) (hf : f t = .bool k) (hN : Nat.blt d N = true) (h : ∀ w, C w → Runs P f o w v w)
    (kk : G N (upd f d v) fun a => wpQuiet P ops C Qa rest a) : G N f fun a => wpQuiet P ops C Qa (o :: rest) a := fun a ha => by
  refine wpQuiet_step fun K hK => ?_
  rw [wanted_of ha hg hj ht hf, if_pos (by simp)]
  refine ⟨v, fun w hw => ?_, ?_⟩
  · unfold Oper.quietAt
    rw [ha.eval, (h w hw).out]
    exact ⟨rfl, rfl⟩
  · rw [hd]
    exact hK _ (kk _ (ha.put d v hN))
theorem q_callG {kf : FuncId} {args : Array Value} (hd : o.dst = some d) (hg : o.guard = some (j, k)) (hj : (ops[j]?).bind (·.dst) = some t) (ht : Nat.blt t N = true) (hf : f t = .bool k) (hN : Nat.blt d N = true)
    (h : ∀ w, C w → Enters P f o w kf args) (hc : ∀ w, C w → Calls P kf args w fun e w' => e = .returned v ∧ C w')
    (kk : G N (upd f d v) fun a => wpQuiet P ops C Qa rest a) : G N f fun a => wpQuiet P ops C Qa (o :: rest) a := fun a ha => by
  refine wpQuiet_step fun K hK => ?_
  rw [wanted_of ha hg hj ht hf, if_pos (by simp)]
  refine ⟨v, fun w hw => ?_, ?_⟩
  · unfold Oper.quietAt
    rw [ha.eval, (h w hw).out]
    exact ⟨rfl, hc w hw⟩
  · rw [hd]
    exact hK _ (kk _ (ha.put d v hN))
/-- A region that draws its order, in a class of worlds. -/
theorem q_regionC {id : Nat} {l : List Oper} (C : World → Prop) (hm : P.follows .mixedOrders = true) (hB : Region.lexB .any l.toArray = true) (hC : C (w.drewN 1))
    (kk : G N f fun a => wpQuiet P l.toArray C (fun a' => ∀ w', C w' → Q .normal a' w') l a) : G N f fun a => (Code.region id l.toArray true).wp P Q a w := fun a ha =>
  wp_region_quiet (C := C) hm hB hC (by simpa using kk a ha)
theorem run_pickT {x y z : Operand} {ty : TypeId} {pos : String} {af : Array Edge} {gd : Option (Nat × Bool)} {dd : Option Tmp} (hx : evF f x = .bool true) (hy : evF f y = v) : Runs P f ⟨dd, .pick x y z, ty, pos, af, gd⟩ w v w := ⟨by
  subst hy
  simp [execOp, hx, asBool]⟩
theorem run_pickF {x y z : Operand} {ty : TypeId} {pos : String} {af : Array Edge} {gd : Option (Nat × Bool)} {dd : Option Tmp} (hx : evF f x = .bool false) (hz : evF f z = v) : Runs P f ⟨dd, .pick x y z, ty, pos, af, gd⟩ w v w := ⟨by
  subst hz
  simp [execOp, hx, asBool]⟩
theorem run_eqlRow {x y : Operand} {s : Tbl} {ty : TypeId} {pos : String} {af : Array Edge} {gd : Option (Nat × Bool)} {dd : Option Tmp} (hx : evF f x = .agg (row s)) (hy : evF f y = .agg (row s)) : Runs Try.prog f ⟨dd, .binOp .eql 28 x y 28, ty, pos, af, gd⟩ w (.bool true) w := ⟨by
  have h1 : (eqGuard .eql 28 x y (.agg (row s)) (.agg (row s))).run Try.prog w = .ok () w := run_eqGuard_agg w .eql 28 x y (row s) (row s) eqg28
  simp only [execOp, hx, hy, Sem.run_bind, h1, Result.andThen_ok, eq28, Sem.run_pure]⟩
end

/-- The law's first rows: where the key is too short or too long nothing more is done. -/
theorem law_out (A : Option Addr) (n c : Nat) (s : Tbl) (w : World) (hn : n < 1 ∨ 72 < n) : Calls Try.prog 3 #[.slice A n c, .agg (row s)] w fun e w' => e = .returned (.bool true) ∧ Below w.heap.size w w' := by
  have hb : Below w.heap.size w (w.alloc (.cells (row s) 28)) := (Below.refl _ _).alloc (Nat.le_refl _) _
  refine g_enter (l := [_, _]) Try.func3 rfl Try.ntmps3 rfl ?_
  refine g_seq (g_region ?_)
  refine g_op rfl rfl rfl (run_box (v := .agg (row s)) rfl) ?_
  refine g_op rfl rfl rfl (run_asgB rfl) ?_
  refine g_nil (g_then (g_seq (g_seq (g_region ?_))))
  refine g_op rfl rfl rfl (run_moveS rfl) ?_
  refine g_op rfl rfl rfl (run_len Try.underlying22 rfl) ?_
  by_cases hbig : 2147483647 < n
  · refine g_op rfl rfl rfl (run_gtrT rfl rfl (by omega)) ?_
    refine g_nil (g_then (g_cond_true rfl (g_seq (g_region ?_))))
    refine g_op rfl rfl rfl (run_asgB rfl) ?_
    refine g_nil (g_then (g_ret (g_tret (g_ret1 rfl (v := .bool true) rfl ?_))))
    exact ⟨rfl, hb⟩
  · refine g_op rfl rfl rfl (run_gtrF rfl rfl (by omega)) ?_
    refine g_nil (g_then (g_cond_false rfl (g_skip (g_then (g_seq (g_seq (g_region ?_)))))))
    refine g_op rfl rfl rfl (run_moveS rfl) ?_
    refine g_op rfl rfl rfl (run_len Try.underlying22 rfl) ?_
    by_cases h1 : n < 1
    · refine g_op rfl rfl rfl (run_lssT rfl rfl (by omega)) ?_
      refine g_op rfl rfl rfl (run_moveB rfl) ?_
      refine g_passG rfl rfl rfl rfl rfl rfl ?_
      refine g_passG rfl rfl rfl rfl rfl rfl ?_
      refine g_passG rfl rfl rfl rfl rfl rfl ?_
      refine g_op rfl rfl rfl (run_pickT (v := .bool true) rfl rfl) ?_
      refine g_nil (g_then (g_cond_true rfl (g_seq (g_region ?_))))
      refine g_op rfl rfl rfl (run_asgB rfl) ?_
      refine g_nil (g_then (g_ret (g_tret (g_ret1 rfl (v := .bool true) rfl ?_))))
      exact ⟨rfl, hb⟩
    · refine g_op rfl rfl rfl (run_lssF rfl rfl (by omega)) ?_
      refine g_op rfl rfl rfl (run_moveB rfl) ?_
      refine g_opG rfl rfl rfl rfl rfl rfl (run_moveS rfl) ?_
      refine g_opG rfl rfl rfl rfl rfl rfl (run_len Try.underlying22 rfl) ?_
      refine g_opG rfl rfl rfl rfl rfl rfl (run_gtrT rfl rfl (by omega)) ?_
      refine g_op rfl rfl rfl (run_pickF (v := .bool true) rfl rfl) ?_
      refine g_nil (g_then (g_cond_true rfl (g_seq (g_region ?_))))
      refine g_op rfl rfl rfl (run_asgB rfl) ?_
      refine g_nil (g_then (g_ret (g_tret (g_ret1 rfl (v := .bool true) rfl ?_))))
      exact ⟨rfl, hb⟩

/-- The law: the package's tables and the reference's are the same. -/
theorem law_in (ad : Addr) (n c : Nat) (s : Tbl) (kb : Nat → Nat) (w : World) (hn0 : 0 < n) (hn : n ≤ 72) (hk : Bytes w ad n kb) (had : ad.block < w.heap.size) :
    Calls Try.prog 3 #[.slice (some ad) n c, .agg (row s)] w fun e w' => e = .returned (.bool true) ∧ Below w.heap.size w w' := by
  obtain ⟨z, hz, hzs⟩ := zero28
  refine g_enter (l := [_, _]) Try.func3 rfl Try.ntmps3 rfl ?_
  refine g_seq (g_region ?_)
  refine g_op rfl rfl rfl (run_box (v := .agg (row s)) rfl) ?_
  refine g_op rfl rfl rfl (run_asgB rfl) ?_
  refine g_nil (g_then (g_seq (g_seq (g_region ?_))))
  obtain ⟨wa, hwa⟩ : ∃ wa, wa = w.alloc (.cells (row s) 28) := ⟨_, rfl⟩
  have hsa : wa.heap.size = w.heap.size + 1 := by rw [hwa]; exact alloc_size _ _
  have hTa : Tab wa w.heap.size s 28 := by rw [hwa]; exact tab_new w s 28
  have hba : Below w.heap.size w wa := by rw [hwa]; exact (Below.refl _ _).alloc (Nat.le_refl _) _
  have hka : Bytes wa ad n kb := hk.below hba had
  suffices H : ∀ f : Nat → Value, f 0 = .slice (some ad) n c → f 3 = .pointer (some ⟨w.heap.size, 0, none⟩) → G 32 f fun a => wpList Try.prog _ _ _ a wa by
    rw [hwa] at H
    exact H _ rfl rfl
  intro f e0 e3
  refine G.known (d := 3) e3 (G.known (d := 0) e0 ?_)
  refine g_op rfl rfl rfl (run_moveS rfl) ?_
  refine g_op rfl rfl rfl (run_len Try.underlying22 rfl) ?_
  refine g_op rfl rfl rfl (run_gtrF rfl rfl (by omega)) ?_
  refine g_nil (g_then (g_cond_false rfl (g_skip (g_then (g_seq (g_seq (g_region ?_)))))))
  refine g_op rfl rfl rfl (run_moveS rfl) ?_
  refine g_op rfl rfl rfl (run_len Try.underlying22 rfl) ?_
  refine g_op rfl rfl rfl (run_lssF rfl rfl (by omega)) ?_
  refine g_op rfl rfl rfl (run_moveB rfl) ?_
  refine g_opG rfl rfl rfl rfl rfl rfl (run_moveS rfl) ?_
  refine g_opG rfl rfl rfl rfl rfl rfl (run_len Try.underlying22 rfl) ?_
  refine g_opG rfl rfl rfl rfl rfl rfl (run_gtrF rfl rfl (by omega)) ?_
  refine g_op rfl rfl rfl (run_pickF (v := .bool false) rfl rfl) ?_
  refine g_nil (g_then (g_cond_false rfl (g_skip (g_then (g_seq (g_region ?_))))))
  refine g_op rfl rfl rfl (run_moveS rfl) ?_
  refine g_op rfl rfl rfl (run_loadRow agg28 rfl hTa (row_size _)) ?_
  refine g_callV rfl rfl rfl (run_enter2 (va := .slice (some ad) n c) (vb := .agg (row s)) Try.func4 nm4 rfl rfl rfl) (impl_any ad n c s kb wa hn0 (by omega) hka (by omega)) ?_
  intro w1 hb1
  have hs1 := hb1.size
  repeat (first
    | refine g_op rfl rfl rfl (run_moveV rfl) ?_
    | refine g_op rfl rfl rfl (run_moveP rfl) ?_
    | refine g_op rfl rfl rfl (run_moveS rfl) ?_
    | refine g_op rfl rfl rfl (run_moveI rfl) ?_
    | refine g_op rfl rfl rfl (run_moveB rfl) ?_
    | refine g_op rfl rfl rfl (run_moveT rfl) ?_
    | refine g_op rfl rfl rfl (run_ext rfl rfl) ?_)
  refine g_op rfl rfl rfl (run_alloc hz) ?_
  obtain ⟨wb, hwb⟩ : ∃ wb, wb = w1.alloc (.cells z.cells 28) := ⟨_, rfl⟩
  have hsb : wb.heap.size = w1.heap.size + 1 := by rw [hwb]; exact alloc_size _ _
  have hgb : wb.heap[w1.heap.size]? = some (.cells z.cells 28 (0, 0)) := by rw [hwb]; exact heap_alloc_new w1 _
  have hbw1 : Below w.heap.size w w1 := hba.trans (hb1.mono (by omega))
  have hbb : Below w.heap.size w wb := by rw [hwb]; exact hbw1.alloc hbw1.size _
  have hTb : Tab wb w.heap.size s 28 := by rw [hwb]; exact tab_alloc (tab_below hb1 hTa (by omega)) _
  rw [← hwb]
  refine g_store rfl rfl (run_storeRow agg28 rfl rfl hgb hzs (row_size _) (row_one _)) ?_
  refine g_op rfl rfl rfl (run_asgB rfl) ?_
  refine g_nil (g_then (g_seq ?_))
  obtain ⟨wc, hwc⟩ : ∃ wc, wc = wb.setRow w1.heap.size (row (expandT s kb n)) := ⟨_, rfl⟩
  have hsc : wc.heap.size = w1.heap.size + 1 := by rw [hwc, size_setRow, hsb]
  have hTc : Tab wc w.heap.size s 28 := by rw [hwc]; exact (setRow_other _ _ _ _ (by omega)).trans hTb
  have hTc1 : Tab wc w1.heap.size (expandT s kb n) 28 := by rw [hwc]; exact setRow_heap _ _ _ _ _ _ hgb
  have hbc : Below w.heap.size w wc := by rw [hwc]; exact below_setRow hbb (by omega) _
  rw [← hwc]
  have hC : ∀ w', Below wc.heap.size wc w' → Bytes w' ad n kb := fun w' h => hk.below (hbc.trans (h.mono (by omega))) had
  refine q_regionC (fun w' => Below wc.heap.size wc w') (by kernel_rfl) (by kernel_rfl) (below_drewN (Below.refl _ _) 1) ?_
  refine q_op rfl rfl rfl (fun w hw => run_moveB rfl) ?_
  refine q_op rfl rfl rfl (fun w hw => run_moveB rfl) ?_
  refine q_opG rfl rfl rfl rfl rfl rfl (fun w hw => run_loadRow agg28 rfl (tab_below hw hTc1 (by omega)) (row_size _)) ?_
  refine q_opG rfl rfl rfl rfl rfl rfl (fun w' hw => run_loadRow agg28 rfl (tab_below hw hTc (by omega)) (row_size _)) ?_
  refine q_opG rfl rfl rfl rfl rfl rfl (fun w hw => run_moveS rfl) ?_
  refine q_callG (v := .agg (row (expandT s kb n))) rfl rfl rfl rfl rfl rfl (fun w hw => run_enter3 (va := .agg (row s)) (vb := .slice (some ad) n c) (vc := .slice none 0 0) Try.func5 nm5 rfl rfl rfl rfl)
    (fun w' hw => (spec_any ad n c s kb w' hn0 (hC w' hw) (by have := hw.size; omega)).mono fun e w'' ⟨he, hb⟩ => ⟨he, hw.trans (hb.mono hw.size)⟩) ?_
  refine q_opG rfl rfl rfl rfl rfl rfl (fun w hw => run_eqlRow rfl rfl) ?_
  refine q_op rfl rfl rfl (fun w hw => run_pickT (v := .bool true) rfl rfl) ?_
  refine q_op rfl rfl rfl (fun w hw => run_asgB rfl) ?_
  refine q_nil (g_all fun w' => g_all fun hw' => g_ret (g_ret1 rfl rfl ⟨rfl, ?_⟩))
  exact hbc.trans (hw'.mono (by omega))
end Go.Proofs.Ytolkgekbnbgodaa
