/- The tables of a cipher as a value (impl.stateOf), and a copy of bytes (slices.Clone). -/
import Derived.Test.YtolkgekbnbgodaaTables
import Derived.WalkSpells
namespace Go.Proofs.Ytolkgekbnbgodaa
open Go Go.RowKit
theorem state_any (g : Nat) (t : TypeId) (s : Tbl) (w : World) (hT : Tab w g s t) : Calls Try.prog 9 #[.pointer (some ⟨g, 0, none⟩)] w fun e w' =>
    e = .returned (.agg (row s)) ∧ Below w.heap.size w w' := by
  obtain ⟨z1, hz1, hz28⟩ := zero28
  obtain ⟨z2, hz2, hz24⟩ := zero24
  obtain ⟨z3, hz3, hz26⟩ := zero26
  have hlt := tab_lt hT
  refine g_enter (l := [_]) Try.func9 rfl Try.ntmps9 rfl ?_
  refine g_seq (g_region ?_)
  refine g_op rfl rfl rfl (run_alloc hz1) ?_
  refine g_nil (g_then (g_seq (g_region ?_)))
  obtain ⟨w0, hw0⟩ : ∃ w0, w0 = w.alloc (.cells z1.cells 28) := ⟨_, rfl⟩
  have hs0 : w0.heap.size = w.heap.size + 1 := by rw [hw0]; exact alloc_size _ _
  have hT0 : Tab w0 g s t := by rw [hw0]; exact tab_alloc hT _
  have hg0 : w0.heap[w.heap.size]? = some (.cells z1.cells 28 (0, 0)) := by rw [hw0]; exact heap_alloc_new w _
  have hb0 : Below w.heap.size w w0 := by rw [hw0]; exact (Below.refl _ _).alloc (Nat.le_refl _) _
  rw [← hw0]
  refine g_op rfl rfl rfl (run_moveP rfl) ?_
  refine g_callV rfl rfl rfl (run_enter1 (va := .pointer (some ⟨g, 0, none⟩)) Try.func13 nm13 rfl rfl) (tables_any g t s w0 hT0) ?_
  intro w1 hb1
  have hs1 : w0.heap.size ≤ w1.heap.size := hb1.size
  have hg1 : w1.heap[w.heap.size]? = some (.cells z1.cells 28 (0, 0)) := (hb1.block _ (by omega)).trans hg0
  have hbw1 : Below w.heap.size w w1 := hb0.trans (hb1.mono (by omega))
  repeat (first
    | refine g_op rfl rfl rfl (run_moveV rfl) ?_
    | refine g_op rfl rfl rfl (run_moveP rfl) ?_
    | refine g_op rfl rfl rfl (run_moveS rfl) ?_
    | refine g_op rfl rfl rfl (run_moveI rfl) ?_
    | refine g_op rfl rfl rfl (run_moveB rfl) ?_
    | refine g_op rfl rfl rfl (run_moveT rfl) ?_
    | refine g_op rfl rfl rfl (run_ext rfl rfl) ?_)
  refine g_op rfl rfl rfl (run_alloc hz2) ?_
  refine g_op rfl rfl rfl (run_alloc hz3) ?_
  obtain ⟨wa, hwa⟩ : ∃ wa, wa = w1.alloc (.cells z2.cells 24) := ⟨_, rfl⟩
  obtain ⟨wb, hwb⟩ : ∃ wb, wb = wa.alloc (.cells z3.cells 26) := ⟨_, rfl⟩
  have hsa : wa.heap.size = w1.heap.size + 1 := by rw [hwa]; exact alloc_size _ _
  have hsb : wb.heap.size = w1.heap.size + 2 := by rw [hwb, alloc_size, hsa]
  have h2 : wb.heap[w1.heap.size]? = some (.cells z2.cells 24 (0, 0)) := by
    rw [hwb, Below.heap_alloc wa _ _ (by omega), hwa]
    exact heap_alloc_new w1 _
  have h3 : wb.heap[w1.heap.size + 1]? = some (.cells z3.cells 26 (0, 0)) := by
    rw [hwb, ← hsa]
    exact heap_alloc_new wa _
  have hgb : wb.heap[w.heap.size]? = some (.cells z1.cells 28 (0, 0)) := by
    rw [hwb, Below.heap_alloc wa _ _ (by omega), hwa, Below.heap_alloc w1 _ _ (by omega)]
    exact hg1
  have hb : Below w.heap.size w wb := by
    rw [hwb, hwa]
    exact (hbw1.alloc hbw1.size _).alloc (by rw [alloc_size]; exact Nat.le_succ_of_le hbw1.size) _
  have h3' : (wb.setRow w1.heap.size (segv s 18)).heap[w1.heap.size + 1]? = some (.cells z3.cells 26 (0, 0)) := (setRow_other _ _ _ _ (by omega)).trans h3
  have h2' : ((wb.setRow w1.heap.size (segv s 18)).setRow (w1.heap.size + 1) (segv (fun j => s (18 + j)) 1024)).heap[w1.heap.size]? = some (.cells (segv s 18) 24 (0, 0)) := (setRow_other _ _ _ _ (by omega)).trans (setRow_heap _ _ _ _ _ _ h2)
  have h3'' : ((wb.setRow w1.heap.size (segv s 18)).setRow (w1.heap.size + 1) (segv (fun j => s (18 + j)) 1024)).heap[w1.heap.size + 1]? = some (.cells (segv (fun j => s (18 + j)) 1024) 26 (0, 0)) := setRow_heap _ _ _ _ _ _ h3'
  have hgb' : ((wb.setRow w1.heap.size (segv s 18)).setRow (w1.heap.size + 1) (segv (fun j => s (18 + j)) 1024)).heap[w.heap.size]? = some (.cells z1.cells 28 (0, 0)) := (setRow_other _ _ _ _ (by omega)).trans ((setRow_other _ _ _ _ (by omega)).trans hgb)
  suffices H : ∀ f : Nat → Value, f 2 = .pointer (some ⟨w.heap.size, 0, none⟩) → f 3 = .pointer (some ⟨w1.heap.size, 0, none⟩) → f 4 = .pointer (some ⟨w1.heap.size + 1, 0, none⟩) → f 8 = .agg (segv s 18) → f 9 = .agg (segv (fun j => s (18 + j)) 1024) → G 13 f fun a => wpList Try.prog _ _ _ a wb by
    rw [hwb, hwa] at H
    exact H _ rfl rfl (by rw [← hsa, hwa]; rfl) rfl rfl
  intro f e2 e3 e4 e8 e9
  refine G.known (d := 9) e9 (G.known (d := 8) e8 (G.known (d := 4) e4 (G.known (d := 3) e3 (G.known (d := 2) e2 ?_))))
  refine g_store rfl rfl (run_storeRow agg24 rfl rfl h2 hz24 (segv_size _ _) (segv_one _ _)) ?_
  refine g_store rfl rfl (run_storeRow agg26 rfl rfl h3' hz26 (segv_size _ _) (segv_one _ _)) ?_
  refine g_nil (g_then (g_seq (g_region ?_)))
  refine g_op rfl rfl rfl (run_loadRow agg24 rfl h2' (segv_size _ _)) ?_
  refine g_op rfl rfl rfl (run_loadRow agg26 rfl h3'' (segv_size _ _)) ?_
  refine g_op rfl rfl rfl (run_bld rfl (built28 s)) ?_
  refine g_store rfl rfl (run_storeRow agg28 rfl rfl hgb' hz28 (row_size _) (row_one _)) ?_
  refine g_nil (g_then (g_ret (g_retC agg28 rfl rfl (setRow_heap _ _ _ _ _ _ hgb') (row_size _) ⟨rfl, ?_⟩)))
  exact below_setRow (below_setRow (below_setRow hb (by omega) _) (by omega) _) (Nat.le_refl _) _

section
variable {f : Nat → Value} {d : Option Tmp} {a b : Operand} {ty : TypeId} {pos : String} {af : Array Edge} {gd : Option (Nat × Bool)} {w : World}
theorem run_eqlNil {ad : Addr} {n c : Nat} (ha : evF f a = .slice (some ad) n c) (hb : evF f b = .slice none 0 0) : Runs Try.prog f ⟨d, .binOp .eql 22 a b 22, ty, pos, af, gd⟩ w (.bool false) w := ⟨by
  have h : (binOp .eql 22 (.slice (some ad) n c) (.slice none 0 0)).run Try.prog w = .ok (.bool false) w := by
    have hx := Lib.run_eql_slice_nil (P := Try.prog) w 22 5 (some ad) n c 0 0 Try.underlying22
    simpa using hx
  simp only [execOp, ha, hb]
  simp [eqGuard_at_slice, h]⟩
end

theorem clone_any (ad : Addr) (n c : Nat) (kb : Nat → Nat) (w : World) (hn0 : 0 < n) (hn : n ≤ 1000) (hk : Bytes w ad n kb) (had : ad.block < w.heap.size) :
    Calls Try.prog 8 #[.slice (some ad) n c] w fun e w' => ∃ v, e = .returned v ∧ (∃ gv cap, v = .slice (some ⟨gv, 0, none⟩) n cap ∧ Bytes w' ⟨gv, 0, none⟩ n kb ∧ w.heap.size ≤ gv ∧ gv < w'.heap.size ∧ Below w.heap.size w w') := by
  refine g_enter (l := [_]) Try.func8 rfl Try.ntmps8 rfl ?_
  refine g_seq (g_region ?_)
  refine g_op rfl rfl rfl (run_asgS rfl) ?_
  refine g_nil (g_then (g_seq (g_seq (g_region ?_))))
  refine g_op rfl rfl rfl (run_moveS rfl) ?_
  refine g_op rfl rfl rfl (run_eqlNil rfl rfl) ?_
  refine g_nil (g_then (g_cond_false rfl (g_skip (g_then (g_seq (g_region ?_))))))
  refine g_op rfl rfl rfl (run_bs0 Try.underlying22 sz5) ?_
  refine g_op rfl rfl rfl (run_moveS rfl) ?_
  obtain ⟨wa, hwa⟩ : ∃ wa, wa = w.alloc (.cells #[] 5) := ⟨_, rfl⟩
  have hba : Below w.heap.size w wa := by rw [hwa]; exact (Below.refl _ _).alloc (Nat.le_refl _) _
  have hown : wa.ownsRow w.heap.size 5 1 (.slice (some ⟨w.heap.size, 0, none⟩) 0 0) 0 [] := by rw [hwa]; exact World.ownsRow_lit w #[] 0 (Nat.le_refl _) (by simp [maxLen]) rfl
  have hka : Bytes wa ad n kb := hk.below hba had
  rw [← hwa]
  refine g_app (v := .slice (some ⟨w.heap.size, 0, none⟩) 0 0) Try.underlying22 info5 rfl (by omega) rfl rfl hown (news := (List.range n).map fun i => .int .u8 ((kb i : Nat) : Int)) (k := n) rfl (by simp) ?_ ?_ (by omega) hba.size ?_
  · intro j u hj
    by_cases hjn : j < n
    · have e : (.int .u8 ((kb j : Nat) : Int) : Value) = u := by simpa [hjn] using hj
      rw [← e]
      exact hka j hjn
    · simp [hjn] at hj
  · intro u hu
    obtain ⟨i, _, rfl⟩ := List.mem_map.1 hu
    rfl
  intro v' w2 hown2 hg2
  refine g_op rfl rfl rfl (run_asg (v := v') rfl) ?_
  refine g_nil (g_then (g_ret (g_ret1 rfl (v := v') rfl ⟨v', rfl, ?_⟩)))
  have hb2 : Below w.heap.size w w2 := hba.grown hg2 hba.size (fun k hk => by simp only [Value.ownBlock, Option.some.injEq] at hk; omega)
  rw [Nat.zero_add, List.nil_append] at hown2
  rcases hown2.2 with ⟨_, h0⟩ | ⟨gv, cap, cur, rfl, hB, hg, _⟩
  · omega
  · refine ⟨gv, cap, rfl, fun i hi => ?_, hB, (Array.getElem?_eq_some_iff.1 hg).1, hb2⟩
    rw [Addr.add_lit, Nat.zero_add, hown2.cellAt i (by omega)]
    simp [hi]
end Go.Proofs.Ytolkgekbnbgodaa
