/- The tables of a cipher: blowfish.ZZTables. -/
import Derived.Test.YtolkgekbnbgodaaCipher
import Derived.OrdersHeld
namespace Go.Proofs.Ytolkgekbnbgodaa
open Go Go.RowKit
section
variable {P : Program} {N : Nat} {f : Nat → Value} {ops : Array Oper} {Q : Exit → Act → World → Prop} {o : Oper} {d : Nat} {v : Value} {w w' : World} {fuel : Nat} {listed : Array Bool} {S : World → Prop}
/-! Regions that draw their order, write, and load what is not written: S holds behind each operation. -/
theorem h_region {id : Nat} (S : World → Prop) (hm : P.follows .mixedOrders = true) {ops : Array Oper} {n : Nat} (hn : ops.size = n)
    (k : G N f fun a => wpAnyH P .any ops Q S n (Array.replicate n false) a (w.drewN 1)) : G N f fun a => (Code.region id ops true).wp P Q a w := fun a ha => by
  subst hn
  exact wp_region_any hm (wpAny_of_held _ _ _ _ (k a ha))
theorem h_take (i : Nat) (hi : ops[i]? = some o) (hd : o.dst = some d) (hg : o.guard = none) (hN : Nat.blt d N = true) (hs : Region.noSelect ops = true) (hf : Region.free .any ops listed i = true)
    (hr : (Region.ready .any ops listed).contains i = true) (hQ : ∀ c a w, Q (.panic c) (a.put o.dst v) w → Q (.panic c) a w) (h : ∀ w, S w → Runs P f o w v w) (hS : S w)
    (k : G N (upd f d v) fun a => wpAnyH P .any ops Q S fuel (listed.setIfInBounds i true) a w) : G N f fun a => wpAnyH P .any ops Q S (fuel + 1) listed a w := fun a ha => by
  refine wpAnyH_take hi hs hf hr hQ (v := v) (.inl ⟨by simp [Region.wanted, hg], fun w hw => ?_⟩) hS ?_
  · rw [ha.eval]
    exact (h w hw).out
  · rw [hd]
    exact k _ (ha.put d v hN)
theorem h_store (i : Nat) (hi : ops[i]? = some o) (hd : o.dst = none) (hg : o.guard = none) (hr : Region.ready .any ops listed = [i]) (h : Stores P f o w w') (hS : S w')
    (k : G N f fun a => wpAnyH P .any ops Q S fuel (listed.setIfInBounds i true) a w') : G N f fun a => wpAnyH P .any ops Q S (fuel + 1) listed a w := fun a ha => by
  refine wpAnyH_all hr (by simp) fun j hj => ?_
  obtain rfl : j = i := by simpa using hj
  unfold wpOp
  rw [hi]
  simp only [Region.wanted, hg, if_true]
  refine .inl ?_
  unfold Oper.wp
  rw [ha.eval, h.out, Oper.upon_skip, hd]
  exact ⟨hS, k _ ha⟩
theorem h_done (hr : Region.ready .any ops listed = []) (k : G N f fun a => Q .normal a w) : G N f fun a => wpAnyH P .any ops Q S fuel listed a w := fun a ha =>
  wpAnyH_done hr (k a ha) fuel
end
/-- Two results that lie in memory. -/
theorem g_retCC {N : Nat} {f : Nat → Value} {w : World} {fn : Func} {R : Ending → World → Prop} {p1 p2 : Tmp} {t1 t2 : TypeId} {n1 n2 g1 g2 : Nat} {cs1 cs2 : Array Value} {e1 e2 : TypeId} {fr1 fr2 : Nat × Nat} (hA1 : AggTy t1 n1) (hA2 : AggTy t2 n2) (hr : fn.results = #[.cell p1 t1, .cell p2 t2])
    (hp1 : f p1 = .pointer (some ⟨g1, 0, none⟩)) (hp2 : f p2 = .pointer (some ⟨g2, 0, none⟩)) (hg1 : w.heap[g1]? = some (.cells cs1 e1 fr1)) (hg2 : w.heap[g2]? = some (.cells cs2 e2 fr2)) (hn1 : cs1.size = n1) (hn2 : cs2.size = n2) (h : R (.returned (.tuple #[.agg cs1, .agg cs2])) w) :
    G N f fun a => bodyPost Try.prog fn R .ret a w := fun a ha =>
  bodyPost_ret (by
    have h1 : a.tmps[p1]?.getD undef = .pointer (some ⟨g1, 0, none⟩) := by
      have := ha.get p1
      rw [hp1] at this
      simpa using this
    have h2 : a.tmps[p2]?.getD undef = .pointer (some ⟨g2, 0, none⟩) := by
      have := ha.get p2
      rw [hp2] at this
      simpa using this
    simp [results, hr, h1, h2, asAddr, hA1.load w g1 e1 cs1 fr1 hg1 hn1, hA2.load w g2 e2 cs2 fr2 hg2 hn2]) ha.dfr h

set_option maxHeartbeats 1000000 in
theorem tables_any (g : Nat) (t : TypeId) (s : Tbl) (w : World) (hT : Tab w g s t) : Calls Try.prog 13 #[.pointer (some ⟨g, 0, none⟩)] w fun e w' =>
    e = .returned (.tuple #[.agg (segv s 18), .agg (segv (fun j => s (18 + j)) 1024)]) ∧ Below w.heap.size w w' := by
  obtain ⟨z2, hz2, hz24⟩ := zero24
  obtain ⟨z3, hz3, hz26⟩ := zero26
  refine g_enter (l := [_]) Try.func13 rfl Try.ntmps13 rfl ?_
  refine g_seq (g_region ?_)
  refine g_op rfl rfl rfl (run_alloc hz2) ?_
  refine g_op rfl rfl rfl (run_alloc hz3) ?_
  refine g_nil (g_then (g_seq ?_))
  obtain ⟨wa, hwa⟩ : ∃ wa, wa = w.alloc (.cells z2.cells 24) := ⟨_, rfl⟩
  obtain ⟨wb, hwb⟩ : ∃ wb, wb = wa.alloc (.cells z3.cells 26) := ⟨_, rfl⟩
  have hsa : wa.heap.size = w.heap.size + 1 := by rw [hwa]; exact alloc_size _ _
  have hsb : wb.heap.size = w.heap.size + 2 := by rw [hwb, alloc_size, hsa]
  have h2 : (wb.drewN 1).heap[w.heap.size]? = some (.cells z2.cells 24 (0, 0)) := by
    show wb.heap[w.heap.size]? = _
    rw [hwb, Below.heap_alloc wa _ _ (by omega), hwa]
    exact heap_alloc_new w _
  have h3' : (wb.drewN 1).heap[w.heap.size + 1]? = some (.cells z3.cells 26 (0, 0)) := by
    show wb.heap[w.heap.size + 1]? = _
    rw [hwb, ← hsa]
    exact heap_alloc_new wa _
  have hb : Below w.heap.size w (wb.drewN 1) := by
    refine below_drewN ?_ 1
    rw [hwb, hwa]
    exact ((Below.refl _ _).alloc (Nat.le_refl _) _).alloc (by rw [alloc_size]; exact Nat.le_succ _) _
  have hlt := tab_lt hT
  have hS : Tab (wb.drewN 1) g s t := tab_below hb hT hlt
  have hS1 : Tab ((wb.drewN 1).setRow w.heap.size (segv s 18)) g s t := (setRow_other _ _ _ _ (by omega)).trans hS
  have h3 : ((wb.drewN 1).setRow w.heap.size (segv s 18)).heap[w.heap.size + 1]? = some (.cells z3.cells 26 (0, 0)) := (setRow_other _ _ _ _ (by omega)).trans h3'
  have hS2 : Tab (((wb.drewN 1).setRow w.heap.size (segv s 18)).setRow (w.heap.size + 1) (segv (fun j => s (18 + j)) 1024)) g s t := (setRow_other _ _ _ _ (by omega)).trans hS1
  have h4 : (((wb.drewN 1).setRow w.heap.size (segv s 18)).setRow (w.heap.size + 1) (segv (fun j => s (18 + j)) 1024)).heap[w.heap.size]? = some (.cells (segv s 18) 24 (0, 0)) :=
    (setRow_other _ _ _ _ (by omega)).trans (setRow_heap _ _ _ _ _ _ h2)
  have h5 : (((wb.drewN 1).setRow w.heap.size (segv s 18)).setRow (w.heap.size + 1) (segv (fun j => s (18 + j)) 1024)).heap[w.heap.size + 1]? = some (.cells (segv (fun j => s (18 + j)) 1024) 26 (0, 0)) := setRow_heap _ _ _ _ _ _ h3
  suffices H : ∀ f : Nat → Value, f 0 = .pointer (some ⟨g, 0, none⟩) → f 2 = .pointer (some ⟨w.heap.size, 0, none⟩) → f 3 = .pointer (some ⟨w.heap.size + 1, 0, none⟩) → G 25 f fun a => Code.wp Try.prog _ _ a wb by
    rw [hwb, hwa] at H
    exact H _ rfl rfl (by rw [← hsa, hwa]; rfl)
  intro f e0 e2 e3
  refine G.known (d := 3) e3 (G.known (d := 2) e2 (G.known (d := 0) e0 ?_))
  refine h_region (fun w => Tab w g s t) (by kernel_rfl) (n := 23) rfl ?_
  refine h_take 0 rfl rfl rfl rfl (by kernel_rfl) (by kernel_rfl) (by kernel_rfl) (fun _ _ _ h => h) (fun w hw => run_moveP rfl) hS ?_
  refine h_take 1 rfl rfl rfl rfl (by kernel_rfl) (by kernel_rfl) (by kernel_rfl) (fun _ _ _ h => h) (fun w hw => run_nil rfl) hS ?_
  refine h_take 2 rfl rfl rfl rfl (by kernel_rfl) (by kernel_rfl) (by kernel_rfl) (fun _ _ _ h => h) (fun w hw => run_f44_0 rfl) hS ?_
  refine h_take 3 rfl rfl rfl rfl (by kernel_rfl) (by kernel_rfl) (by kernel_rfl) (fun _ _ _ h => h) (fun w hw => run_loadSeg (n := 18) (xs := s) Try.underlying24 sz24 rfl (fun j hj => (by rw [Nat.zero_add]; exact Tab.cell hw (by omega)))) hS ?_
  refine h_take 4 rfl rfl rfl rfl (by kernel_rfl) (by kernel_rfl) (by kernel_rfl) (fun _ _ _ h => h) (fun w hw => run_moveP rfl) hS ?_
  refine h_take 5 rfl rfl rfl rfl (by kernel_rfl) (by kernel_rfl) (by kernel_rfl) (fun _ _ _ h => h) (fun w hw => run_nil rfl) hS ?_
  refine h_take 6 rfl rfl rfl rfl (by kernel_rfl) (by kernel_rfl) (by kernel_rfl) (fun _ _ _ h => h) (fun w hw => run_f44_1 rfl) hS ?_
  refine h_take 7 rfl rfl rfl rfl (by kernel_rfl) (by kernel_rfl) (by kernel_rfl) (fun _ _ _ h => h) (fun w hw => run_loadSeg (n := 256) (xs := fun j => s (18 + j)) Try.underlying25 sz25 rfl (fun j hj => Tab.cell hw (by omega))) hS ?_
  refine h_take 8 rfl rfl rfl rfl (by kernel_rfl) (by kernel_rfl) (by kernel_rfl) (fun _ _ _ h => h) (fun w hw => run_moveP rfl) hS ?_
  refine h_take 9 rfl rfl rfl rfl (by kernel_rfl) (by kernel_rfl) (by kernel_rfl) (fun _ _ _ h => h) (fun w hw => run_nil rfl) hS ?_
  refine h_take 10 rfl rfl rfl rfl (by kernel_rfl) (by kernel_rfl) (by kernel_rfl) (fun _ _ _ h => h) (fun w hw => run_f44_2 rfl) hS ?_
  refine h_take 11 rfl rfl rfl rfl (by kernel_rfl) (by kernel_rfl) (by kernel_rfl) (fun _ _ _ h => h) (fun w hw => run_loadSeg (n := 256) (xs := fun j => s (274 + j)) Try.underlying25 sz25 rfl (fun j hj => Tab.cell hw (by omega))) hS ?_
  refine h_take 12 rfl rfl rfl rfl (by kernel_rfl) (by kernel_rfl) (by kernel_rfl) (fun _ _ _ h => h) (fun w hw => run_moveP rfl) hS ?_
  refine h_take 13 rfl rfl rfl rfl (by kernel_rfl) (by kernel_rfl) (by kernel_rfl) (fun _ _ _ h => h) (fun w hw => run_nil rfl) hS ?_
  refine h_take 14 rfl rfl rfl rfl (by kernel_rfl) (by kernel_rfl) (by kernel_rfl) (fun _ _ _ h => h) (fun w hw => run_f44_3 rfl) hS ?_
  refine h_take 15 rfl rfl rfl rfl (by kernel_rfl) (by kernel_rfl) (by kernel_rfl) (fun _ _ _ h => h) (fun w hw => run_loadSeg (n := 256) (xs := fun j => s (530 + j)) Try.underlying25 sz25 rfl (fun j hj => Tab.cell hw (by omega))) hS ?_
  refine h_take 16 rfl rfl rfl rfl (by kernel_rfl) (by kernel_rfl) (by kernel_rfl) (fun _ _ _ h => h) (fun w hw => run_moveP rfl) hS ?_
  refine h_take 17 rfl rfl rfl rfl (by kernel_rfl) (by kernel_rfl) (by kernel_rfl) (fun _ _ _ h => h) (fun w hw => run_nil rfl) hS ?_
  refine h_take 18 rfl rfl rfl rfl (by kernel_rfl) (by kernel_rfl) (by kernel_rfl) (fun _ _ _ h => h) (fun w hw => run_f44_4 rfl) hS ?_
  refine h_take 19 rfl rfl rfl rfl (by kernel_rfl) (by kernel_rfl) (by kernel_rfl) (fun _ _ _ h => h) (fun w hw => run_loadSeg (n := 256) (xs := fun j => s (786 + j)) Try.underlying25 sz25 rfl (fun j hj => Tab.cell hw (by omega))) hS ?_
  refine h_take 20 rfl rfl rfl rfl (by kernel_rfl) (by kernel_rfl) (by kernel_rfl) (fun _ _ _ h => h) (fun w hw => run_bld rfl (built26 s)) hS ?_
  refine h_store 21 rfl rfl rfl (by kernel_rfl) (run_storeRow agg24 rfl rfl h2 hz24 (segv_size _ _) (segv_one _ _)) hS1 ?_
  refine h_store 22 rfl rfl rfl (by kernel_rfl) (run_storeRow agg26 rfl rfl h3 hz26 (segv_size _ _) (segv_one _ _)) hS2 ?_
  refine h_done (by kernel_rfl) ?_
  refine g_then (g_ret (g_retCC agg24 agg26 rfl rfl rfl h4 h5 (segv_size _ _) (segv_size _ _) ⟨rfl, ?_⟩))
  exact below_setRow (below_setRow hb (Nat.le_refl _) _) (by omega) _
end Go.Proofs.Ytolkgekbnbgodaa
