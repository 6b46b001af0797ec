/- The thin package's function: impl.BlowfishExpand. -/
import Derived.Test.YtolkgekbnbgodaaState
namespace Go.Proofs.Ytolkgekbnbgodaa
open Go Go.RowKit
/-- Two results, the first of which lies in memory. -/
theorem g_retCT {N : Nat} {f : Nat → Value} {w : World} {fn : Func} {R : Ending → World → Prop} {p q : Tmp} {t : TypeId} {n g : Nat} {cs : Array Value} {e : TypeId} {fr : Nat × Nat} {v : Value} (hA : AggTy t n) (hr : fn.results = #[.cell p t, .tmp q])
    (hp : f p = .pointer (some ⟨g, 0, none⟩)) (hq : f q = v) (hg : w.heap[g]? = some (.cells cs e fr)) (hn : cs.size = n) (h : R (.returned (.tuple #[.agg cs, v])) w) :
    G N f fun a => bodyPost Try.prog fn R .ret a w := fun a ha =>
  bodyPost_ret (by
    have h1 : a.tmps[p]?.getD undef = .pointer (some ⟨g, 0, none⟩) := by
      have := ha.get p
      rw [hp] at this
      simpa using this
    have h2 : a.tmps[q]?.getD undef = v := by
      have := ha.get q
      rw [hq] at this
      simpa using this
    simp [results, hr, h1, h2, asAddr, hA.load w g e cs fr hg hn]) ha.dfr h

theorem impl_any (ad : Addr) (n c : Nat) (s : Tbl) (kb : Nat → Nat) (w : World) (hn0 : 0 < n) (hn : n ≤ 1000) (hk : Bytes w ad n kb) (had : ad.block < w.heap.size) :
    Calls Try.prog 4 #[.slice (some ad) n c, .agg (row s)] w fun e w' => e = .returned (.tuple #[.agg (row (expandT s kb n)), .bool true]) ∧ Below w.heap.size w w' := by
  obtain ⟨z, hz, hzs⟩ := zero28
  refine g_enter (l := [_, _]) Try.func4 rfl Try.ntmps4 rfl ?_
  refine g_seq (g_region ?_)
  refine g_op rfl rfl rfl (run_box (v := .agg (row s)) rfl) ?_
  refine g_op rfl rfl rfl (run_alloc hz) ?_
  refine g_op rfl rfl rfl (run_asgB rfl) ?_
  refine g_nil (g_then (g_seq (g_seq (g_region ?_))))
  obtain ⟨wa, hwa⟩ : ∃ wa, wa = w.alloc (.cells (row s) 28) := ⟨_, rfl⟩
  obtain ⟨wb, hwb⟩ : ∃ wb, wb = wa.alloc (.cells z.cells 28) := ⟨_, rfl⟩
  have hsa : wa.heap.size = w.heap.size + 1 := by rw [hwa]; exact alloc_size _ _
  have hsb : wb.heap.size = w.heap.size + 2 := by rw [hwb, alloc_size, hsa]
  have hTb : Tab wb w.heap.size s 28 := by rw [hwb, hwa]; exact tab_alloc (tab_new w s 28) _
  have hgb : wb.heap[w.heap.size + 1]? = some (.cells z.cells 28 (0, 0)) := by rw [hwb, ← hsa]; exact heap_alloc_new wa _
  have hbb : Below w.heap.size w wb := by
    rw [hwb, hwa]
    exact ((Below.refl _ _).alloc (Nat.le_refl _) _).alloc (by rw [alloc_size]; exact Nat.le_succ _) _
  have hkb : Bytes wb ad n kb := hk.below hbb had
  suffices H : ∀ f : Nat → Value, f 0 = .slice (some ad) n c → f 3 = .pointer (some ⟨w.heap.size, 0, none⟩) → f 4 = .pointer (some ⟨w.heap.size + 1, 0, none⟩) → G 22 f fun a => wpList Try.prog _ _ _ a wb by
    rw [hwb, hwa] at H
    exact H _ rfl rfl (by rw [← hsa, hwa]; rfl)
  intro f e0 e3 e4
  refine G.known (d := 4) e4 (G.known (d := 3) e3 (G.known (d := 0) e0 ?_))
  refine g_op rfl rfl rfl (run_moveS rfl) ?_
  refine g_op rfl rfl rfl (run_len Try.underlying22 rfl) ?_
  refine g_op rfl rfl rfl (run_eqlF rfl rfl (by omega)) ?_
  refine g_nil (g_then (g_cond_false rfl (g_skip (g_then (g_seq (g_region ?_))))))
  refine g_op rfl rfl rfl (run_f28_0 rfl) ?_
  refine g_op rfl rfl rfl (run_loadSeg (n := 18) (xs := s) Try.underlying24 sz24 rfl (fun j hj => by rw [Nat.zero_add]; exact Tab.cell hTb (by omega))) ?_
  refine g_op rfl rfl rfl (run_f28_1 rfl) ?_
  refine g_op rfl rfl rfl (run_loadSeg (n := 1024) (xs := fun j => s (18 + j)) Try.underlying26 sz26 rfl (fun j hj => Tab.cell hTb (by omega))) ?_
  refine g_callV rfl rfl rfl (run_enter2 (va := .agg (segv s 18)) (vb := .agg (segv (fun j => s (18 + j)) 1024)) Try.func6 nm6 rfl rfl rfl) (cipher_any s wb) ?_
  rintro w1 ⟨hT1, hb1⟩
  obtain ⟨g, hg⟩ : ∃ g, g = wb.heap.size + 2 := ⟨_, rfl⟩
  rw [← hg] at hT1 ⊢
  have hs1 := hb1.size
  have hlt1 := tab_lt hT1
  have hg1 : w1.heap[w.heap.size + 1]? = some (.cells z.cells 28 (0, 0)) := (hb1.block _ (by omega)).trans hgb
  have hbw1 : Below w.heap.size w w1 := hbb.trans (hb1.mono (by omega))
  have hk1 : Bytes w1 ad n kb := hk.below hbw1 had
  refine g_op rfl rfl rfl (run_asgP rfl) ?_
  refine g_nil (g_then (g_seq (g_region ?_)))
  refine g_op rfl rfl rfl (run_moveS rfl) ?_
  refine g_call rfl rfl rfl (run_enter1 (va := .slice (some ad) n c) Try.func8 nm8 rfl rfl) (clone_any ad n c kb w1 hn0 hn hk1 (by omega)) ?_
  rintro v w2 ⟨gv, cap, rfl, hk2, hgv, hgvlt, hb2⟩
  have hs2 := hb2.size
  have hT2 : Tab w2 g s 44 := tab_below hb2 hT1 hlt1
  have hg2 : w2.heap[w.heap.size + 1]? = some (.cells z.cells 28 (0, 0)) := (hb2.block _ (by omega)).trans hg1
  have hbw2 : Below w.heap.size w w2 := hbw1.trans (hb2.mono (by omega))
  refine g_op rfl rfl rfl (run_moveP rfl) ?_
  refine g_callV (S := Now w2 g (expandT s kb n)) rfl rfl rfl (run_enter2 (va := .slice (some ⟨gv, 0, none⟩) n cap) (vb := .pointer (some ⟨g, 0, none⟩)) Try.func7 nm7 rfl rfl rfl) (expand_any ⟨gv, 0, none⟩ n cap g 44 s kb w2 hn0 hn hk2 (by show gv ≠ g; omega) hT2) ?_
  intro w3 hw3
  have hT3 := hw3.tab hT2
  have hlt3 := tab_lt hT3
  have hbw3 : Below w.heap.size w w3 := below_now hbw2 (by omega) hw3
  have hg3 : w3.heap[w.heap.size + 1]? = some (.cells z.cells 28 (0, 0)) := by
    obtain ⟨k, rfl⟩ := hw3
    exact (setRow_other w2 g _ _ (by omega)).trans hg2
  have hlt3' : w.heap.size + 1 < w3.heap.size := (Array.getElem?_eq_some_iff.1 hg3).1
  refine g_nil (g_then (g_seq (g_region ?_)))
  refine g_op rfl rfl rfl (run_moveP rfl) ?_
  refine g_callV rfl rfl rfl (run_enter1 (va := .pointer (some ⟨g, 0, none⟩)) Try.func9 nm9 rfl rfl) (state_any g 44 (expandT s kb n) w3 hT3) ?_
  intro w4 hb4
  have hg4 : w4.heap[w.heap.size + 1]? = some (.cells z.cells 28 (0, 0)) := (hb4.block _ hlt3').trans hg3
  refine g_store rfl rfl (run_storeRow agg28 rfl rfl hg4 hzs (row_size _) (row_one _)) ?_
  refine g_op rfl rfl rfl (run_asgB rfl) ?_
  refine g_nil (g_then (g_ret (g_retCT agg28 rfl rfl rfl (setRow_heap _ _ _ _ _ _ hg4) (row_size _) ⟨rfl, ?_⟩)))
  exact below_setRow (hbw3.trans (hb4.mono (by omega))) (by omega) _
end Go.Proofs.Ytolkgekbnbgodaa
