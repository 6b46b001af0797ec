/- The reference's key schedule: spec.Expand. -/
import Derived.Test.YtolkgekbnbgodaaSpecB
namespace Go.Proofs.Ytolkgekbnbgodaa
open Go Go.RowKit
set_option maxHeartbeats 1000000 in
theorem spec_any (ad : Addr) (n c : Nat) (s : Tbl) (kb : Nat → Nat) (w : World) (hn0 : 0 < n) (hk : Bytes w ad n kb) (had : ad.block < w.heap.size) :
    Calls Try.prog 5 #[.agg (row s), .slice (some ad) n c, .slice none 0 0] w (SpR w.heap.size w (expandT s kb n)) := by
  obtain ⟨z, hz, hzs⟩ := zero28
  refine g_enter (l := [_, _, _]) Try.func5 rfl Try.ntmps5 rfl ?_
  refine g_seq (g_region ?_)
  refine g_op rfl rfl rfl (run_box (v := .agg (row s)) rfl) ?_
  refine g_op rfl rfl rfl (run_alloc hz) ?_
  refine g_nil (g_then ?_)
  -- the two blocks
  obtain ⟨wa, hwa⟩ : ∃ wa, wa = w.alloc (.cells (row s) 28) := ⟨_, rfl⟩
  obtain ⟨wb, hwb⟩ : ∃ wb, wb = wa.alloc (.cells z.cells 28) := ⟨_, rfl⟩
  have hsa : wa.heap.size = w.heap.size + 1 := by rw [hwa]; exact alloc_size _ _
  have hsb : wb.heap.size = w.heap.size + 2 := by rw [hwb, alloc_size, hsa]
  have hTb : Tab wb w.heap.size s 28 := by rw [hwb, hwa]; exact tab_alloc (tab_new w s 28) _
  have hgb : wb.heap[w.heap.size + 1]? = some (.cells z.cells 28 (0, 0)) := by rw [hwb, ← hsa]; exact heap_alloc_new wa _
  have hbb : Below w.heap.size w wb := by
    rw [hwb, hwa]
    exact ((Below.refl _ _).alloc (Nat.le_refl _) _).alloc (by rw [alloc_size]; exact Nat.le_succ _) _
  have hkb : Bytes wb ad n kb := hk.below hbb had
  refine G.gen4 (d1 := 1) (d2 := 2) (d3 := 3) (d4 := 6) (v1 := .slice (some ad) n c) (v2 := .slice none 0 0) (v3 := .pointer (some ⟨w.heap.size, 0, none⟩)) (v4 := .pointer (some ⟨w.heap.size + 1, 0, none⟩)) rfl rfl rfl (by rw [← hsa, hwa]; rfl) ?_
  intro f h1 h2 h3 h6
  suffices H : G 90 f fun a => (restOf 1 body5).wp Try.prog (bodyPost Try.prog Try.f5 (SpR w.heap.size w (expandT s kb n))) a wb by
    rw [hwb, hwa] at H
    exact H
  refine G.known (d := 6) h6 (G.known (d := 3) h3 (G.known (d := 2) h2 (G.known (d := 1) h1 ?_)))
  clear h1 h2 h3 h6
  refine g_seq (g_seq (g_region ?_))
  refine g_op rfl rfl rfl (run_moveS rfl) ?_
  refine g_call rfl rfl rfl (run_enter2 (va := .slice (some ad) n c) (vb := .int .i64 ((18 : Nat) : Int)) Try.func10 nm10 rfl rfl rfl) (cycle_any ad n c 18 kb wb hn0 (by omega) hkb (by omega)) ?_
  rintro v w1 ⟨hown, hb1⟩
  obtain ⟨gv, cap, rfl, hgv, hnv, hgvlt⟩ := Nums.of_own hown (by omega)
  have hT1 : Tab w1 w.heap.size s 28 := tab_below hb1 hTb (by omega)
  have hg1 : w1.heap[w.heap.size + 1]? = some (.cells z.cells 28 (0, 0)) := (hb1.block _ (by omega)).trans hgb
  have hbw1 : Below w.heap.size w w1 := hbb.trans (hb1.mono (by omega))
  have hs1 : wb.heap.size ≤ w1.heap.size := hb1.size
  refine g_op rfl rfl rfl (run_len Try.underlying38 rfl) ?_
  repeat (first
    | refine g_op rfl rfl rfl (run_moveV rfl) ?_
    | refine g_op rfl rfl rfl (run_moveP rfl) ?_
    | refine g_op rfl rfl rfl (run_moveS rfl) ?_
    | refine g_op rfl rfl rfl (run_moveI rfl) ?_
    | refine g_op rfl rfl rfl (run_moveB rfl) ?_
    | refine g_op rfl rfl rfl (run_moveT rfl) ?_)
  refine g_nil (g_then (g_block ?_))
  refine g_loop (fun f w' μ => ∃ i : Nat, i ≤ 18 ∧ μ = 18 - i ∧ f 1 = .slice (some ad) n c ∧ f 2 = .slice none 0 0 ∧ f 3 = .pointer (some ⟨w.heap.size, 0, none⟩) ∧ f 6 = .pointer (some ⟨w.heap.size + 1, 0, none⟩) ∧ f 15 = .slice (some ⟨gv, 0, none⟩) 18 cap ∧ f 16 = .int .i64 ((18 : Nat) : Int) ∧ f 17 = .int .i64 (i : Int) ∧ Now w1 w.heap.size (mixT s kb n i) w') 18
    ⟨0, by omega, by omega, rfl, rfl, rfl, rfl, rfl, rfl, rfl, by rw [mixT_zero]; exact Now.start hT1⟩ ?_
  clear f
  rintro f w' μ ⟨i, hi, rfl, h1, h2, h3, h6, h15, h16, h17, hw⟩
  refine G.known (d := 17) h17 (G.known (d := 16) h16 (G.known (d := 15) h15 (G.known (d := 6) h6 (G.known (d := 3) h3 (G.known (d := 2) h2 (G.known (d := 1) h1 ?_))))))
  clear h1 h2 h3 h6 h15 h16 h17
  have hTw := hw.tab hT1
  have hnw : Nums w' gv 18 (cyc kb n) := Nums.now hw hnv (by omega)
  by_cases hlt : i < 18
  · refine g_seq (g_region ?_)
    refine g_op rfl rfl rfl (run_lssT rfl rfl (by omega)) ?_
    refine g_nil (g_then (g_seq (g_cond_true rfl (g_skip (g_then (g_seq (g_block (g_seq (g_region ?_)))))))))
    refine g_op rfl rfl rfl (run_moveI rfl) ?_
    refine g_op rfl rfl rfl (run_sidx (i := i) Try.underlying38 sz23 rfl rfl hlt) ?_
    refine g_op rfl rfl rfl (run_load1 Try.underlying23 rfl rfl (hnw i hlt)) ?_
    refine g_op rfl rfl rfl (run_asgI rfl) ?_
    refine g_op rfl rfl rfl (run_asgV rfl) ?_
    refine g_nil (g_then (g_region ?_))
    repeat (first
      | refine g_op rfl rfl rfl (run_moveV rfl) ?_
      | refine g_op rfl rfl rfl (run_moveI rfl) ?_
      | refine g_op rfl rfl rfl (run_f28_0 rfl) ?_
      | refine g_op rfl rfl rfl (run_i24z (n := i) rfl rfl hlt) ?_
      | refine g_op rfl rfl rfl (run_load rfl hTw (by omega)) ?_
      | refine g_op rfl rfl rfl (run_xor rfl rfl) ?_)
    refine g_store rfl rfl (run_store rfl rfl hTw (by omega)) ?_
    refine g_nil (g_inb (g_then (g_region ?_)))
    refine g_op rfl rfl rfl (run_addI rfl rfl (by omega) (by omega)) ?_
    refine g_op rfl rfl rfl (run_moveI rfl) ?_
    have hfin : Now w1 w.heap.size (mixT s kb n (i + 1)) (w'.setRow w.heap.size (row (setT (mixT s kb n i) i (mixT s kb n i i ^^^ cyc kb n i)))) := by
      rw [mixT_succ]
      exact hw.set _
    exact g_nil (g_then (g_round (17 - i) ⟨i + 1, by omega, by omega, rfl, rfl, rfl, rfl, rfl, rfl, rfl, hfin⟩ (by omega)))
  · obtain rfl : i = 18 := by omega
    refine g_seq (g_region ?_)
    refine g_op rfl rfl rfl (run_lssF rfl rfl (by omega)) ?_
    refine g_nil (g_then (g_seq (g_cond_false rfl (g_exit (g_texit (g_texit (g_out (g_then (g_seq (g_seq (g_region ?_)))))))))))
    refine g_op rfl rfl rfl (run_moveS rfl) ?_
    refine g_op rfl rfl rfl (run_len Try.underlying22 rfl) ?_
    refine g_op rfl rfl rfl (run_eqlT rfl rfl rfl) ?_
    refine g_nil (g_then (g_cond_true rfl (g_region ?_)))
    refine g_op rfl rfl rfl (run_bs1 (u := .int .u8 0) Try.underlying22 info5 rfl rfl) ?_
    refine g_op rfl rfl rfl (run_asgS rfl) ?_
    refine g_nil (g_then (g_seq (g_region ?_)))
    -- the salt of one zero
    obtain ⟨wc, hwc⟩ : ∃ wc, wc = w'.alloc (.cells #[.int .u8 0] 5) := ⟨_, rfl⟩
    rw [← hwc]
    have hbw' : Below w.heap.size w w' := below_now hbw1 (Nat.le_refl _) hw
    have hs' : w1.heap.size ≤ w'.heap.size := (below_now (Below.refl w.heap.size w1) (Nat.le_refl _) hw).size
    have hsc : wc.heap.size = w'.heap.size + 1 := by rw [hwc]; exact alloc_size _ _
    have hTc : Tab wc w.heap.size (mixT s kb n 18) 28 := by rw [hwc]; exact tab_alloc hTw _
    have hgw' : w'.heap[w.heap.size + 1]? = some (.cells z.cells 28 (0, 0)) := by
      obtain ⟨k, rfl⟩ := hw
      exact (setRow_other w1 _ _ _ (by omega)).trans hg1
    have hgc : wc.heap[w.heap.size + 1]? = some (.cells z.cells 28 (0, 0)) := by
      rw [hwc]
      exact (Below.heap_alloc w' _ _ (by omega)).trans hgw'
    have hbc : Below w.heap.size w wc := by rw [hwc]; exact hbw'.alloc hbw'.size _
    have hzb : Bytes wc ⟨w'.heap.size, 0, none⟩ 1 (fun _ => 0) := by
      intro i hi
      obtain rfl : i = 0 := by omega
      rw [hwc]
      exact cell_new1 w' (.int .u8 0) 5 0 _ rfl
    refine g_op rfl rfl rfl (run_moveS rfl) ?_
    refine g_call rfl rfl rfl (run_enter2 (va := .slice (some ⟨w'.heap.size, 0, none⟩) 1 1) (vb := .int .i64 ((1042 : Nat) : Int)) Try.func10 nm10 rfl rfl rfl) (cycle_any _ 1 1 1042 (fun _ => 0) wc (by omega) (by omega) hzb (by show w'.heap.size < wc.heap.size; omega)) ?_
    rintro v w3 ⟨hown3, hb3⟩
    obtain ⟨g9, c9, rfl, hg9, hn9, hg9lt⟩ := Nums.of_own hown3 (by omega)
    refine g_op rfl rfl rfl (run_asgS rfl) ?_
    refine g_nil (g_then ?_)
    have hT3 : Tab w3 w.heap.size (mixT s kb n 18) 28 := tab_below hb3 hTc (by omega)
    have hg3 : w3.heap[w.heap.size + 1]? = some (.cells z.cells 28 (0, 0)) := (hb3.block _ (by omega)).trans hgc
    have hn3 : Nums w3 g9 1042 (fun _ => 0#32) := by
      intro i hi
      have h := hn9 i hi
      rw [cyc_zero] at h
      exact h
    intro a ha
    exact spec_fill hT3 hg3 hzs (by omega) hn3 (by omega) (hbc.trans (hb3.mono (by omega))) (Nat.le_refl _) (by omega) _ (by exact rfl) (by exact rfl) (by exact rfl) a ha
end Go.Proofs.Ytolkgekbnbgodaa
