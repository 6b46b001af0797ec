/- A cipher of given tables: blowfish.ZZCipher. -/
import Derived.Test.YtolkgekbnbgodaaBuild
namespace Go.Proofs.Ytolkgekbnbgodaa
open Go Go.RowKit
section
variable {f : Nat → Value} {d : Option Tmp} {ty : TypeId} {pos : String} {af : Array Edge} {gd : Option (Nat × Bool)} {w : World}
theorem run_bld {t : TypeId} {l : List (Nat × Operand)} {vl : List (Nat × Value)} {cells : Array Value} (hl : l.map (fun p => (p.1, evF f p.2)) = vl) (hb : Try.prog.built t vl = some cells) :
    Runs Try.prog f ⟨d, .build t l.toArray, ty, pos, af, gd⟩ w (.agg cells) w := ⟨by
  have h := run_build (P := Try.prog) w t (l.toArray.map fun (i, x) => (i, evF f x)) cells (by
    rw [List.map_toArray]
    have e : (l.map fun (x : Nat × Operand) => match x with | (i, x) => (i, evF f x)) = vl := hl
    rw [e]
    exact hb)
  simp only [execOp, Sem.run_bind]
  rw [h]
  rfl⟩
end
theorem seg_cell {w : World} {g k m : Nat} {e : TypeId} {s : Tbl} (hg : w.heap[g]? = some (.cells (segv (fun j => s (18 + j)) 1024) e (0, 0))) (hk : k < 1024) (hm : 18 + k = m) : w.cell? ⟨g, k, none⟩ = some (V (s m)) := by
  rw [cell_of_row w g k _ e _ hg, segv_get _ hk, hm]

theorem cipher_any (s : Tbl) (w : World) : Calls Try.prog 6 #[.agg (segv s 18), .agg (segv (fun j => s (18 + j)) 1024)] w fun e w' =>
    e = .returned (.pointer (some ⟨w.heap.size + 2, 0, none⟩)) ∧ (Tab w' (w.heap.size + 2) s 44 ∧ Below w.heap.size w w') := by
  refine g_enter (l := [_, _]) Try.func6 rfl Try.ntmps6 rfl ?_
  refine g_seq (g_region ?_)
  refine g_op rfl rfl rfl (run_box (v := .agg (segv s 18)) rfl) ?_
  refine g_op rfl rfl rfl (run_box (v := .agg (segv (fun j => s (18 + j)) 1024)) rfl) ?_
  refine g_op rfl rfl rfl (run_asgP rfl) ?_
  refine g_nil (g_then (g_seq (g_region ?_)))
  obtain ⟨wa, hwa⟩ : ∃ wa, wa = w.alloc (.cells (segv s 18) 24) := ⟨_, rfl⟩
  obtain ⟨wb, hwb⟩ : ∃ wb, wb = wa.alloc (.cells (segv (fun j => s (18 + j)) 1024) 26) := ⟨_, rfl⟩
  have hsa : wa.heap.size = w.heap.size + 1 := by rw [hwa]; exact alloc_size _ _
  have hsb : wb.heap.size = w.heap.size + 2 := by rw [hwb, alloc_size, hsa]
  have h2 : wb.heap[w.heap.size]? = some (.cells (segv s 18) 24 (0, 0)) := by
    rw [hwb, Below.heap_alloc wa _ _ (by omega), hwa]
    exact heap_alloc_new w _
  have h3 : wb.heap[w.heap.size + 1]? = some (.cells (segv (fun j => s (18 + j)) 1024) 26 (0, 0)) := by
    rw [hwb, ← hsa]
    exact heap_alloc_new wa _
  have hb : Below w.heap.size w wb := by
    rw [hwb, hwa]
    exact ((Below.refl _ _).alloc (Nat.le_refl _) _).alloc (by rw [alloc_size]; exact Nat.le_succ _) _
  suffices H : ∀ f : Nat → Value, f 2 = .pointer (some ⟨w.heap.size, 0, none⟩) → f 3 = .pointer (some ⟨w.heap.size + 1, 0, none⟩) → G 16 f fun a => wpList Try.prog _ _ _ a wb by
    rw [hwb, hwa] at H
    exact H _ rfl (by rw [← hsa, hwa]; rfl)
  intro f h2' h3'
  refine G.known (d := 3) h3' (G.known (d := 2) h2' ?_)
  refine g_op rfl rfl rfl (run_loadRow agg24 rfl h2 (segv_size _ _)) ?_
  refine g_op rfl rfl rfl (run_i26 (n := 0) rfl rfl (by decide)) ?_
  refine g_op rfl rfl rfl (run_loadSeg (xs := fun j => s (18 + j)) Try.underlying25 sz25 rfl (fun j hj => seg_cell (k := 0 + 0 * 256 + j) (m := 18 + j) h3 (by omega) (by omega))) ?_
  refine g_op rfl rfl rfl (run_i26 (n := 1) rfl rfl (by decide)) ?_
  refine g_op rfl rfl rfl (run_loadSeg (xs := fun j => s (274 + j)) Try.underlying25 sz25 rfl (fun j hj => seg_cell (k := 0 + 1 * 256 + j) (m := 274 + j) h3 (by omega) (by omega))) ?_
  refine g_op rfl rfl rfl (run_i26 (n := 2) rfl rfl (by decide)) ?_
  refine g_op rfl rfl rfl (run_loadSeg (xs := fun j => s (530 + j)) Try.underlying25 sz25 rfl (fun j hj => seg_cell (k := 0 + 2 * 256 + j) (m := 530 + j) h3 (by omega) (by omega))) ?_
  refine g_op rfl rfl rfl (run_i26 (n := 3) rfl rfl (by decide)) ?_
  refine g_op rfl rfl rfl (run_loadSeg (xs := fun j => s (786 + j)) Try.underlying25 sz25 rfl (fun j hj => seg_cell (k := 0 + 3 * 256 + j) (m := 786 + j) h3 (by omega) (by omega))) ?_
  refine g_op rfl rfl rfl (run_bld rfl (built44 s)) ?_
  refine g_op rfl rfl rfl (run_box (v := .agg (row s)) rfl) ?_
  refine g_op rfl rfl rfl (run_asgP rfl) ?_
  refine g_nil (g_then (g_ret (g_ret1 rfl (v := .pointer (some ⟨wb.heap.size, 0, none⟩)) rfl ⟨by rw [hsb], ?_, ?_⟩)))
  · rw [← hsb]
    exact tab_new wb s 44
  · exact hb.alloc hb.size _
end Go.Proofs.Ytolkgekbnbgodaa
