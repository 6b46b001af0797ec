/- The package's key schedule: the five loops that fill the tables (blowfish.ExpandKey). -/
import Derived.Test.YtolkgekbnbgodaaEnc
import Derived.Test.YtolkgekbnbgodaaCycle
import Derived.Test.YtolkgekbnbgodaaOrders
namespace Go.Proofs.Ytolkgekbnbgodaa
open Go Go.RowKit
/-- A key is added to the first so many numbers. -/
def mixT (s : Tbl) (kb : Nat → Nat) (n i : Nat) : Tbl := fun j => if j < i then s j ^^^ cyc kb n j else s j
/-- Two numbers after the other become a block that is encrypted again and again. -/
def fillS (s : Tbl) : Nat → Tbl × (BitVec 32 × BitVec 32)
  | 0 => (s, (0#32, 0#32))
  | j + 1 => (setT (setT (fillS s j).1 (2 * j) (crypt (fillS s j).1 (fillS s j).2).1) (2 * j + 1) (crypt (fillS s j).1 (fillS s j).2).2, crypt (fillS s j).1 (fillS s j).2)
/-- Tables into which a key is taken. -/
def expandT (s : Tbl) (kb : Nat → Nat) (n : Nat) : Tbl := (fillS (mixT s kb n 18) 521).1

theorem mixT_zero (s : Tbl) (kb : Nat → Nat) (n : Nat) : mixT s kb n 0 = s := by
  funext j
  simp [mixT]
theorem mixT_succ (s : Tbl) (kb : Nat → Nat) (n i : Nat) : setT (mixT s kb n i) i (mixT s kb n i i ^^^ cyc kb n i) = mixT s kb n (i + 1) := by
  funext j
  unfold setT mixT
  by_cases h : j = i
  · subst h; simp
  · by_cases h2 : j < i
    · simp [h, h2, Nat.lt_succ_of_lt h2]
    · simp [h, h2, show ¬ j < i + 1 by omega]

theorem setRow_self {w : World} {g : Nat} {s : Tbl} {t : TypeId} (hT : Tab w g s t) : w.setRow g (row s) = w := by
  have hlt : g < w.heap.size := tab_lt hT
  have hv : w.heap[g] = .cells (row s) t (0, 0) := (Array.getElem?_eq_some_iff.1 hT).2
  unfold World.setRow
  cases w with
  | mk heap tape drawn os output =>
    congr 1
    apply Array.ext
    · simp
    · intro k h1 h2
      simp only [Array.getElem_modify]
      split
      · rename_i hk; subst hk; simp at hv; simp [hv]
      · rfl
theorem setRow_drewN (w : World) (g n : Nat) (cs : Array Value) : (w.drewN n).setRow g cs = (w.setRow g cs).drewN n := rfl
/-- The world 'w0' whose row g holds the tables s, behind some draws. -/
def Now (w0 : World) (g : Nat) (s : Tbl) (w : World) : Prop := ∃ n, w = (w0.setRow g (row s)).drewN n
theorem Now.tab {w0 w : World} {g : Nat} {s0 s : Tbl} {t : TypeId} (hT : Tab w0 g s0 t) (h : Now w0 g s w) : Tab w g s t := by
  obtain ⟨n, rfl⟩ := h
  exact (hT.set s).drewN n
theorem Now.drewN {w0 w : World} {g : Nat} {s : Tbl} (h : Now w0 g s w) (m : Nat) : Now w0 g s (w.drewN m) := by
  obtain ⟨n, rfl⟩ := h
  exact ⟨n + m, World.drewN_drewN _ _ _⟩
theorem Now.set {w0 w : World} {g : Nat} {s : Tbl} (h : Now w0 g s w) (s' : Tbl) : Now w0 g s' (w.setRow g (row s')) := by
  obtain ⟨n, rfl⟩ := h
  refine ⟨n, ?_⟩
  rw [setRow_drewN, setRow_setRow]
theorem Now.start {w0 : World} {g : Nat} {s : Tbl} {t : TypeId} (hT : Tab w0 g s t) : Now w0 g s w0 := ⟨0, by rw [setRow_self hT]; rfl⟩
theorem Now.bytes {w0 w : World} {g n : Nat} {s : Tbl} {ad : Addr} {kb : Nat → Nat} (h : Now w0 g s w) (hk : Bytes w0 ad n kb) (hg : ad.block ≠ g) : Bytes w ad n kb := by
  obtain ⟨m, rfl⟩ := h
  exact (hk.setRow hg _).drewN m

noncomputable def body7 : Code := Try.f7.body.getD .skip
def XkR (w0 : World) (g : Nat) (s : Tbl) (e : Ending) (w' : World) : Prop := e = .returned (.tuple #[]) ∧ Now w0 g s w'

section
variable {g : Nat} {t : TypeId} {s0 m : Tbl} {w0 : World}
set_option maxHeartbeats 1000000 in
theorem fill7 (hT : Tab w0 g s0 t) (f : Nat → Value) (w : World) (h1 : f 1 = .pointer (some ⟨g, 0, none⟩)) (h8 : f 8 = V (fillS m 393).2.1) (h9 : f 9 = V (fillS m 393).2.2) (hw : Now w0 g (fillS m 393).1 w) :
    G 168 f fun a => (restOf 7 body7).wp Try.prog (bodyPost Try.prog Try.f7 (XkR w0 g (fillS m 521).1)) a w := by
  refine G.known (d := 9) h9 (G.known (d := 8) h8 (G.known (d := 1) h1 ?_))
  refine g_seq (g_region ?_)
  repeat (first
    | refine g_op rfl rfl rfl (run_moveV rfl) ?_
    | refine g_op rfl rfl rfl (run_moveP rfl) ?_
    | refine g_op rfl rfl rfl (run_moveS rfl) ?_
    | refine g_op rfl rfl rfl (run_moveI rfl) ?_
    | refine g_op rfl rfl rfl (run_moveB rfl) ?_
    | refine g_op rfl rfl rfl (run_moveT rfl) ?_
    | refine g_op rfl rfl rfl (run_asgV rfl) ?_
    | refine g_op rfl rfl rfl (run_asgP rfl) ?_
    | refine g_op rfl rfl rfl (run_asgS rfl) ?_
    | refine g_op rfl rfl rfl (run_asgI rfl) ?_
    | refine g_op rfl rfl rfl (run_asgB rfl) ?_)
  refine g_nil (g_then (g_block ?_))
  refine g_loop (fun f w' μ => ∃ j : Nat, j ≤ 128 ∧ μ = 128 - j ∧ f 1 = .pointer (some ⟨g, 0, none⟩) ∧ f 14 = .int .i64 ((2 * j : Nat) : Int) ∧ f 8 = V (fillS m (393 + j)).2.1 ∧ f 9 = V (fillS m (393 + j)).2.2 ∧ Now w0 g (fillS m (393 + j)).1 w') 128
    ⟨0, by omega, by omega, rfl, rfl, rfl, rfl, hw⟩ ?_
  clear h1 h8 h9 hw f w
  rintro f w μ ⟨j, hj, rfl, h1, h14, h8, h9, hw⟩
  refine G.known (d := 9) h9 (G.known (d := 8) h8 (G.known (d := 14) h14 (G.known (d := 1) h1 ?_)))
  clear h1 h14 h8 h9
  have hTw := hw.tab hT
  by_cases hlt : j < 128
  · refine g_seq (g_seq (g_region ?_))
    repeat (first
      | refine g_op rfl rfl rfl (run_moveV rfl) ?_
      | refine g_op rfl rfl rfl (run_moveP rfl) ?_
      | refine g_op rfl rfl rfl (run_moveS rfl) ?_
      | refine g_op rfl rfl rfl (run_moveI rfl) ?_
      | refine g_op rfl rfl rfl (run_moveB rfl) ?_
      | refine g_op rfl rfl rfl (run_moveT rfl) ?_
      | refine g_op rfl rfl rfl (run_lssT rfl rfl (by omega)) ?_
      | refine g_op rfl rfl rfl (run_lssF rfl rfl (by omega)) ?_)
    refine g_nil (g_then (g_cond_true rfl (g_skip (g_then (g_seq (g_block (g_seq (g_region ?_))))))))
    repeat (first
      | refine g_op rfl rfl rfl (run_moveV rfl) ?_
      | refine g_op rfl rfl rfl (run_moveP rfl) ?_
      | refine g_op rfl rfl rfl (run_moveS rfl) ?_
      | refine g_op rfl rfl rfl (run_moveI rfl) ?_
      | refine g_op rfl rfl rfl (run_moveB rfl) ?_
      | refine g_op rfl rfl rfl (run_moveT rfl) ?_)
    refine g_callV rfl rfl rfl (run_enter3 (va := V (fillS m (393 + j)).2.1) (vb := V (fillS m (393 + j)).2.2) (vc := .pointer (some ⟨g, 0, none⟩)) Try.func12 nm12 rfl rfl rfl rfl) (enc_any g t _ _ _ _ hTw) ?_
    rintro _ ⟨n2, rfl⟩
    repeat (first
      | refine g_op rfl rfl rfl (run_moveV rfl) ?_
      | refine g_op rfl rfl rfl (run_moveP rfl) ?_
      | refine g_op rfl rfl rfl (run_moveS rfl) ?_
      | refine g_op rfl rfl rfl (run_moveI rfl) ?_
      | refine g_op rfl rfl rfl (run_moveB rfl) ?_
      | refine g_op rfl rfl rfl (run_moveT rfl) ?_
      | refine g_op rfl rfl rfl (run_ext rfl rfl) ?_
      | refine g_op rfl rfl rfl (run_asgV rfl) ?_
      | refine g_op rfl rfl rfl (run_asgP rfl) ?_
      | refine g_op rfl rfl rfl (run_asgS rfl) ?_
      | refine g_op rfl rfl rfl (run_asgI rfl) ?_
      | refine g_op rfl rfl rfl (run_asgB rfl) ?_)
    refine g_nil (g_then ?_)
    have hTn := hTw.drewN n2
    have hNn := hw.drewN n2
    obtain ⟨S, hS⟩ : ∃ S, S = (fillS m (393 + j)).1 := ⟨_, rfl⟩
    obtain ⟨q, hq⟩ : ∃ q, q = crypt (fillS m (393 + j)).1 (fillS m (393 + j)).2 := ⟨_, rfl⟩
    refine G.gen4 (d1 := 1) (d2 := 14) (d3 := 8) (d4 := 9) (v1 := .pointer (some ⟨g, 0, none⟩)) (v2 := .int .i64 ((2 * j : Nat) : Int)) (v3 := V q.1) (v4 := V q.2) rfl rfl (by rw [hq]; rfl) (by rw [hq]; rfl) ?_
    clear f
    intro f h1 h14 h8 h9
    rw [← hS] at hTn hNn
    refine G.known (d := 9) h9 (G.known (d := 8) h8 (G.known (d := 14) h14 (G.known (d := 1) h1 ?_)))
    refine a_region (by kernel_rfl) (n := 15) rfl ?_
    first
      | refine a_take 0 rfl rfl rfl rfl (by kernel_rfl) (by kernel_rfl) (by kernel_rfl) (fun _ _ _ h => h) (fun _ => run_moveV rfl) ?_
      | refine a_take 0 rfl rfl rfl rfl (by kernel_rfl) (by kernel_rfl) (by kernel_rfl) (fun _ _ _ h => h) (fun _ => run_moveP rfl) ?_
      | refine a_take 0 rfl rfl rfl rfl (by kernel_rfl) (by kernel_rfl) (by kernel_rfl) (fun _ _ _ h => h) (fun _ => run_moveI rfl) ?_
    first
      | refine a_take 1 rfl rfl rfl rfl (by kernel_rfl) (by kernel_rfl) (by kernel_rfl) (fun _ _ _ h => h) (fun _ => run_moveV rfl) ?_
      | refine a_take 1 rfl rfl rfl rfl (by kernel_rfl) (by kernel_rfl) (by kernel_rfl) (fun _ _ _ h => h) (fun _ => run_moveP rfl) ?_
      | refine a_take 1 rfl rfl rfl rfl (by kernel_rfl) (by kernel_rfl) (by kernel_rfl) (fun _ _ _ h => h) (fun _ => run_moveI rfl) ?_
    first
      | refine a_take 2 rfl rfl rfl rfl (by kernel_rfl) (by kernel_rfl) (by kernel_rfl) (fun _ _ _ h => h) (fun _ => run_moveV rfl) ?_
      | refine a_take 2 rfl rfl rfl rfl (by kernel_rfl) (by kernel_rfl) (by kernel_rfl) (fun _ _ _ h => h) (fun _ => run_moveP rfl) ?_
      | refine a_take 2 rfl rfl rfl rfl (by kernel_rfl) (by kernel_rfl) (by kernel_rfl) (fun _ _ _ h => h) (fun _ => run_moveI rfl) ?_
    first
      | refine a_take 3 rfl rfl rfl rfl (by kernel_rfl) (by kernel_rfl) (by kernel_rfl) (fun _ _ _ h => h) (fun _ => run_moveV rfl) ?_
      | refine a_take 3 rfl rfl rfl rfl (by kernel_rfl) (by kernel_rfl) (by kernel_rfl) (fun _ _ _ h => h) (fun _ => run_moveP rfl) ?_
      | refine a_take 3 rfl rfl rfl rfl (by kernel_rfl) (by kernel_rfl) (by kernel_rfl) (fun _ _ _ h => h) (fun _ => run_moveI rfl) ?_
    first
      | refine a_take 4 rfl rfl rfl rfl (by kernel_rfl) (by kernel_rfl) (by kernel_rfl) (fun _ _ _ h => h) (fun _ => run_addI rfl rfl (by omega) (by omega)) ?_
    first
      | refine a_take 5 rfl rfl rfl rfl (by kernel_rfl) (by kernel_rfl) (by kernel_rfl) (fun _ _ _ h => h) (fun _ => run_moveV rfl) ?_
      | refine a_take 5 rfl rfl rfl rfl (by kernel_rfl) (by kernel_rfl) (by kernel_rfl) (fun _ _ _ h => h) (fun _ => run_moveP rfl) ?_
      | refine a_take 5 rfl rfl rfl rfl (by kernel_rfl) (by kernel_rfl) (by kernel_rfl) (fun _ _ _ h => h) (fun _ => run_moveI rfl) ?_
    first
      | refine a_take 6 rfl rfl rfl rfl (by kernel_rfl) (by kernel_rfl) (by kernel_rfl) (fun _ _ _ h => h) (fun _ => run_moveV rfl) ?_
      | refine a_take 6 rfl rfl rfl rfl (by kernel_rfl) (by kernel_rfl) (by kernel_rfl) (fun _ _ _ h => h) (fun _ => run_moveP rfl) ?_
      | refine a_take 6 rfl rfl rfl rfl (by kernel_rfl) (by kernel_rfl) (by kernel_rfl) (fun _ _ _ h => h) (fun _ => run_moveI rfl) ?_
    first
      | refine a_take 7 rfl rfl rfl rfl (by kernel_rfl) (by kernel_rfl) (by kernel_rfl) (fun _ _ _ h => h) (fun _ => run_nil rfl) ?_
    first
      | refine a_take 8 rfl rfl rfl rfl (by kernel_rfl) (by kernel_rfl) (by kernel_rfl) (fun _ _ _ h => h) (fun _ => run_f44_4 rfl) ?_
    first
      | refine a_take 9 rfl rfl rfl rfl (by kernel_rfl) (by kernel_rfl) (by kernel_rfl) (fun _ _ _ h => h) (fun _ => run_i25 (n := 2 * j) rfl rfl (by omega)) ?_
    first
      | refine a_take 11 rfl rfl rfl rfl (by kernel_rfl) (by kernel_rfl) (by kernel_rfl) (fun _ _ _ h => h) (fun _ => run_nil rfl) ?_
    first
      | refine a_take 12 rfl rfl rfl rfl (by kernel_rfl) (by kernel_rfl) (by kernel_rfl) (fun _ _ _ h => h) (fun _ => run_f44_4 rfl) ?_
    refine a_store 10 rfl rfl rfl (by kernel_rfl) (run_store rfl rfl (hTn.drewN 1) (by omega)) ?_
    first
      | refine a_take 13 rfl rfl rfl rfl (by kernel_rfl) (by kernel_rfl) (by kernel_rfl) (fun _ _ _ h => h) (fun _ => run_i25 (n := 2 * j + 1) rfl rfl (by omega)) ?_
    refine a_store 14 rfl rfl rfl (by kernel_rfl) (run_store rfl rfl ((hTn.drewN 1).set _) (by omega)) ?_
    refine a_done (by kernel_rfl) ?_
    refine g_inb (g_then (g_region ?_))
    repeat (first
      | refine g_op rfl rfl rfl (run_moveV rfl) ?_
      | refine g_op rfl rfl rfl (run_moveP rfl) ?_
      | refine g_op rfl rfl rfl (run_moveS rfl) ?_
      | refine g_op rfl rfl rfl (run_moveI rfl) ?_
      | refine g_op rfl rfl rfl (run_moveB rfl) ?_
      | refine g_op rfl rfl rfl (run_moveT rfl) ?_
      | refine g_op rfl rfl rfl (run_asgV rfl) ?_
      | refine g_op rfl rfl rfl (run_asgP rfl) ?_
      | refine g_op rfl rfl rfl (run_asgS rfl) ?_
      | refine g_op rfl rfl rfl (run_asgI rfl) ?_
      | refine g_op rfl rfl rfl (run_asgB rfl) ?_
      | refine g_op rfl rfl rfl (run_addI rfl rfl (by omega) (by omega)) ?_)
    have hfin : Now w0 g (fillS m (393 + (j + 1))).1 ((((w.drewN n2).drewN 1).setRow g (row (setT S (786 + (2 * j)) q.1))).setRow g (row (setT (setT S (786 + (2 * j)) q.1) (786 + (2 * j + 1)) q.2))) := by
      have e : (fillS m (393 + (j + 1))).1 = setT (setT S (786 + (2 * j)) q.1) (786 + (2 * j + 1)) q.2 := by
        have e1 : 786 + (2 * j) = 2 * (393 + j) := by omega
        have e2 : 786 + (2 * j + 1) = 2 * (393 + j) + 1 := by omega
        rw [e2, e1, hS, hq]
        rfl
      rw [e]
      exact ((hNn.drewN 1).set _).set _
    have e8 : V q.1 = V (fillS m (393 + (j + 1))).2.1 := by rw [hq]; rfl
    have e9 : V q.2 = V (fillS m (393 + (j + 1))).2.2 := by rw [hq]; rfl
    exact g_nil (g_then (g_round (127 - j) ⟨j + 1, by omega, by omega, rfl, congrArg (Value.int .i64) (by omega), e8, e9, hfin⟩ (by omega)))
  · obtain rfl : j = 128 := by omega
    refine g_seq (g_seq (g_region ?_))
    repeat (first
      | refine g_op rfl rfl rfl (run_moveV rfl) ?_
      | refine g_op rfl rfl rfl (run_moveP rfl) ?_
      | refine g_op rfl rfl rfl (run_moveS rfl) ?_
      | refine g_op rfl rfl rfl (run_moveI rfl) ?_
      | refine g_op rfl rfl rfl (run_moveB rfl) ?_
      | refine g_op rfl rfl rfl (run_moveT rfl) ?_
      | refine g_op rfl rfl rfl (run_lssT rfl rfl (by omega)) ?_
      | refine g_op rfl rfl rfl (run_lssF rfl rfl (by omega)) ?_)
    exact g_nil (g_then (g_cond_false rfl (g_exit (g_texit (g_texit (g_out (g_end0 rfl ⟨rfl, hw⟩)))))))
set_option maxHeartbeats 1000000 in
theorem fill6 (hT : Tab w0 g s0 t) (f : Nat → Value) (w : World) (h1 : f 1 = .pointer (some ⟨g, 0, none⟩)) (h8 : f 8 = V (fillS m 265).2.1) (h9 : f 9 = V (fillS m 265).2.2) (hw : Now w0 g (fillS m 265).1 w) :
    G 168 f fun a => (restOf 6 body7).wp Try.prog (bodyPost Try.prog Try.f7 (XkR w0 g (fillS m 521).1)) a w := by
  refine G.known (d := 9) h9 (G.known (d := 8) h8 (G.known (d := 1) h1 ?_))
  refine g_seq (g_seq (g_region ?_))
  repeat (first
    | refine g_op rfl rfl rfl (run_moveV rfl) ?_
    | refine g_op rfl rfl rfl (run_moveP rfl) ?_
    | refine g_op rfl rfl rfl (run_moveS rfl) ?_
    | refine g_op rfl rfl rfl (run_moveI rfl) ?_
    | refine g_op rfl rfl rfl (run_moveB rfl) ?_
    | refine g_op rfl rfl rfl (run_moveT rfl) ?_
    | refine g_op rfl rfl rfl (run_asgV rfl) ?_
    | refine g_op rfl rfl rfl (run_asgP rfl) ?_
    | refine g_op rfl rfl rfl (run_asgS rfl) ?_
    | refine g_op rfl rfl rfl (run_asgI rfl) ?_
    | refine g_op rfl rfl rfl (run_asgB rfl) ?_)
  refine g_nil (g_then (g_block ?_))
  refine g_loop (fun f w' μ => ∃ j : Nat, j ≤ 128 ∧ μ = 128 - j ∧ f 1 = .pointer (some ⟨g, 0, none⟩) ∧ f 13 = .int .i64 ((2 * j : Nat) : Int) ∧ f 8 = V (fillS m (265 + j)).2.1 ∧ f 9 = V (fillS m (265 + j)).2.2 ∧ Now w0 g (fillS m (265 + j)).1 w') 128
    ⟨0, by omega, by omega, rfl, rfl, rfl, rfl, hw⟩ ?_
  clear h1 h8 h9 hw f w
  rintro f w μ ⟨j, hj, rfl, h1, h13, h8, h9, hw⟩
  refine G.known (d := 9) h9 (G.known (d := 8) h8 (G.known (d := 13) h13 (G.known (d := 1) h1 ?_)))
  clear h1 h13 h8 h9
  have hTw := hw.tab hT
  by_cases hlt : j < 128
  · refine g_seq (g_seq (g_region ?_))
    repeat (first
      | refine g_op rfl rfl rfl (run_moveV rfl) ?_
      | refine g_op rfl rfl rfl (run_moveP rfl) ?_
      | refine g_op rfl rfl rfl (run_moveS rfl) ?_
      | refine g_op rfl rfl rfl (run_moveI rfl) ?_
      | refine g_op rfl rfl rfl (run_moveB rfl) ?_
      | refine g_op rfl rfl rfl (run_moveT rfl) ?_
      | refine g_op rfl rfl rfl (run_lssT rfl rfl (by omega)) ?_
      | refine g_op rfl rfl rfl (run_lssF rfl rfl (by omega)) ?_)
    refine g_nil (g_then (g_cond_true rfl (g_skip (g_then (g_seq (g_block (g_seq (g_region ?_))))))))
    repeat (first
      | refine g_op rfl rfl rfl (run_moveV rfl) ?_
      | refine g_op rfl rfl rfl (run_moveP rfl) ?_
      | refine g_op rfl rfl rfl (run_moveS rfl) ?_
      | refine g_op rfl rfl rfl (run_moveI rfl) ?_
      | refine g_op rfl rfl rfl (run_moveB rfl) ?_
      | refine g_op rfl rfl rfl (run_moveT rfl) ?_)
    refine g_callV rfl rfl rfl (run_enter3 (va := V (fillS m (265 + j)).2.1) (vb := V (fillS m (265 + j)).2.2) (vc := .pointer (some ⟨g, 0, none⟩)) Try.func12 nm12 rfl rfl rfl rfl) (enc_any g t _ _ _ _ hTw) ?_
    rintro _ ⟨n2, rfl⟩
    repeat (first
      | refine g_op rfl rfl rfl (run_moveV rfl) ?_
      | refine g_op rfl rfl rfl (run_moveP rfl) ?_
      | refine g_op rfl rfl rfl (run_moveS rfl) ?_
      | refine g_op rfl rfl rfl (run_moveI rfl) ?_
      | refine g_op rfl rfl rfl (run_moveB rfl) ?_
      | refine g_op rfl rfl rfl (run_moveT rfl) ?_
      | refine g_op rfl rfl rfl (run_ext rfl rfl) ?_
      | refine g_op rfl rfl rfl (run_asgV rfl) ?_
      | refine g_op rfl rfl rfl (run_asgP rfl) ?_
      | refine g_op rfl rfl rfl (run_asgS rfl) ?_
      | refine g_op rfl rfl rfl (run_asgI rfl) ?_
      | refine g_op rfl rfl rfl (run_asgB rfl) ?_)
    refine g_nil (g_then ?_)
    have hTn := hTw.drewN n2
    have hNn := hw.drewN n2
    obtain ⟨S, hS⟩ : ∃ S, S = (fillS m (265 + j)).1 := ⟨_, rfl⟩
    obtain ⟨q, hq⟩ : ∃ q, q = crypt (fillS m (265 + j)).1 (fillS m (265 + j)).2 := ⟨_, rfl⟩
    refine G.gen4 (d1 := 1) (d2 := 13) (d3 := 8) (d4 := 9) (v1 := .pointer (some ⟨g, 0, none⟩)) (v2 := .int .i64 ((2 * j : Nat) : Int)) (v3 := V q.1) (v4 := V q.2) rfl rfl (by rw [hq]; rfl) (by rw [hq]; rfl) ?_
    clear f
    intro f h1 h13 h8 h9
    rw [← hS] at hTn hNn
    refine G.known (d := 9) h9 (G.known (d := 8) h8 (G.known (d := 13) h13 (G.known (d := 1) h1 ?_)))
    refine a_region (by kernel_rfl) (n := 15) rfl ?_
    first
      | refine a_take 0 rfl rfl rfl rfl (by kernel_rfl) (by kernel_rfl) (by kernel_rfl) (fun _ _ _ h => h) (fun _ => run_moveV rfl) ?_
      | refine a_take 0 rfl rfl rfl rfl (by kernel_rfl) (by kernel_rfl) (by kernel_rfl) (fun _ _ _ h => h) (fun _ => run_moveP rfl) ?_
      | refine a_take 0 rfl rfl rfl rfl (by kernel_rfl) (by kernel_rfl) (by kernel_rfl) (fun _ _ _ h => h) (fun _ => run_moveI rfl) ?_
    first
      | refine a_take 1 rfl rfl rfl rfl (by kernel_rfl) (by kernel_rfl) (by kernel_rfl) (fun _ _ _ h => h) (fun _ => run_moveV rfl) ?_
      | refine a_take 1 rfl rfl rfl rfl (by kernel_rfl) (by kernel_rfl) (by kernel_rfl) (fun _ _ _ h => h) (fun _ => run_moveP rfl) ?_
      | refine a_take 1 rfl rfl rfl rfl (by kernel_rfl) (by kernel_rfl) (by kernel_rfl) (fun _ _ _ h => h) (fun _ => run_moveI rfl) ?_
    first
      | refine a_take 2 rfl rfl rfl rfl (by kernel_rfl) (by kernel_rfl) (by kernel_rfl) (fun _ _ _ h => h) (fun _ => run_moveV rfl) ?_
      | refine a_take 2 rfl rfl rfl rfl (by kernel_rfl) (by kernel_rfl) (by kernel_rfl) (fun _ _ _ h => h) (fun _ => run_moveP rfl) ?_
      | refine a_take 2 rfl rfl rfl rfl (by kernel_rfl) (by kernel_rfl) (by kernel_rfl) (fun _ _ _ h => h) (fun _ => run_moveI rfl) ?_
    first
      | refine a_take 3 rfl rfl rfl rfl (by kernel_rfl) (by kernel_rfl) (by kernel_rfl) (fun _ _ _ h => h) (fun _ => run_moveV rfl) ?_
      | refine a_take 3 rfl rfl rfl rfl (by kernel_rfl) (by kernel_rfl) (by kernel_rfl) (fun _ _ _ h => h) (fun _ => run_moveP rfl) ?_
      | refine a_take 3 rfl rfl rfl rfl (by kernel_rfl) (by kernel_rfl) (by kernel_rfl) (fun _ _ _ h => h) (fun _ => run_moveI rfl) ?_
    first
      | refine a_take 4 rfl rfl rfl rfl (by kernel_rfl) (by kernel_rfl) (by kernel_rfl) (fun _ _ _ h => h) (fun _ => run_addI rfl rfl (by omega) (by omega)) ?_
    first
      | refine a_take 5 rfl rfl rfl rfl (by kernel_rfl) (by kernel_rfl) (by kernel_rfl) (fun _ _ _ h => h) (fun _ => run_moveV rfl) ?_
      | refine a_take 5 rfl rfl rfl rfl (by kernel_rfl) (by kernel_rfl) (by kernel_rfl) (fun _ _ _ h => h) (fun _ => run_moveP rfl) ?_
      | refine a_take 5 rfl rfl rfl rfl (by kernel_rfl) (by kernel_rfl) (by kernel_rfl) (fun _ _ _ h => h) (fun _ => run_moveI rfl) ?_
    first
      | refine a_take 6 rfl rfl rfl rfl (by kernel_rfl) (by kernel_rfl) (by kernel_rfl) (fun _ _ _ h => h) (fun _ => run_moveV rfl) ?_
      | refine a_take 6 rfl rfl rfl rfl (by kernel_rfl) (by kernel_rfl) (by kernel_rfl) (fun _ _ _ h => h) (fun _ => run_moveP rfl) ?_
      | refine a_take 6 rfl rfl rfl rfl (by kernel_rfl) (by kernel_rfl) (by kernel_rfl) (fun _ _ _ h => h) (fun _ => run_moveI rfl) ?_
    first
      | refine a_take 7 rfl rfl rfl rfl (by kernel_rfl) (by kernel_rfl) (by kernel_rfl) (fun _ _ _ h => h) (fun _ => run_nil rfl) ?_
    first
      | refine a_take 8 rfl rfl rfl rfl (by kernel_rfl) (by kernel_rfl) (by kernel_rfl) (fun _ _ _ h => h) (fun _ => run_f44_3 rfl) ?_
    first
      | refine a_take 9 rfl rfl rfl rfl (by kernel_rfl) (by kernel_rfl) (by kernel_rfl) (fun _ _ _ h => h) (fun _ => run_i25 (n := 2 * j) rfl rfl (by omega)) ?_
    first
      | refine a_take 11 rfl rfl rfl rfl (by kernel_rfl) (by kernel_rfl) (by kernel_rfl) (fun _ _ _ h => h) (fun _ => run_nil rfl) ?_
    first
      | refine a_take 12 rfl rfl rfl rfl (by kernel_rfl) (by kernel_rfl) (by kernel_rfl) (fun _ _ _ h => h) (fun _ => run_f44_3 rfl) ?_
    refine a_store 10 rfl rfl rfl (by kernel_rfl) (run_store rfl rfl (hTn.drewN 1) (by omega)) ?_
    first
      | refine a_take 13 rfl rfl rfl rfl (by kernel_rfl) (by kernel_rfl) (by kernel_rfl) (fun _ _ _ h => h) (fun _ => run_i25 (n := 2 * j + 1) rfl rfl (by omega)) ?_
    refine a_store 14 rfl rfl rfl (by kernel_rfl) (run_store rfl rfl ((hTn.drewN 1).set _) (by omega)) ?_
    refine a_done (by kernel_rfl) ?_
    refine g_inb (g_then (g_region ?_))
    repeat (first
      | refine g_op rfl rfl rfl (run_moveV rfl) ?_
      | refine g_op rfl rfl rfl (run_moveP rfl) ?_
      | refine g_op rfl rfl rfl (run_moveS rfl) ?_
      | refine g_op rfl rfl rfl (run_moveI rfl) ?_
      | refine g_op rfl rfl rfl (run_moveB rfl) ?_
      | refine g_op rfl rfl rfl (run_moveT rfl) ?_
      | refine g_op rfl rfl rfl (run_asgV rfl) ?_
      | refine g_op rfl rfl rfl (run_asgP rfl) ?_
      | refine g_op rfl rfl rfl (run_asgS rfl) ?_
      | refine g_op rfl rfl rfl (run_asgI rfl) ?_
      | refine g_op rfl rfl rfl (run_asgB rfl) ?_
      | refine g_op rfl rfl rfl (run_addI rfl rfl (by omega) (by omega)) ?_)
    have hfin : Now w0 g (fillS m (265 + (j + 1))).1 ((((w.drewN n2).drewN 1).setRow g (row (setT S (530 + (2 * j)) q.1))).setRow g (row (setT (setT S (530 + (2 * j)) q.1) (530 + (2 * j + 1)) q.2))) := by
      have e : (fillS m (265 + (j + 1))).1 = setT (setT S (530 + (2 * j)) q.1) (530 + (2 * j + 1)) q.2 := by
        have e1 : 530 + (2 * j) = 2 * (265 + j) := by omega
        have e2 : 530 + (2 * j + 1) = 2 * (265 + j) + 1 := by omega
        rw [e2, e1, hS, hq]
        rfl
      rw [e]
      exact ((hNn.drewN 1).set _).set _
    have e8 : V q.1 = V (fillS m (265 + (j + 1))).2.1 := by rw [hq]; rfl
    have e9 : V q.2 = V (fillS m (265 + (j + 1))).2.2 := by rw [hq]; rfl
    exact g_nil (g_then (g_round (127 - j) ⟨j + 1, by omega, by omega, rfl, congrArg (Value.int .i64) (by omega), e8, e9, hfin⟩ (by omega)))
  · obtain rfl : j = 128 := by omega
    refine g_seq (g_seq (g_region ?_))
    repeat (first
      | refine g_op rfl rfl rfl (run_moveV rfl) ?_
      | refine g_op rfl rfl rfl (run_moveP rfl) ?_
      | refine g_op rfl rfl rfl (run_moveS rfl) ?_
      | refine g_op rfl rfl rfl (run_moveI rfl) ?_
      | refine g_op rfl rfl rfl (run_moveB rfl) ?_
      | refine g_op rfl rfl rfl (run_moveT rfl) ?_
      | refine g_op rfl rfl rfl (run_lssT rfl rfl (by omega)) ?_
      | refine g_op rfl rfl rfl (run_lssF rfl rfl (by omega)) ?_)
    refine g_nil (g_then (g_cond_false rfl (g_exit (g_texit (g_texit (g_out (g_then ?_)))))))
    intro a ha
    exact fill7 hT _ w rfl rfl rfl hw a ha
set_option maxHeartbeats 1000000 in
theorem fill5 (hT : Tab w0 g s0 t) (f : Nat → Value) (w : World) (h1 : f 1 = .pointer (some ⟨g, 0, none⟩)) (h8 : f 8 = V (fillS m 137).2.1) (h9 : f 9 = V (fillS m 137).2.2) (hw : Now w0 g (fillS m 137).1 w) :
    G 168 f fun a => (restOf 5 body7).wp Try.prog (bodyPost Try.prog Try.f7 (XkR w0 g (fillS m 521).1)) a w := by
  refine G.known (d := 9) h9 (G.known (d := 8) h8 (G.known (d := 1) h1 ?_))
  refine g_seq (g_seq (g_region ?_))
  repeat (first
    | refine g_op rfl rfl rfl (run_moveV rfl) ?_
    | refine g_op rfl rfl rfl (run_moveP rfl) ?_
    | refine g_op rfl rfl rfl (run_moveS rfl) ?_
    | refine g_op rfl rfl rfl (run_moveI rfl) ?_
    | refine g_op rfl rfl rfl (run_moveB rfl) ?_
    | refine g_op rfl rfl rfl (run_moveT rfl) ?_
    | refine g_op rfl rfl rfl (run_asgV rfl) ?_
    | refine g_op rfl rfl rfl (run_asgP rfl) ?_
    | refine g_op rfl rfl rfl (run_asgS rfl) ?_
    | refine g_op rfl rfl rfl (run_asgI rfl) ?_
    | refine g_op rfl rfl rfl (run_asgB rfl) ?_)
  refine g_nil (g_then (g_block ?_))
  refine g_loop (fun f w' μ => ∃ j : Nat, j ≤ 128 ∧ μ = 128 - j ∧ f 1 = .pointer (some ⟨g, 0, none⟩) ∧ f 12 = .int .i64 ((2 * j : Nat) : Int) ∧ f 8 = V (fillS m (137 + j)).2.1 ∧ f 9 = V (fillS m (137 + j)).2.2 ∧ Now w0 g (fillS m (137 + j)).1 w') 128
    ⟨0, by omega, by omega, rfl, rfl, rfl, rfl, hw⟩ ?_
  clear h1 h8 h9 hw f w
  rintro f w μ ⟨j, hj, rfl, h1, h12, h8, h9, hw⟩
  refine G.known (d := 9) h9 (G.known (d := 8) h8 (G.known (d := 12) h12 (G.known (d := 1) h1 ?_)))
  clear h1 h12 h8 h9
  have hTw := hw.tab hT
  by_cases hlt : j < 128
  · refine g_seq (g_seq (g_region ?_))
    repeat (first
      | refine g_op rfl rfl rfl (run_moveV rfl) ?_
      | refine g_op rfl rfl rfl (run_moveP rfl) ?_
      | refine g_op rfl rfl rfl (run_moveS rfl) ?_
      | refine g_op rfl rfl rfl (run_moveI rfl) ?_
      | refine g_op rfl rfl rfl (run_moveB rfl) ?_
      | refine g_op rfl rfl rfl (run_moveT rfl) ?_
      | refine g_op rfl rfl rfl (run_lssT rfl rfl (by omega)) ?_
      | refine g_op rfl rfl rfl (run_lssF rfl rfl (by omega)) ?_)
    refine g_nil (g_then (g_cond_true rfl (g_skip (g_then (g_seq (g_block (g_seq (g_region ?_))))))))
    repeat (first
      | refine g_op rfl rfl rfl (run_moveV rfl) ?_
      | refine g_op rfl rfl rfl (run_moveP rfl) ?_
      | refine g_op rfl rfl rfl (run_moveS rfl) ?_
      | refine g_op rfl rfl rfl (run_moveI rfl) ?_
      | refine g_op rfl rfl rfl (run_moveB rfl) ?_
      | refine g_op rfl rfl rfl (run_moveT rfl) ?_)
    refine g_callV rfl rfl rfl (run_enter3 (va := V (fillS m (137 + j)).2.1) (vb := V (fillS m (137 + j)).2.2) (vc := .pointer (some ⟨g, 0, none⟩)) Try.func12 nm12 rfl rfl rfl rfl) (enc_any g t _ _ _ _ hTw) ?_
    rintro _ ⟨n2, rfl⟩
    repeat (first
      | refine g_op rfl rfl rfl (run_moveV rfl) ?_
      | refine g_op rfl rfl rfl (run_moveP rfl) ?_
      | refine g_op rfl rfl rfl (run_moveS rfl) ?_
      | refine g_op rfl rfl rfl (run_moveI rfl) ?_
      | refine g_op rfl rfl rfl (run_moveB rfl) ?_
      | refine g_op rfl rfl rfl (run_moveT rfl) ?_
      | refine g_op rfl rfl rfl (run_ext rfl rfl) ?_
      | refine g_op rfl rfl rfl (run_asgV rfl) ?_
      | refine g_op rfl rfl rfl (run_asgP rfl) ?_
      | refine g_op rfl rfl rfl (run_asgS rfl) ?_
      | refine g_op rfl rfl rfl (run_asgI rfl) ?_
      | refine g_op rfl rfl rfl (run_asgB rfl) ?_)
    refine g_nil (g_then ?_)
    have hTn := hTw.drewN n2
    have hNn := hw.drewN n2
    obtain ⟨S, hS⟩ : ∃ S, S = (fillS m (137 + j)).1 := ⟨_, rfl⟩
    obtain ⟨q, hq⟩ : ∃ q, q = crypt (fillS m (137 + j)).1 (fillS m (137 + j)).2 := ⟨_, rfl⟩
    refine G.gen4 (d1 := 1) (d2 := 12) (d3 := 8) (d4 := 9) (v1 := .pointer (some ⟨g, 0, none⟩)) (v2 := .int .i64 ((2 * j : Nat) : Int)) (v3 := V q.1) (v4 := V q.2) rfl rfl (by rw [hq]; rfl) (by rw [hq]; rfl) ?_
    clear f
    intro f h1 h12 h8 h9
    rw [← hS] at hTn hNn
    refine G.known (d := 9) h9 (G.known (d := 8) h8 (G.known (d := 12) h12 (G.known (d := 1) h1 ?_)))
    refine a_region (by kernel_rfl) (n := 15) rfl ?_
    first
      | refine a_take 0 rfl rfl rfl rfl (by kernel_rfl) (by kernel_rfl) (by kernel_rfl) (fun _ _ _ h => h) (fun _ => run_moveV rfl) ?_
      | refine a_take 0 rfl rfl rfl rfl (by kernel_rfl) (by kernel_rfl) (by kernel_rfl) (fun _ _ _ h => h) (fun _ => run_moveP rfl) ?_
      | refine a_take 0 rfl rfl rfl rfl (by kernel_rfl) (by kernel_rfl) (by kernel_rfl) (fun _ _ _ h => h) (fun _ => run_moveI rfl) ?_
    first
      | refine a_take 1 rfl rfl rfl rfl (by kernel_rfl) (by kernel_rfl) (by kernel_rfl) (fun _ _ _ h => h) (fun _ => run_moveV rfl) ?_
      | refine a_take 1 rfl rfl rfl rfl (by kernel_rfl) (by kernel_rfl) (by kernel_rfl) (fun _ _ _ h => h) (fun _ => run_moveP rfl) ?_
      | refine a_take 1 rfl rfl rfl rfl (by kernel_rfl) (by kernel_rfl) (by kernel_rfl) (fun _ _ _ h => h) (fun _ => run_moveI rfl) ?_
    first
      | refine a_take 2 rfl rfl rfl rfl (by kernel_rfl) (by kernel_rfl) (by kernel_rfl) (fun _ _ _ h => h) (fun _ => run_moveV rfl) ?_
      | refine a_take 2 rfl rfl rfl rfl (by kernel_rfl) (by kernel_rfl) (by kernel_rfl) (fun _ _ _ h => h) (fun _ => run_moveP rfl) ?_
      | refine a_take 2 rfl rfl rfl rfl (by kernel_rfl) (by kernel_rfl) (by kernel_rfl) (fun _ _ _ h => h) (fun _ => run_moveI rfl) ?_
    first
      | refine a_take 3 rfl rfl rfl rfl (by kernel_rfl) (by kernel_rfl) (by kernel_rfl) (fun _ _ _ h => h) (fun _ => run_moveV rfl) ?_
      | refine a_take 3 rfl rfl rfl rfl (by kernel_rfl) (by kernel_rfl) (by kernel_rfl) (fun _ _ _ h => h) (fun _ => run_moveP rfl) ?_
      | refine a_take 3 rfl rfl rfl rfl (by kernel_rfl) (by kernel_rfl) (by kernel_rfl) (fun _ _ _ h => h) (fun _ => run_moveI rfl) ?_
    first
      | refine a_take 4 rfl rfl rfl rfl (by kernel_rfl) (by kernel_rfl) (by kernel_rfl) (fun _ _ _ h => h) (fun _ => run_addI rfl rfl (by omega) (by omega)) ?_
    first
      | refine a_take 5 rfl rfl rfl rfl (by kernel_rfl) (by kernel_rfl) (by kernel_rfl) (fun _ _ _ h => h) (fun _ => run_moveV rfl) ?_
      | refine a_take 5 rfl rfl rfl rfl (by kernel_rfl) (by kernel_rfl) (by kernel_rfl) (fun _ _ _ h => h) (fun _ => run_moveP rfl) ?_
      | refine a_take 5 rfl rfl rfl rfl (by kernel_rfl) (by kernel_rfl) (by kernel_rfl) (fun _ _ _ h => h) (fun _ => run_moveI rfl) ?_
    first
      | refine a_take 6 rfl rfl rfl rfl (by kernel_rfl) (by kernel_rfl) (by kernel_rfl) (fun _ _ _ h => h) (fun _ => run_moveV rfl) ?_
      | refine a_take 6 rfl rfl rfl rfl (by kernel_rfl) (by kernel_rfl) (by kernel_rfl) (fun _ _ _ h => h) (fun _ => run_moveP rfl) ?_
      | refine a_take 6 rfl rfl rfl rfl (by kernel_rfl) (by kernel_rfl) (by kernel_rfl) (fun _ _ _ h => h) (fun _ => run_moveI rfl) ?_
    first
      | refine a_take 7 rfl rfl rfl rfl (by kernel_rfl) (by kernel_rfl) (by kernel_rfl) (fun _ _ _ h => h) (fun _ => run_nil rfl) ?_
    first
      | refine a_take 8 rfl rfl rfl rfl (by kernel_rfl) (by kernel_rfl) (by kernel_rfl) (fun _ _ _ h => h) (fun _ => run_f44_2 rfl) ?_
    first
      | refine a_take 9 rfl rfl rfl rfl (by kernel_rfl) (by kernel_rfl) (by kernel_rfl) (fun _ _ _ h => h) (fun _ => run_i25 (n := 2 * j) rfl rfl (by omega)) ?_
    first
      | refine a_take 11 rfl rfl rfl rfl (by kernel_rfl) (by kernel_rfl) (by kernel_rfl) (fun _ _ _ h => h) (fun _ => run_nil rfl) ?_
    first
      | refine a_take 12 rfl rfl rfl rfl (by kernel_rfl) (by kernel_rfl) (by kernel_rfl) (fun _ _ _ h => h) (fun _ => run_f44_2 rfl) ?_
    refine a_store 10 rfl rfl rfl (by kernel_rfl) (run_store rfl rfl (hTn.drewN 1) (by omega)) ?_
    first
      | refine a_take 13 rfl rfl rfl rfl (by kernel_rfl) (by kernel_rfl) (by kernel_rfl) (fun _ _ _ h => h) (fun _ => run_i25 (n := 2 * j + 1) rfl rfl (by omega)) ?_
    refine a_store 14 rfl rfl rfl (by kernel_rfl) (run_store rfl rfl ((hTn.drewN 1).set _) (by omega)) ?_
    refine a_done (by kernel_rfl) ?_
    refine g_inb (g_then (g_region ?_))
    repeat (first
      | refine g_op rfl rfl rfl (run_moveV rfl) ?_
      | refine g_op rfl rfl rfl (run_moveP rfl) ?_
      | refine g_op rfl rfl rfl (run_moveS rfl) ?_
      | refine g_op rfl rfl rfl (run_moveI rfl) ?_
      | refine g_op rfl rfl rfl (run_moveB rfl) ?_
      | refine g_op rfl rfl rfl (run_moveT rfl) ?_
      | refine g_op rfl rfl rfl (run_asgV rfl) ?_
      | refine g_op rfl rfl rfl (run_asgP rfl) ?_
      | refine g_op rfl rfl rfl (run_asgS rfl) ?_
      | refine g_op rfl rfl rfl (run_asgI rfl) ?_
      | refine g_op rfl rfl rfl (run_asgB rfl) ?_
      | refine g_op rfl rfl rfl (run_addI rfl rfl (by omega) (by omega)) ?_)
    have hfin : Now w0 g (fillS m (137 + (j + 1))).1 ((((w.drewN n2).drewN 1).setRow g (row (setT S (274 + (2 * j)) q.1))).setRow g (row (setT (setT S (274 + (2 * j)) q.1) (274 + (2 * j + 1)) q.2))) := by
      have e : (fillS m (137 + (j + 1))).1 = setT (setT S (274 + (2 * j)) q.1) (274 + (2 * j + 1)) q.2 := by
        have e1 : 274 + (2 * j) = 2 * (137 + j) := by omega
        have e2 : 274 + (2 * j + 1) = 2 * (137 + j) + 1 := by omega
        rw [e2, e1, hS, hq]
        rfl
      rw [e]
      exact ((hNn.drewN 1).set _).set _
    have e8 : V q.1 = V (fillS m (137 + (j + 1))).2.1 := by rw [hq]; rfl
    have e9 : V q.2 = V (fillS m (137 + (j + 1))).2.2 := by rw [hq]; rfl
    exact g_nil (g_then (g_round (127 - j) ⟨j + 1, by omega, by omega, rfl, congrArg (Value.int .i64) (by omega), e8, e9, hfin⟩ (by omega)))
  · obtain rfl : j = 128 := by omega
    refine g_seq (g_seq (g_region ?_))
    repeat (first
      | refine g_op rfl rfl rfl (run_moveV rfl) ?_
      | refine g_op rfl rfl rfl (run_moveP rfl) ?_
      | refine g_op rfl rfl rfl (run_moveS rfl) ?_
      | refine g_op rfl rfl rfl (run_moveI rfl) ?_
      | refine g_op rfl rfl rfl (run_moveB rfl) ?_
      | refine g_op rfl rfl rfl (run_moveT rfl) ?_
      | refine g_op rfl rfl rfl (run_lssT rfl rfl (by omega)) ?_
      | refine g_op rfl rfl rfl (run_lssF rfl rfl (by omega)) ?_)
    refine g_nil (g_then (g_cond_false rfl (g_exit (g_texit (g_texit (g_out (g_then ?_)))))))
    intro a ha
    exact fill6 hT _ w rfl rfl rfl hw a ha
set_option maxHeartbeats 1000000 in
theorem fill4 (hT : Tab w0 g s0 t) (f : Nat → Value) (w : World) (h1 : f 1 = .pointer (some ⟨g, 0, none⟩)) (h8 : f 8 = V (fillS m 9).2.1) (h9 : f 9 = V (fillS m 9).2.2) (hw : Now w0 g (fillS m 9).1 w) :
    G 168 f fun a => (restOf 4 body7).wp Try.prog (bodyPost Try.prog Try.f7 (XkR w0 g (fillS m 521).1)) a w := by
  refine G.known (d := 9) h9 (G.known (d := 8) h8 (G.known (d := 1) h1 ?_))
  refine g_seq (g_seq (g_region ?_))
  repeat (first
    | refine g_op rfl rfl rfl (run_moveV rfl) ?_
    | refine g_op rfl rfl rfl (run_moveP rfl) ?_
    | refine g_op rfl rfl rfl (run_moveS rfl) ?_
    | refine g_op rfl rfl rfl (run_moveI rfl) ?_
    | refine g_op rfl rfl rfl (run_moveB rfl) ?_
    | refine g_op rfl rfl rfl (run_moveT rfl) ?_
    | refine g_op rfl rfl rfl (run_asgV rfl) ?_
    | refine g_op rfl rfl rfl (run_asgP rfl) ?_
    | refine g_op rfl rfl rfl (run_asgS rfl) ?_
    | refine g_op rfl rfl rfl (run_asgI rfl) ?_
    | refine g_op rfl rfl rfl (run_asgB rfl) ?_)
  refine g_nil (g_then (g_block ?_))
  refine g_loop (fun f w' μ => ∃ j : Nat, j ≤ 128 ∧ μ = 128 - j ∧ f 1 = .pointer (some ⟨g, 0, none⟩) ∧ f 11 = .int .i64 ((2 * j : Nat) : Int) ∧ f 8 = V (fillS m (9 + j)).2.1 ∧ f 9 = V (fillS m (9 + j)).2.2 ∧ Now w0 g (fillS m (9 + j)).1 w') 128
    ⟨0, by omega, by omega, rfl, rfl, rfl, rfl, hw⟩ ?_
  clear h1 h8 h9 hw f w
  rintro f w μ ⟨j, hj, rfl, h1, h11, h8, h9, hw⟩
  refine G.known (d := 9) h9 (G.known (d := 8) h8 (G.known (d := 11) h11 (G.known (d := 1) h1 ?_)))
  clear h1 h11 h8 h9
  have hTw := hw.tab hT
  by_cases hlt : j < 128
  · refine g_seq (g_seq (g_region ?_))
    repeat (first
      | refine g_op rfl rfl rfl (run_moveV rfl) ?_
      | refine g_op rfl rfl rfl (run_moveP rfl) ?_
      | refine g_op rfl rfl rfl (run_moveS rfl) ?_
      | refine g_op rfl rfl rfl (run_moveI rfl) ?_
      | refine g_op rfl rfl rfl (run_moveB rfl) ?_
      | refine g_op rfl rfl rfl (run_moveT rfl) ?_
      | refine g_op rfl rfl rfl (run_lssT rfl rfl (by omega)) ?_
      | refine g_op rfl rfl rfl (run_lssF rfl rfl (by omega)) ?_)
    refine g_nil (g_then (g_cond_true rfl (g_skip (g_then (g_seq (g_block (g_seq (g_region ?_))))))))
    repeat (first
      | refine g_op rfl rfl rfl (run_moveV rfl) ?_
      | refine g_op rfl rfl rfl (run_moveP rfl) ?_
      | refine g_op rfl rfl rfl (run_moveS rfl) ?_
      | refine g_op rfl rfl rfl (run_moveI rfl) ?_
      | refine g_op rfl rfl rfl (run_moveB rfl) ?_
      | refine g_op rfl rfl rfl (run_moveT rfl) ?_)
    refine g_callV rfl rfl rfl (run_enter3 (va := V (fillS m (9 + j)).2.1) (vb := V (fillS m (9 + j)).2.2) (vc := .pointer (some ⟨g, 0, none⟩)) Try.func12 nm12 rfl rfl rfl rfl) (enc_any g t _ _ _ _ hTw) ?_
    rintro _ ⟨n2, rfl⟩
    repeat (first
      | refine g_op rfl rfl rfl (run_moveV rfl) ?_
      | refine g_op rfl rfl rfl (run_moveP rfl) ?_
      | refine g_op rfl rfl rfl (run_moveS rfl) ?_
      | refine g_op rfl rfl rfl (run_moveI rfl) ?_
      | refine g_op rfl rfl rfl (run_moveB rfl) ?_
      | refine g_op rfl rfl rfl (run_moveT rfl) ?_
      | refine g_op rfl rfl rfl (run_ext rfl rfl) ?_
      | refine g_op rfl rfl rfl (run_asgV rfl) ?_
      | refine g_op rfl rfl rfl (run_asgP rfl) ?_
      | refine g_op rfl rfl rfl (run_asgS rfl) ?_
      | refine g_op rfl rfl rfl (run_asgI rfl) ?_
      | refine g_op rfl rfl rfl (run_asgB rfl) ?_)
    refine g_nil (g_then ?_)
    have hTn := hTw.drewN n2
    have hNn := hw.drewN n2
    obtain ⟨S, hS⟩ : ∃ S, S = (fillS m (9 + j)).1 := ⟨_, rfl⟩
    obtain ⟨q, hq⟩ : ∃ q, q = crypt (fillS m (9 + j)).1 (fillS m (9 + j)).2 := ⟨_, rfl⟩
    refine G.gen4 (d1 := 1) (d2 := 11) (d3 := 8) (d4 := 9) (v1 := .pointer (some ⟨g, 0, none⟩)) (v2 := .int .i64 ((2 * j : Nat) : Int)) (v3 := V q.1) (v4 := V q.2) rfl rfl (by rw [hq]; rfl) (by rw [hq]; rfl) ?_
    clear f
    intro f h1 h11 h8 h9
    rw [← hS] at hTn hNn
    refine G.known (d := 9) h9 (G.known (d := 8) h8 (G.known (d := 11) h11 (G.known (d := 1) h1 ?_)))
    refine a_region (by kernel_rfl) (n := 15) rfl ?_
    first
      | refine a_take 0 rfl rfl rfl rfl (by kernel_rfl) (by kernel_rfl) (by kernel_rfl) (fun _ _ _ h => h) (fun _ => run_moveV rfl) ?_
      | refine a_take 0 rfl rfl rfl rfl (by kernel_rfl) (by kernel_rfl) (by kernel_rfl) (fun _ _ _ h => h) (fun _ => run_moveP rfl) ?_
      | refine a_take 0 rfl rfl rfl rfl (by kernel_rfl) (by kernel_rfl) (by kernel_rfl) (fun _ _ _ h => h) (fun _ => run_moveI rfl) ?_
    first
      | refine a_take 1 rfl rfl rfl rfl (by kernel_rfl) (by kernel_rfl) (by kernel_rfl) (fun _ _ _ h => h) (fun _ => run_moveV rfl) ?_
      | refine a_take 1 rfl rfl rfl rfl (by kernel_rfl) (by kernel_rfl) (by kernel_rfl) (fun _ _ _ h => h) (fun _ => run_moveP rfl) ?_
      | refine a_take 1 rfl rfl rfl rfl (by kernel_rfl) (by kernel_rfl) (by kernel_rfl) (fun _ _ _ h => h) (fun _ => run_moveI rfl) ?_
    first
      | refine a_take 2 rfl rfl rfl rfl (by kernel_rfl) (by kernel_rfl) (by kernel_rfl) (fun _ _ _ h => h) (fun _ => run_moveV rfl) ?_
      | refine a_take 2 rfl rfl rfl rfl (by kernel_rfl) (by kernel_rfl) (by kernel_rfl) (fun _ _ _ h => h) (fun _ => run_moveP rfl) ?_
      | refine a_take 2 rfl rfl rfl rfl (by kernel_rfl) (by kernel_rfl) (by kernel_rfl) (fun _ _ _ h => h) (fun _ => run_moveI rfl) ?_
    first
      | refine a_take 3 rfl rfl rfl rfl (by kernel_rfl) (by kernel_rfl) (by kernel_rfl) (fun _ _ _ h => h) (fun _ => run_moveV rfl) ?_
      | refine a_take 3 rfl rfl rfl rfl (by kernel_rfl) (by kernel_rfl) (by kernel_rfl) (fun _ _ _ h => h) (fun _ => run_moveP rfl) ?_
      | refine a_take 3 rfl rfl rfl rfl (by kernel_rfl) (by kernel_rfl) (by kernel_rfl) (fun _ _ _ h => h) (fun _ => run_moveI rfl) ?_
    first
      | refine a_take 4 rfl rfl rfl rfl (by kernel_rfl) (by kernel_rfl) (by kernel_rfl) (fun _ _ _ h => h) (fun _ => run_addI rfl rfl (by omega) (by omega)) ?_
    first
      | refine a_take 5 rfl rfl rfl rfl (by kernel_rfl) (by kernel_rfl) (by kernel_rfl) (fun _ _ _ h => h) (fun _ => run_moveV rfl) ?_
      | refine a_take 5 rfl rfl rfl rfl (by kernel_rfl) (by kernel_rfl) (by kernel_rfl) (fun _ _ _ h => h) (fun _ => run_moveP rfl) ?_
      | refine a_take 5 rfl rfl rfl rfl (by kernel_rfl) (by kernel_rfl) (by kernel_rfl) (fun _ _ _ h => h) (fun _ => run_moveI rfl) ?_
    first
      | refine a_take 6 rfl rfl rfl rfl (by kernel_rfl) (by kernel_rfl) (by kernel_rfl) (fun _ _ _ h => h) (fun _ => run_moveV rfl) ?_
      | refine a_take 6 rfl rfl rfl rfl (by kernel_rfl) (by kernel_rfl) (by kernel_rfl) (fun _ _ _ h => h) (fun _ => run_moveP rfl) ?_
      | refine a_take 6 rfl rfl rfl rfl (by kernel_rfl) (by kernel_rfl) (by kernel_rfl) (fun _ _ _ h => h) (fun _ => run_moveI rfl) ?_
    first
      | refine a_take 7 rfl rfl rfl rfl (by kernel_rfl) (by kernel_rfl) (by kernel_rfl) (fun _ _ _ h => h) (fun _ => run_nil rfl) ?_
    first
      | refine a_take 8 rfl rfl rfl rfl (by kernel_rfl) (by kernel_rfl) (by kernel_rfl) (fun _ _ _ h => h) (fun _ => run_f44_1 rfl) ?_
    first
      | refine a_take 9 rfl rfl rfl rfl (by kernel_rfl) (by kernel_rfl) (by kernel_rfl) (fun _ _ _ h => h) (fun _ => run_i25 (n := 2 * j) rfl rfl (by omega)) ?_
    first
      | refine a_take 11 rfl rfl rfl rfl (by kernel_rfl) (by kernel_rfl) (by kernel_rfl) (fun _ _ _ h => h) (fun _ => run_nil rfl) ?_
    first
      | refine a_take 12 rfl rfl rfl rfl (by kernel_rfl) (by kernel_rfl) (by kernel_rfl) (fun _ _ _ h => h) (fun _ => run_f44_1 rfl) ?_
    refine a_store 10 rfl rfl rfl (by kernel_rfl) (run_store rfl rfl (hTn.drewN 1) (by omega)) ?_
    first
      | refine a_take 13 rfl rfl rfl rfl (by kernel_rfl) (by kernel_rfl) (by kernel_rfl) (fun _ _ _ h => h) (fun _ => run_i25 (n := 2 * j + 1) rfl rfl (by omega)) ?_
    refine a_store 14 rfl rfl rfl (by kernel_rfl) (run_store rfl rfl ((hTn.drewN 1).set _) (by omega)) ?_
    refine a_done (by kernel_rfl) ?_
    refine g_inb (g_then (g_region ?_))
    repeat (first
      | refine g_op rfl rfl rfl (run_moveV rfl) ?_
      | refine g_op rfl rfl rfl (run_moveP rfl) ?_
      | refine g_op rfl rfl rfl (run_moveS rfl) ?_
      | refine g_op rfl rfl rfl (run_moveI rfl) ?_
      | refine g_op rfl rfl rfl (run_moveB rfl) ?_
      | refine g_op rfl rfl rfl (run_moveT rfl) ?_
      | refine g_op rfl rfl rfl (run_asgV rfl) ?_
      | refine g_op rfl rfl rfl (run_asgP rfl) ?_
      | refine g_op rfl rfl rfl (run_asgS rfl) ?_
      | refine g_op rfl rfl rfl (run_asgI rfl) ?_
      | refine g_op rfl rfl rfl (run_asgB rfl) ?_
      | refine g_op rfl rfl rfl (run_addI rfl rfl (by omega) (by omega)) ?_)
    have hfin : Now w0 g (fillS m (9 + (j + 1))).1 ((((w.drewN n2).drewN 1).setRow g (row (setT S (18 + (2 * j)) q.1))).setRow g (row (setT (setT S (18 + (2 * j)) q.1) (18 + (2 * j + 1)) q.2))) := by
      have e : (fillS m (9 + (j + 1))).1 = setT (setT S (18 + (2 * j)) q.1) (18 + (2 * j + 1)) q.2 := by
        have e1 : 18 + (2 * j) = 2 * (9 + j) := by omega
        have e2 : 18 + (2 * j + 1) = 2 * (9 + j) + 1 := by omega
        rw [e2, e1, hS, hq]
        rfl
      rw [e]
      exact ((hNn.drewN 1).set _).set _
    have e8 : V q.1 = V (fillS m (9 + (j + 1))).2.1 := by rw [hq]; rfl
    have e9 : V q.2 = V (fillS m (9 + (j + 1))).2.2 := by rw [hq]; rfl
    exact g_nil (g_then (g_round (127 - j) ⟨j + 1, by omega, by omega, rfl, congrArg (Value.int .i64) (by omega), e8, e9, hfin⟩ (by omega)))
  · obtain rfl : j = 128 := by omega
    refine g_seq (g_seq (g_region ?_))
    repeat (first
      | refine g_op rfl rfl rfl (run_moveV rfl) ?_
      | refine g_op rfl rfl rfl (run_moveP rfl) ?_
      | refine g_op rfl rfl rfl (run_moveS rfl) ?_
      | refine g_op rfl rfl rfl (run_moveI rfl) ?_
      | refine g_op rfl rfl rfl (run_moveB rfl) ?_
      | refine g_op rfl rfl rfl (run_moveT rfl) ?_
      | refine g_op rfl rfl rfl (run_lssT rfl rfl (by omega)) ?_
      | refine g_op rfl rfl rfl (run_lssF rfl rfl (by omega)) ?_)
    refine g_nil (g_then (g_cond_false rfl (g_exit (g_texit (g_texit (g_out (g_then ?_)))))))
    intro a ha
    exact fill5 hT _ w rfl rfl rfl hw a ha
set_option maxHeartbeats 1000000 in
theorem fill3 (hT : Tab w0 g s0 t) (f : Nat → Value) (w : World) (h1 : f 1 = .pointer (some ⟨g, 0, none⟩)) (h8 : f 8 = V (fillS m 0).2.1) (h9 : f 9 = V (fillS m 0).2.2) (hw : Now w0 g (fillS m 0).1 w) :
    G 168 f fun a => (restOf 3 body7).wp Try.prog (bodyPost Try.prog Try.f7 (XkR w0 g (fillS m 521).1)) a w := by
  refine G.known (d := 9) h9 (G.known (d := 8) h8 (G.known (d := 1) h1 ?_))
  refine g_seq (g_seq (g_region ?_))
  repeat (first
    | refine g_op rfl rfl rfl (run_moveV rfl) ?_
    | refine g_op rfl rfl rfl (run_moveP rfl) ?_
    | refine g_op rfl rfl rfl (run_moveS rfl) ?_
    | refine g_op rfl rfl rfl (run_moveI rfl) ?_
    | refine g_op rfl rfl rfl (run_moveB rfl) ?_
    | refine g_op rfl rfl rfl (run_moveT rfl) ?_
    | refine g_op rfl rfl rfl (run_asgV rfl) ?_
    | refine g_op rfl rfl rfl (run_asgP rfl) ?_
    | refine g_op rfl rfl rfl (run_asgS rfl) ?_
    | refine g_op rfl rfl rfl (run_asgI rfl) ?_
    | refine g_op rfl rfl rfl (run_asgB rfl) ?_)
  refine g_nil (g_then (g_block ?_))
  refine g_loop (fun f w' μ => ∃ j : Nat, j ≤ 9 ∧ μ = 9 - j ∧ f 1 = .pointer (some ⟨g, 0, none⟩) ∧ f 10 = .int .i64 ((2 * j : Nat) : Int) ∧ f 8 = V (fillS m (0 + j)).2.1 ∧ f 9 = V (fillS m (0 + j)).2.2 ∧ Now w0 g (fillS m (0 + j)).1 w') 9
    ⟨0, by omega, by omega, rfl, rfl, rfl, rfl, hw⟩ ?_
  clear h1 h8 h9 hw f w
  rintro f w μ ⟨j, hj, rfl, h1, h10, h8, h9, hw⟩
  refine G.known (d := 9) h9 (G.known (d := 8) h8 (G.known (d := 10) h10 (G.known (d := 1) h1 ?_)))
  clear h1 h10 h8 h9
  have hTw := hw.tab hT
  by_cases hlt : j < 9
  · refine g_seq (g_seq (g_region ?_))
    repeat (first
      | refine g_op rfl rfl rfl (run_moveV rfl) ?_
      | refine g_op rfl rfl rfl (run_moveP rfl) ?_
      | refine g_op rfl rfl rfl (run_moveS rfl) ?_
      | refine g_op rfl rfl rfl (run_moveI rfl) ?_
      | refine g_op rfl rfl rfl (run_moveB rfl) ?_
      | refine g_op rfl rfl rfl (run_moveT rfl) ?_
      | refine g_op rfl rfl rfl (run_lssT rfl rfl (by omega)) ?_
      | refine g_op rfl rfl rfl (run_lssF rfl rfl (by omega)) ?_)
    refine g_nil (g_then (g_cond_true rfl (g_skip (g_then (g_seq (g_block (g_seq (g_region ?_))))))))
    repeat (first
      | refine g_op rfl rfl rfl (run_moveV rfl) ?_
      | refine g_op rfl rfl rfl (run_moveP rfl) ?_
      | refine g_op rfl rfl rfl (run_moveS rfl) ?_
      | refine g_op rfl rfl rfl (run_moveI rfl) ?_
      | refine g_op rfl rfl rfl (run_moveB rfl) ?_
      | refine g_op rfl rfl rfl (run_moveT rfl) ?_)
    refine g_callV rfl rfl rfl (run_enter3 (va := V (fillS m (0 + j)).2.1) (vb := V (fillS m (0 + j)).2.2) (vc := .pointer (some ⟨g, 0, none⟩)) Try.func12 nm12 rfl rfl rfl rfl) (enc_any g t _ _ _ _ hTw) ?_
    rintro _ ⟨n2, rfl⟩
    repeat (first
      | refine g_op rfl rfl rfl (run_moveV rfl) ?_
      | refine g_op rfl rfl rfl (run_moveP rfl) ?_
      | refine g_op rfl rfl rfl (run_moveS rfl) ?_
      | refine g_op rfl rfl rfl (run_moveI rfl) ?_
      | refine g_op rfl rfl rfl (run_moveB rfl) ?_
      | refine g_op rfl rfl rfl (run_moveT rfl) ?_
      | refine g_op rfl rfl rfl (run_ext rfl rfl) ?_
      | refine g_op rfl rfl rfl (run_asgV rfl) ?_
      | refine g_op rfl rfl rfl (run_asgP rfl) ?_
      | refine g_op rfl rfl rfl (run_asgS rfl) ?_
      | refine g_op rfl rfl rfl (run_asgI rfl) ?_
      | refine g_op rfl rfl rfl (run_asgB rfl) ?_)
    refine g_nil (g_then ?_)
    have hTn := hTw.drewN n2
    have hNn := hw.drewN n2
    obtain ⟨S, hS⟩ : ∃ S, S = (fillS m (0 + j)).1 := ⟨_, rfl⟩
    obtain ⟨q, hq⟩ : ∃ q, q = crypt (fillS m (0 + j)).1 (fillS m (0 + j)).2 := ⟨_, rfl⟩
    refine G.gen4 (d1 := 1) (d2 := 10) (d3 := 8) (d4 := 9) (v1 := .pointer (some ⟨g, 0, none⟩)) (v2 := .int .i64 ((2 * j : Nat) : Int)) (v3 := V q.1) (v4 := V q.2) rfl rfl (by rw [hq]; rfl) (by rw [hq]; rfl) ?_
    clear f
    intro f h1 h10 h8 h9
    rw [← hS] at hTn hNn
    refine G.known (d := 9) h9 (G.known (d := 8) h8 (G.known (d := 10) h10 (G.known (d := 1) h1 ?_)))
    refine a_region (by kernel_rfl) (n := 15) rfl ?_
    first
      | refine a_take 0 rfl rfl rfl rfl (by kernel_rfl) (by kernel_rfl) (by kernel_rfl) (fun _ _ _ h => h) (fun _ => run_moveV rfl) ?_
      | refine a_take 0 rfl rfl rfl rfl (by kernel_rfl) (by kernel_rfl) (by kernel_rfl) (fun _ _ _ h => h) (fun _ => run_moveP rfl) ?_
      | refine a_take 0 rfl rfl rfl rfl (by kernel_rfl) (by kernel_rfl) (by kernel_rfl) (fun _ _ _ h => h) (fun _ => run_moveI rfl) ?_
    first
      | refine a_take 1 rfl rfl rfl rfl (by kernel_rfl) (by kernel_rfl) (by kernel_rfl) (fun _ _ _ h => h) (fun _ => run_moveV rfl) ?_
      | refine a_take 1 rfl rfl rfl rfl (by kernel_rfl) (by kernel_rfl) (by kernel_rfl) (fun _ _ _ h => h) (fun _ => run_moveP rfl) ?_
      | refine a_take 1 rfl rfl rfl rfl (by kernel_rfl) (by kernel_rfl) (by kernel_rfl) (fun _ _ _ h => h) (fun _ => run_moveI rfl) ?_
    first
      | refine a_take 2 rfl rfl rfl rfl (by kernel_rfl) (by kernel_rfl) (by kernel_rfl) (fun _ _ _ h => h) (fun _ => run_moveV rfl) ?_
      | refine a_take 2 rfl rfl rfl rfl (by kernel_rfl) (by kernel_rfl) (by kernel_rfl) (fun _ _ _ h => h) (fun _ => run_moveP rfl) ?_
      | refine a_take 2 rfl rfl rfl rfl (by kernel_rfl) (by kernel_rfl) (by kernel_rfl) (fun _ _ _ h => h) (fun _ => run_moveI rfl) ?_
    first
      | refine a_take 3 rfl rfl rfl rfl (by kernel_rfl) (by kernel_rfl) (by kernel_rfl) (fun _ _ _ h => h) (fun _ => run_moveV rfl) ?_
      | refine a_take 3 rfl rfl rfl rfl (by kernel_rfl) (by kernel_rfl) (by kernel_rfl) (fun _ _ _ h => h) (fun _ => run_moveP rfl) ?_
      | refine a_take 3 rfl rfl rfl rfl (by kernel_rfl) (by kernel_rfl) (by kernel_rfl) (fun _ _ _ h => h) (fun _ => run_moveI rfl) ?_
    first
      | refine a_take 4 rfl rfl rfl rfl (by kernel_rfl) (by kernel_rfl) (by kernel_rfl) (fun _ _ _ h => h) (fun _ => run_addI rfl rfl (by omega) (by omega)) ?_
    first
      | refine a_take 5 rfl rfl rfl rfl (by kernel_rfl) (by kernel_rfl) (by kernel_rfl) (fun _ _ _ h => h) (fun _ => run_moveV rfl) ?_
      | refine a_take 5 rfl rfl rfl rfl (by kernel_rfl) (by kernel_rfl) (by kernel_rfl) (fun _ _ _ h => h) (fun _ => run_moveP rfl) ?_
      | refine a_take 5 rfl rfl rfl rfl (by kernel_rfl) (by kernel_rfl) (by kernel_rfl) (fun _ _ _ h => h) (fun _ => run_moveI rfl) ?_
    first
      | refine a_take 6 rfl rfl rfl rfl (by kernel_rfl) (by kernel_rfl) (by kernel_rfl) (fun _ _ _ h => h) (fun _ => run_moveV rfl) ?_
      | refine a_take 6 rfl rfl rfl rfl (by kernel_rfl) (by kernel_rfl) (by kernel_rfl) (fun _ _ _ h => h) (fun _ => run_moveP rfl) ?_
      | refine a_take 6 rfl rfl rfl rfl (by kernel_rfl) (by kernel_rfl) (by kernel_rfl) (fun _ _ _ h => h) (fun _ => run_moveI rfl) ?_
    first
      | refine a_take 7 rfl rfl rfl rfl (by kernel_rfl) (by kernel_rfl) (by kernel_rfl) (fun _ _ _ h => h) (fun _ => run_nil rfl) ?_
    first
      | refine a_take 8 rfl rfl rfl rfl (by kernel_rfl) (by kernel_rfl) (by kernel_rfl) (fun _ _ _ h => h) (fun _ => run_f44_0 rfl) ?_
    first
      | refine a_take 9 rfl rfl rfl rfl (by kernel_rfl) (by kernel_rfl) (by kernel_rfl) (fun _ _ _ h => h) (fun _ => run_i24z (n := 2 * j) rfl rfl (by omega)) ?_
    first
      | refine a_take 11 rfl rfl rfl rfl (by kernel_rfl) (by kernel_rfl) (by kernel_rfl) (fun _ _ _ h => h) (fun _ => run_nil rfl) ?_
    first
      | refine a_take 12 rfl rfl rfl rfl (by kernel_rfl) (by kernel_rfl) (by kernel_rfl) (fun _ _ _ h => h) (fun _ => run_f44_0 rfl) ?_
    refine a_store 10 rfl rfl rfl (by kernel_rfl) (run_store rfl rfl (hTn.drewN 1) (by omega)) ?_
    first
      | refine a_take 13 rfl rfl rfl rfl (by kernel_rfl) (by kernel_rfl) (by kernel_rfl) (fun _ _ _ h => h) (fun _ => run_i24z (n := 2 * j + 1) rfl rfl (by omega)) ?_
    refine a_store 14 rfl rfl rfl (by kernel_rfl) (run_store rfl rfl ((hTn.drewN 1).set _) (by omega)) ?_
    refine a_done (by kernel_rfl) ?_
    refine g_inb (g_then (g_region ?_))
    repeat (first
      | refine g_op rfl rfl rfl (run_moveV rfl) ?_
      | refine g_op rfl rfl rfl (run_moveP rfl) ?_
      | refine g_op rfl rfl rfl (run_moveS rfl) ?_
      | refine g_op rfl rfl rfl (run_moveI rfl) ?_
      | refine g_op rfl rfl rfl (run_moveB rfl) ?_
      | refine g_op rfl rfl rfl (run_moveT rfl) ?_
      | refine g_op rfl rfl rfl (run_asgV rfl) ?_
      | refine g_op rfl rfl rfl (run_asgP rfl) ?_
      | refine g_op rfl rfl rfl (run_asgS rfl) ?_
      | refine g_op rfl rfl rfl (run_asgI rfl) ?_
      | refine g_op rfl rfl rfl (run_asgB rfl) ?_
      | refine g_op rfl rfl rfl (run_addI rfl rfl (by omega) (by omega)) ?_)
    have hfin : Now w0 g (fillS m (0 + (j + 1))).1 ((((w.drewN n2).drewN 1).setRow g (row (setT S (2 * j) q.1))).setRow g (row (setT (setT S (2 * j) q.1) (2 * j + 1) q.2))) := by
      have e : (fillS m (0 + (j + 1))).1 = setT (setT S (2 * j) q.1) (2 * j + 1) q.2 := by
        have e1 : 2 * j = 2 * (0 + j) := by omega
        have e2 : 2 * j + 1 = 2 * (0 + j) + 1 := by omega
        rw [e2, e1, hS, hq]
        rfl
      rw [e]
      exact ((hNn.drewN 1).set _).set _
    have e8 : V q.1 = V (fillS m (0 + (j + 1))).2.1 := by rw [hq]; rfl
    have e9 : V q.2 = V (fillS m (0 + (j + 1))).2.2 := by rw [hq]; rfl
    exact g_nil (g_then (g_round (8 - j) ⟨j + 1, by omega, by omega, rfl, congrArg (Value.int .i64) (by omega), e8, e9, hfin⟩ (by omega)))
  · obtain rfl : j = 9 := by omega
    refine g_seq (g_seq (g_region ?_))
    repeat (first
      | refine g_op rfl rfl rfl (run_moveV rfl) ?_
      | refine g_op rfl rfl rfl (run_moveP rfl) ?_
      | refine g_op rfl rfl rfl (run_moveS rfl) ?_
      | refine g_op rfl rfl rfl (run_moveI rfl) ?_
      | refine g_op rfl rfl rfl (run_moveB rfl) ?_
      | refine g_op rfl rfl rfl (run_moveT rfl) ?_
      | refine g_op rfl rfl rfl (run_lssT rfl rfl (by omega)) ?_
      | refine g_op rfl rfl rfl (run_lssF rfl rfl (by omega)) ?_)
    refine g_nil (g_then (g_cond_false rfl (g_exit (g_texit (g_texit (g_out (g_then ?_)))))))
    intro a ha
    exact fill4 hT _ w rfl rfl rfl hw a ha
end
end Go.Proofs.Ytolkgekbnbgodaa
