/- The package's own function of a block: encryptBlock. -/
import Derived.Test.YtolkgekbnbgodaaCrypt
namespace Go.Proofs.Ytolkgekbnbgodaa
open Go
def F8 (s : Tbl) (x : BitVec 32) : BitVec 32 :=
  ((s (18 + (x >>> 24).toNat % 256) + s (274 + (x >>> 16).toNat % 256)) ^^^ s (530 + (x >>> 8).toNat % 256)) + s (786 + x.toNat % 256)
theorem F8_eq (s : Tbl) (x : BitVec 32) : F8 s x = F s x := by
  rw [F8, F, Nat.mod_eq_of_lt (shr24_lt x)]
/-- The numbers that the package's own function goes through: the newest and the one before. -/
def ex (s : Tbl) (l r : BitVec 32) : Nat → BitVec 32 × BitVec 32
  | 0 => (l ^^^ s 0, r)
  | i + 1 => ((ex s l r i).2 ^^^ (F8 s (ex s l r i).1 ^^^ s (i + 1)), (ex s l r i).1)
theorem ex_cr (s : Tbl) (l r : BitVec 32) : ∀ i, ex s l r i = ((cr s l r i).1 ^^^ s i, (cr s l r i).2)
  | 0 => rfl
  | i + 1 => by
    rw [ex, F8_eq, ex_cr s l r i, cr]
    simp only [BitVec.xor_assoc]
theorem mod256 (x : BitVec 32) : x.toNat % 256 < 256 := by omega

/-- What stands behind so many steps of a function's code. -/
def restOf : Nat → Code → Code
  | 0, c => c
  | k + 1, .seq _ b => restOf k b
  | _ + 1, c => c
noncomputable def body12 : Code := Try.f12.body.getD .skip
def EncR (s : Tbl) (l r : BitVec 32) (w : World) (e : Ending) (w' : World) : Prop := e = .returned (.tuple #[V (crypt s (l, r)).1, V (crypt s (l, r)).2]) ∧ ∃ n, w' = w.drewN n

section
variable {g : Nat} {t : TypeId} {s : Tbl} {l r : BitVec 32} {w : World}
theorem tail16 (hT : Tab w g s t) (n : Nat) (f : Nat → Value) (h2 : f 2 = .pointer (some ⟨g, 0, none⟩)) (h8 : f 8 = V (ex s l r 16).1) (h9 : f 9 = V (ex s l r 16).2) :
    G 700 f fun a => (restOf 19 body12).wp Try.prog (bodyPost Try.prog Try.f12 (EncR s l r w)) a (w.drewN n) := by
  refine G.known (d := 9) h9 (G.known (d := 8) h8 (G.known (d := 2) h2 ?_))
  have hT' : Tab (w.drewN n) g s t := hT.drewN n
  refine g_seq (g_region ?_)
  repeat (first
    | refine g_op rfl rfl rfl (run_moveV rfl) ?_
    | refine g_op rfl rfl rfl (run_moveP rfl) ?_
    | refine g_op rfl rfl rfl (run_moveS rfl) ?_
    | refine g_op rfl rfl rfl (run_moveI rfl) ?_
    | refine g_op rfl rfl rfl (run_moveB rfl) ?_
    | refine g_op rfl rfl rfl (run_moveT rfl) ?_
    | refine g_op rfl rfl rfl (run_asgV rfl) ?_
    | refine g_op rfl rfl rfl (run_asgP rfl) ?_
    | refine g_op rfl rfl rfl (run_asgS rfl) ?_
    | refine g_op rfl rfl rfl (run_asgI rfl) ?_
    | refine g_op rfl rfl rfl (run_asgB rfl) ?_
    | refine g_op rfl rfl rfl (run_xor rfl rfl) ?_
    | refine g_op rfl rfl rfl (run_add rfl rfl) ?_
    | refine g_op rfl rfl rfl (run_or rfl rfl) ?_
    | refine g_op rfl rfl rfl (run_and255 rfl rfl) ?_
    | refine g_op rfl rfl rfl (run_shr24 rfl rfl) ?_
    | refine g_op rfl rfl rfl (run_shr16 rfl rfl) ?_
    | refine g_op rfl rfl rfl (run_shr8 rfl rfl) ?_
    | refine g_op rfl rfl rfl (run_shl8 rfl rfl) ?_
    | refine g_op rfl rfl rfl (run_conv8 rfl) ?_
    | refine g_op rfl rfl rfl (run_nil rfl) ?_
    | refine g_op rfl rfl rfl (run_f28_0 rfl) ?_
    | refine g_op rfl rfl rfl (run_f28_1 rfl) ?_
    | refine g_op rfl rfl rfl (run_f44_0 rfl) ?_
    | refine g_op rfl rfl rfl (run_f44_1 rfl) ?_
    | refine g_op rfl rfl rfl (run_f44_2 rfl) ?_
    | refine g_op rfl rfl rfl (run_f44_3 rfl) ?_
    | refine g_op rfl rfl rfl (run_f44_4 rfl) ?_
    | refine g_op rfl rfl rfl (run_i24c rfl rfl (by decide) (by decide)) ?_
    | refine g_op rfl rfl rfl (run_load rfl hT' (by decide)) ?_)
  refine g_nil (g_then (g_seq (g_region ?_)))
  repeat (first
    | refine g_op rfl rfl rfl (run_moveV rfl) ?_
    | refine g_op rfl rfl rfl (run_moveP rfl) ?_
    | refine g_op rfl rfl rfl (run_moveS rfl) ?_
    | refine g_op rfl rfl rfl (run_moveI rfl) ?_
    | refine g_op rfl rfl rfl (run_moveB rfl) ?_
    | refine g_op rfl rfl rfl (run_moveT rfl) ?_
    | refine g_op rfl rfl rfl (run_asgV rfl) ?_
    | refine g_op rfl rfl rfl (run_asgP rfl) ?_
    | refine g_op rfl rfl rfl (run_asgS rfl) ?_
    | refine g_op rfl rfl rfl (run_asgI rfl) ?_
    | refine g_op rfl rfl rfl (run_asgB rfl) ?_)
  refine g_nil (g_then (g_ret (g_ret2 rfl (v := V ((ex s l r 16).2 ^^^ s 17)) (v2 := V (ex s l r 16).1) rfl rfl ⟨?_, n, rfl⟩)))
  rw [ex_cr]
  rfl
set_option maxHeartbeats 1000000 in
theorem tail15 (hT : Tab w g s t) (n : Nat) (f : Nat → Value) (h2 : f 2 = .pointer (some ⟨g, 0, none⟩)) (h8 : f 8 = V (ex s l r 15).2) (h9 : f 9 = V (ex s l r 15).1) :
    G 700 f fun a => (restOf 18 body12).wp Try.prog (bodyPost Try.prog Try.f12 (EncR s l r w)) a (w.drewN n) := by
  have hC : ∀ w', (∃ n', w' = (w.drewN n).drewN n') → Tab w' g s t := by rintro w' ⟨n', rfl⟩; exact hT
  refine G.known (d := 9) h9 (G.known (d := 8) h8 (G.known (d := 2) h2 ?_))
  clear h9 h8 h2
  refine g_seq (q_region (by kernel_rfl) (by kernel_rfl) ?_)
  repeat (first
    | refine q_op rfl rfl rfl (fun w hw => run_moveV rfl) ?_
    | refine q_op rfl rfl rfl (fun w hw => run_moveP rfl) ?_
    | refine q_op rfl rfl rfl (fun w hw => run_moveS rfl) ?_
    | refine q_op rfl rfl rfl (fun w hw => run_moveI rfl) ?_
    | refine q_op rfl rfl rfl (fun w hw => run_moveB rfl) ?_
    | refine q_op rfl rfl rfl (fun w hw => run_moveT rfl) ?_
    | refine q_op rfl rfl rfl (fun w hw => run_asgV rfl) ?_
    | refine q_op rfl rfl rfl (fun w hw => run_asgP rfl) ?_
    | refine q_op rfl rfl rfl (fun w hw => run_asgS rfl) ?_
    | refine q_op rfl rfl rfl (fun w hw => run_asgI rfl) ?_
    | refine q_op rfl rfl rfl (fun w hw => run_asgB rfl) ?_
    | refine q_op rfl rfl rfl (fun w hw => run_xor rfl rfl) ?_
    | refine q_op rfl rfl rfl (fun w hw => run_add rfl rfl) ?_
    | refine q_op rfl rfl rfl (fun w hw => run_or rfl rfl) ?_
    | refine q_op rfl rfl rfl (fun w hw => run_and255 rfl rfl) ?_
    | refine q_op rfl rfl rfl (fun w hw => run_shr24 rfl rfl) ?_
    | refine q_op rfl rfl rfl (fun w hw => run_shr16 rfl rfl) ?_
    | refine q_op rfl rfl rfl (fun w hw => run_shr8 rfl rfl) ?_
    | refine q_op rfl rfl rfl (fun w hw => run_shl8 rfl rfl) ?_
    | refine q_op rfl rfl rfl (fun w hw => run_conv8 rfl) ?_
    | refine q_op rfl rfl rfl (fun w hw => run_nil rfl) ?_
    | refine q_op rfl rfl rfl (fun w hw => run_f28_0 rfl) ?_
    | refine q_op rfl rfl rfl (fun w hw => run_f28_1 rfl) ?_
    | refine q_op rfl rfl rfl (fun w hw => run_f44_0 rfl) ?_
    | refine q_op rfl rfl rfl (fun w hw => run_f44_1 rfl) ?_
    | refine q_op rfl rfl rfl (fun w hw => run_f44_2 rfl) ?_
    | refine q_op rfl rfl rfl (fun w hw => run_f44_3 rfl) ?_
    | refine q_op rfl rfl rfl (fun w hw => run_f44_4 rfl) ?_
    | refine q_op rfl rfl rfl (fun w hw => run_i24c rfl rfl (by decide) (by decide)) ?_
    | refine q_op rfl rfl rfl (fun w hw => run_i25 rfl rfl (mod256 _)) ?_
    | refine q_op rfl rfl rfl (fun w hw => run_load rfl (hC w hw) (by omega)) ?_)
  refine q_nil (g_all fun n' => g_then ?_)
  refine G.gen3 (d1 := 2) (d2 := 8) (d3 := 9) (v1 := .pointer (some ⟨g, 0, none⟩)) (v2 := V (ex s l r 16).1) (v3 := V (ex s l r 16).2) rfl rfl rfl ?_
  intro f h2 h8 h9
  rw [World.drewN_drewN]
  exact tail16 hT (n + n') f h2 h8 h9
set_option maxHeartbeats 1000000 in
theorem tail14 (hT : Tab w g s t) (n : Nat) (f : Nat → Value) (h2 : f 2 = .pointer (some ⟨g, 0, none⟩)) (h8 : f 8 = V (ex s l r 14).1) (h9 : f 9 = V (ex s l r 14).2) :
    G 700 f fun a => (restOf 17 body12).wp Try.prog (bodyPost Try.prog Try.f12 (EncR s l r w)) a (w.drewN n) := by
  have hC : ∀ w', (∃ n', w' = (w.drewN n).drewN n') → Tab w' g s t := by rintro w' ⟨n', rfl⟩; exact hT
  refine G.known (d := 9) h9 (G.known (d := 8) h8 (G.known (d := 2) h2 ?_))
  clear h9 h8 h2
  refine g_seq (q_region (by kernel_rfl) (by kernel_rfl) ?_)
  repeat (first
    | refine q_op rfl rfl rfl (fun w hw => run_moveV rfl) ?_
    | refine q_op rfl rfl rfl (fun w hw => run_moveP rfl) ?_
    | refine q_op rfl rfl rfl (fun w hw => run_moveS rfl) ?_
    | refine q_op rfl rfl rfl (fun w hw => run_moveI rfl) ?_
    | refine q_op rfl rfl rfl (fun w hw => run_moveB rfl) ?_
    | refine q_op rfl rfl rfl (fun w hw => run_moveT rfl) ?_
    | refine q_op rfl rfl rfl (fun w hw => run_asgV rfl) ?_
    | refine q_op rfl rfl rfl (fun w hw => run_asgP rfl) ?_
    | refine q_op rfl rfl rfl (fun w hw => run_asgS rfl) ?_
    | refine q_op rfl rfl rfl (fun w hw => run_asgI rfl) ?_
    | refine q_op rfl rfl rfl (fun w hw => run_asgB rfl) ?_
    | refine q_op rfl rfl rfl (fun w hw => run_xor rfl rfl) ?_
    | refine q_op rfl rfl rfl (fun w hw => run_add rfl rfl) ?_
    | refine q_op rfl rfl rfl (fun w hw => run_or rfl rfl) ?_
    | refine q_op rfl rfl rfl (fun w hw => run_and255 rfl rfl) ?_
    | refine q_op rfl rfl rfl (fun w hw => run_shr24 rfl rfl) ?_
    | refine q_op rfl rfl rfl (fun w hw => run_shr16 rfl rfl) ?_
    | refine q_op rfl rfl rfl (fun w hw => run_shr8 rfl rfl) ?_
    | refine q_op rfl rfl rfl (fun w hw => run_shl8 rfl rfl) ?_
    | refine q_op rfl rfl rfl (fun w hw => run_conv8 rfl) ?_
    | refine q_op rfl rfl rfl (fun w hw => run_nil rfl) ?_
    | refine q_op rfl rfl rfl (fun w hw => run_f28_0 rfl) ?_
    | refine q_op rfl rfl rfl (fun w hw => run_f28_1 rfl) ?_
    | refine q_op rfl rfl rfl (fun w hw => run_f44_0 rfl) ?_
    | refine q_op rfl rfl rfl (fun w hw => run_f44_1 rfl) ?_
    | refine q_op rfl rfl rfl (fun w hw => run_f44_2 rfl) ?_
    | refine q_op rfl rfl rfl (fun w hw => run_f44_3 rfl) ?_
    | refine q_op rfl rfl rfl (fun w hw => run_f44_4 rfl) ?_
    | refine q_op rfl rfl rfl (fun w hw => run_i24c rfl rfl (by decide) (by decide)) ?_
    | refine q_op rfl rfl rfl (fun w hw => run_i25 rfl rfl (mod256 _)) ?_
    | refine q_op rfl rfl rfl (fun w hw => run_load rfl (hC w hw) (by omega)) ?_)
  refine q_nil (g_all fun n' => g_then ?_)
  refine G.gen3 (d1 := 2) (d2 := 8) (d3 := 9) (v1 := .pointer (some ⟨g, 0, none⟩)) (v2 := V (ex s l r 15).2) (v3 := V (ex s l r 15).1) rfl rfl rfl ?_
  intro f h2 h8 h9
  rw [World.drewN_drewN]
  exact tail15 hT (n + n') f h2 h8 h9
set_option maxHeartbeats 1000000 in
theorem tail13 (hT : Tab w g s t) (n : Nat) (f : Nat → Value) (h2 : f 2 = .pointer (some ⟨g, 0, none⟩)) (h8 : f 8 = V (ex s l r 13).2) (h9 : f 9 = V (ex s l r 13).1) :
    G 700 f fun a => (restOf 16 body12).wp Try.prog (bodyPost Try.prog Try.f12 (EncR s l r w)) a (w.drewN n) := by
  have hC : ∀ w', (∃ n', w' = (w.drewN n).drewN n') → Tab w' g s t := by rintro w' ⟨n', rfl⟩; exact hT
  refine G.known (d := 9) h9 (G.known (d := 8) h8 (G.known (d := 2) h2 ?_))
  clear h9 h8 h2
  refine g_seq (q_region (by kernel_rfl) (by kernel_rfl) ?_)
  repeat (first
    | refine q_op rfl rfl rfl (fun w hw => run_moveV rfl) ?_
    | refine q_op rfl rfl rfl (fun w hw => run_moveP rfl) ?_
    | refine q_op rfl rfl rfl (fun w hw => run_moveS rfl) ?_
    | refine q_op rfl rfl rfl (fun w hw => run_moveI rfl) ?_
    | refine q_op rfl rfl rfl (fun w hw => run_moveB rfl) ?_
    | refine q_op rfl rfl rfl (fun w hw => run_moveT rfl) ?_
    | refine q_op rfl rfl rfl (fun w hw => run_asgV rfl) ?_
    | refine q_op rfl rfl rfl (fun w hw => run_asgP rfl) ?_
    | refine q_op rfl rfl rfl (fun w hw => run_asgS rfl) ?_
    | refine q_op rfl rfl rfl (fun w hw => run_asgI rfl) ?_
    | refine q_op rfl rfl rfl (fun w hw => run_asgB rfl) ?_
    | refine q_op rfl rfl rfl (fun w hw => run_xor rfl rfl) ?_
    | refine q_op rfl rfl rfl (fun w hw => run_add rfl rfl) ?_
    | refine q_op rfl rfl rfl (fun w hw => run_or rfl rfl) ?_
    | refine q_op rfl rfl rfl (fun w hw => run_and255 rfl rfl) ?_
    | refine q_op rfl rfl rfl (fun w hw => run_shr24 rfl rfl) ?_
    | refine q_op rfl rfl rfl (fun w hw => run_shr16 rfl rfl) ?_
    | refine q_op rfl rfl rfl (fun w hw => run_shr8 rfl rfl) ?_
    | refine q_op rfl rfl rfl (fun w hw => run_shl8 rfl rfl) ?_
    | refine q_op rfl rfl rfl (fun w hw => run_conv8 rfl) ?_
    | refine q_op rfl rfl rfl (fun w hw => run_nil rfl) ?_
    | refine q_op rfl rfl rfl (fun w hw => run_f28_0 rfl) ?_
    | refine q_op rfl rfl rfl (fun w hw => run_f28_1 rfl) ?_
    | refine q_op rfl rfl rfl (fun w hw => run_f44_0 rfl) ?_
    | refine q_op rfl rfl rfl (fun w hw => run_f44_1 rfl) ?_
    | refine q_op rfl rfl rfl (fun w hw => run_f44_2 rfl) ?_
    | refine q_op rfl rfl rfl (fun w hw => run_f44_3 rfl) ?_
    | refine q_op rfl rfl rfl (fun w hw => run_f44_4 rfl) ?_
    | refine q_op rfl rfl rfl (fun w hw => run_i24c rfl rfl (by decide) (by decide)) ?_
    | refine q_op rfl rfl rfl (fun w hw => run_i25 rfl rfl (mod256 _)) ?_
    | refine q_op rfl rfl rfl (fun w hw => run_load rfl (hC w hw) (by omega)) ?_)
  refine q_nil (g_all fun n' => g_then ?_)
  refine G.gen3 (d1 := 2) (d2 := 8) (d3 := 9) (v1 := .pointer (some ⟨g, 0, none⟩)) (v2 := V (ex s l r 14).1) (v3 := V (ex s l r 14).2) rfl rfl rfl ?_
  intro f h2 h8 h9
  rw [World.drewN_drewN]
  exact tail14 hT (n + n') f h2 h8 h9
set_option maxHeartbeats 1000000 in
theorem tail12 (hT : Tab w g s t) (n : Nat) (f : Nat → Value) (h2 : f 2 = .pointer (some ⟨g, 0, none⟩)) (h8 : f 8 = V (ex s l r 12).1) (h9 : f 9 = V (ex s l r 12).2) :
    G 700 f fun a => (restOf 15 body12).wp Try.prog (bodyPost Try.prog Try.f12 (EncR s l r w)) a (w.drewN n) := by
  have hC : ∀ w', (∃ n', w' = (w.drewN n).drewN n') → Tab w' g s t := by rintro w' ⟨n', rfl⟩; exact hT
  refine G.known (d := 9) h9 (G.known (d := 8) h8 (G.known (d := 2) h2 ?_))
  clear h9 h8 h2
  refine g_seq (q_region (by kernel_rfl) (by kernel_rfl) ?_)
  repeat (first
    | refine q_op rfl rfl rfl (fun w hw => run_moveV rfl) ?_
    | refine q_op rfl rfl rfl (fun w hw => run_moveP rfl) ?_
    | refine q_op rfl rfl rfl (fun w hw => run_moveS rfl) ?_
    | refine q_op rfl rfl rfl (fun w hw => run_moveI rfl) ?_
    | refine q_op rfl rfl rfl (fun w hw => run_moveB rfl) ?_
    | refine q_op rfl rfl rfl (fun w hw => run_moveT rfl) ?_
    | refine q_op rfl rfl rfl (fun w hw => run_asgV rfl) ?_
    | refine q_op rfl rfl rfl (fun w hw => run_asgP rfl) ?_
    | refine q_op rfl rfl rfl (fun w hw => run_asgS rfl) ?_
    | refine q_op rfl rfl rfl (fun w hw => run_asgI rfl) ?_
    | refine q_op rfl rfl rfl (fun w hw => run_asgB rfl) ?_
    | refine q_op rfl rfl rfl (fun w hw => run_xor rfl rfl) ?_
    | refine q_op rfl rfl rfl (fun w hw => run_add rfl rfl) ?_
    | refine q_op rfl rfl rfl (fun w hw => run_or rfl rfl) ?_
    | refine q_op rfl rfl rfl (fun w hw => run_and255 rfl rfl) ?_
    | refine q_op rfl rfl rfl (fun w hw => run_shr24 rfl rfl) ?_
    | refine q_op rfl rfl rfl (fun w hw => run_shr16 rfl rfl) ?_
    | refine q_op rfl rfl rfl (fun w hw => run_shr8 rfl rfl) ?_
    | refine q_op rfl rfl rfl (fun w hw => run_shl8 rfl rfl) ?_
    | refine q_op rfl rfl rfl (fun w hw => run_conv8 rfl) ?_
    | refine q_op rfl rfl rfl (fun w hw => run_nil rfl) ?_
    | refine q_op rfl rfl rfl (fun w hw => run_f28_0 rfl) ?_
    | refine q_op rfl rfl rfl (fun w hw => run_f28_1 rfl) ?_
    | refine q_op rfl rfl rfl (fun w hw => run_f44_0 rfl) ?_
    | refine q_op rfl rfl rfl (fun w hw => run_f44_1 rfl) ?_
    | refine q_op rfl rfl rfl (fun w hw => run_f44_2 rfl) ?_
    | refine q_op rfl rfl rfl (fun w hw => run_f44_3 rfl) ?_
    | refine q_op rfl rfl rfl (fun w hw => run_f44_4 rfl) ?_
    | refine q_op rfl rfl rfl (fun w hw => run_i24c rfl rfl (by decide) (by decide)) ?_
    | refine q_op rfl rfl rfl (fun w hw => run_i25 rfl rfl (mod256 _)) ?_
    | refine q_op rfl rfl rfl (fun w hw => run_load rfl (hC w hw) (by omega)) ?_)
  refine q_nil (g_all fun n' => g_then ?_)
  refine G.gen3 (d1 := 2) (d2 := 8) (d3 := 9) (v1 := .pointer (some ⟨g, 0, none⟩)) (v2 := V (ex s l r 13).2) (v3 := V (ex s l r 13).1) rfl rfl rfl ?_
  intro f h2 h8 h9
  rw [World.drewN_drewN]
  exact tail13 hT (n + n') f h2 h8 h9
set_option maxHeartbeats 1000000 in
theorem tail11 (hT : Tab w g s t) (n : Nat) (f : Nat → Value) (h2 : f 2 = .pointer (some ⟨g, 0, none⟩)) (h8 : f 8 = V (ex s l r 11).2) (h9 : f 9 = V (ex s l r 11).1) :
    G 700 f fun a => (restOf 14 body12).wp Try.prog (bodyPost Try.prog Try.f12 (EncR s l r w)) a (w.drewN n) := by
  have hC : ∀ w', (∃ n', w' = (w.drewN n).drewN n') → Tab w' g s t := by rintro w' ⟨n', rfl⟩; exact hT
  refine G.known (d := 9) h9 (G.known (d := 8) h8 (G.known (d := 2) h2 ?_))
  clear h9 h8 h2
  refine g_seq (q_region (by kernel_rfl) (by kernel_rfl) ?_)
  repeat (first
    | refine q_op rfl rfl rfl (fun w hw => run_moveV rfl) ?_
    | refine q_op rfl rfl rfl (fun w hw => run_moveP rfl) ?_
    | refine q_op rfl rfl rfl (fun w hw => run_moveS rfl) ?_
    | refine q_op rfl rfl rfl (fun w hw => run_moveI rfl) ?_
    | refine q_op rfl rfl rfl (fun w hw => run_moveB rfl) ?_
    | refine q_op rfl rfl rfl (fun w hw => run_moveT rfl) ?_
    | refine q_op rfl rfl rfl (fun w hw => run_asgV rfl) ?_
    | refine q_op rfl rfl rfl (fun w hw => run_asgP rfl) ?_
    | refine q_op rfl rfl rfl (fun w hw => run_asgS rfl) ?_
    | refine q_op rfl rfl rfl (fun w hw => run_asgI rfl) ?_
    | refine q_op rfl rfl rfl (fun w hw => run_asgB rfl) ?_
    | refine q_op rfl rfl rfl (fun w hw => run_xor rfl rfl) ?_
    | refine q_op rfl rfl rfl (fun w hw => run_add rfl rfl) ?_
    | refine q_op rfl rfl rfl (fun w hw => run_or rfl rfl) ?_
    | refine q_op rfl rfl rfl (fun w hw => run_and255 rfl rfl) ?_
    | refine q_op rfl rfl rfl (fun w hw => run_shr24 rfl rfl) ?_
    | refine q_op rfl rfl rfl (fun w hw => run_shr16 rfl rfl) ?_
    | refine q_op rfl rfl rfl (fun w hw => run_shr8 rfl rfl) ?_
    | refine q_op rfl rfl rfl (fun w hw => run_shl8 rfl rfl) ?_
    | refine q_op rfl rfl rfl (fun w hw => run_conv8 rfl) ?_
    | refine q_op rfl rfl rfl (fun w hw => run_nil rfl) ?_
    | refine q_op rfl rfl rfl (fun w hw => run_f28_0 rfl) ?_
    | refine q_op rfl rfl rfl (fun w hw => run_f28_1 rfl) ?_
    | refine q_op rfl rfl rfl (fun w hw => run_f44_0 rfl) ?_
    | refine q_op rfl rfl rfl (fun w hw => run_f44_1 rfl) ?_
    | refine q_op rfl rfl rfl (fun w hw => run_f44_2 rfl) ?_
    | refine q_op rfl rfl rfl (fun w hw => run_f44_3 rfl) ?_
    | refine q_op rfl rfl rfl (fun w hw => run_f44_4 rfl) ?_
    | refine q_op rfl rfl rfl (fun w hw => run_i24c rfl rfl (by decide) (by decide)) ?_
    | refine q_op rfl rfl rfl (fun w hw => run_i25 rfl rfl (mod256 _)) ?_
    | refine q_op rfl rfl rfl (fun w hw => run_load rfl (hC w hw) (by omega)) ?_)
  refine q_nil (g_all fun n' => g_then ?_)
  refine G.gen3 (d1 := 2) (d2 := 8) (d3 := 9) (v1 := .pointer (some ⟨g, 0, none⟩)) (v2 := V (ex s l r 12).1) (v3 := V (ex s l r 12).2) rfl rfl rfl ?_
  intro f h2 h8 h9
  rw [World.drewN_drewN]
  exact tail12 hT (n + n') f h2 h8 h9
set_option maxHeartbeats 1000000 in
theorem tail10 (hT : Tab w g s t) (n : Nat) (f : Nat → Value) (h2 : f 2 = .pointer (some ⟨g, 0, none⟩)) (h8 : f 8 = V (ex s l r 10).1) (h9 : f 9 = V (ex s l r 10).2) :
    G 700 f fun a => (restOf 13 body12).wp Try.prog (bodyPost Try.prog Try.f12 (EncR s l r w)) a (w.drewN n) := by
  have hC : ∀ w', (∃ n', w' = (w.drewN n).drewN n') → Tab w' g s t := by rintro w' ⟨n', rfl⟩; exact hT
  refine G.known (d := 9) h9 (G.known (d := 8) h8 (G.known (d := 2) h2 ?_))
  clear h9 h8 h2
  refine g_seq (q_region (by kernel_rfl) (by kernel_rfl) ?_)
  repeat (first
    | refine q_op rfl rfl rfl (fun w hw => run_moveV rfl) ?_
    | refine q_op rfl rfl rfl (fun w hw => run_moveP rfl) ?_
    | refine q_op rfl rfl rfl (fun w hw => run_moveS rfl) ?_
    | refine q_op rfl rfl rfl (fun w hw => run_moveI rfl) ?_
    | refine q_op rfl rfl rfl (fun w hw => run_moveB rfl) ?_
    | refine q_op rfl rfl rfl (fun w hw => run_moveT rfl) ?_
    | refine q_op rfl rfl rfl (fun w hw => run_asgV rfl) ?_
    | refine q_op rfl rfl rfl (fun w hw => run_asgP rfl) ?_
    | refine q_op rfl rfl rfl (fun w hw => run_asgS rfl) ?_
    | refine q_op rfl rfl rfl (fun w hw => run_asgI rfl) ?_
    | refine q_op rfl rfl rfl (fun w hw => run_asgB rfl) ?_
    | refine q_op rfl rfl rfl (fun w hw => run_xor rfl rfl) ?_
    | refine q_op rfl rfl rfl (fun w hw => run_add rfl rfl) ?_
    | refine q_op rfl rfl rfl (fun w hw => run_or rfl rfl) ?_
    | refine q_op rfl rfl rfl (fun w hw => run_and255 rfl rfl) ?_
    | refine q_op rfl rfl rfl (fun w hw => run_shr24 rfl rfl) ?_
    | refine q_op rfl rfl rfl (fun w hw => run_shr16 rfl rfl) ?_
    | refine q_op rfl rfl rfl (fun w hw => run_shr8 rfl rfl) ?_
    | refine q_op rfl rfl rfl (fun w hw => run_shl8 rfl rfl) ?_
    | refine q_op rfl rfl rfl (fun w hw => run_conv8 rfl) ?_
    | refine q_op rfl rfl rfl (fun w hw => run_nil rfl) ?_
    | refine q_op rfl rfl rfl (fun w hw => run_f28_0 rfl) ?_
    | refine q_op rfl rfl rfl (fun w hw => run_f28_1 rfl) ?_
    | refine q_op rfl rfl rfl (fun w hw => run_f44_0 rfl) ?_
    | refine q_op rfl rfl rfl (fun w hw => run_f44_1 rfl) ?_
    | refine q_op rfl rfl rfl (fun w hw => run_f44_2 rfl) ?_
    | refine q_op rfl rfl rfl (fun w hw => run_f44_3 rfl) ?_
    | refine q_op rfl rfl rfl (fun w hw => run_f44_4 rfl) ?_
    | refine q_op rfl rfl rfl (fun w hw => run_i24c rfl rfl (by decide) (by decide)) ?_
    | refine q_op rfl rfl rfl (fun w hw => run_i25 rfl rfl (mod256 _)) ?_
    | refine q_op rfl rfl rfl (fun w hw => run_load rfl (hC w hw) (by omega)) ?_)
  refine q_nil (g_all fun n' => g_then ?_)
  refine G.gen3 (d1 := 2) (d2 := 8) (d3 := 9) (v1 := .pointer (some ⟨g, 0, none⟩)) (v2 := V (ex s l r 11).2) (v3 := V (ex s l r 11).1) rfl rfl rfl ?_
  intro f h2 h8 h9
  rw [World.drewN_drewN]
  exact tail11 hT (n + n') f h2 h8 h9
set_option maxHeartbeats 1000000 in
theorem tail9 (hT : Tab w g s t) (n : Nat) (f : Nat → Value) (h2 : f 2 = .pointer (some ⟨g, 0, none⟩)) (h8 : f 8 = V (ex s l r 9).2) (h9 : f 9 = V (ex s l r 9).1) :
    G 700 f fun a => (restOf 12 body12).wp Try.prog (bodyPost Try.prog Try.f12 (EncR s l r w)) a (w.drewN n) := by
  have hC : ∀ w', (∃ n', w' = (w.drewN n).drewN n') → Tab w' g s t := by rintro w' ⟨n', rfl⟩; exact hT
  refine G.known (d := 9) h9 (G.known (d := 8) h8 (G.known (d := 2) h2 ?_))
  clear h9 h8 h2
  refine g_seq (q_region (by kernel_rfl) (by kernel_rfl) ?_)
  repeat (first
    | refine q_op rfl rfl rfl (fun w hw => run_moveV rfl) ?_
    | refine q_op rfl rfl rfl (fun w hw => run_moveP rfl) ?_
    | refine q_op rfl rfl rfl (fun w hw => run_moveS rfl) ?_
    | refine q_op rfl rfl rfl (fun w hw => run_moveI rfl) ?_
    | refine q_op rfl rfl rfl (fun w hw => run_moveB rfl) ?_
    | refine q_op rfl rfl rfl (fun w hw => run_moveT rfl) ?_
    | refine q_op rfl rfl rfl (fun w hw => run_asgV rfl) ?_
    | refine q_op rfl rfl rfl (fun w hw => run_asgP rfl) ?_
    | refine q_op rfl rfl rfl (fun w hw => run_asgS rfl) ?_
    | refine q_op rfl rfl rfl (fun w hw => run_asgI rfl) ?_
    | refine q_op rfl rfl rfl (fun w hw => run_asgB rfl) ?_
    | refine q_op rfl rfl rfl (fun w hw => run_xor rfl rfl) ?_
    | refine q_op rfl rfl rfl (fun w hw => run_add rfl rfl) ?_
    | refine q_op rfl rfl rfl (fun w hw => run_or rfl rfl) ?_
    | refine q_op rfl rfl rfl (fun w hw => run_and255 rfl rfl) ?_
    | refine q_op rfl rfl rfl (fun w hw => run_shr24 rfl rfl) ?_
    | refine q_op rfl rfl rfl (fun w hw => run_shr16 rfl rfl) ?_
    | refine q_op rfl rfl rfl (fun w hw => run_shr8 rfl rfl) ?_
    | refine q_op rfl rfl rfl (fun w hw => run_shl8 rfl rfl) ?_
    | refine q_op rfl rfl rfl (fun w hw => run_conv8 rfl) ?_
    | refine q_op rfl rfl rfl (fun w hw => run_nil rfl) ?_
    | refine q_op rfl rfl rfl (fun w hw => run_f28_0 rfl) ?_
    | refine q_op rfl rfl rfl (fun w hw => run_f28_1 rfl) ?_
    | refine q_op rfl rfl rfl (fun w hw => run_f44_0 rfl) ?_
    | refine q_op rfl rfl rfl (fun w hw => run_f44_1 rfl) ?_
    | refine q_op rfl rfl rfl (fun w hw => run_f44_2 rfl) ?_
    | refine q_op rfl rfl rfl (fun w hw => run_f44_3 rfl) ?_
    | refine q_op rfl rfl rfl (fun w hw => run_f44_4 rfl) ?_
    | refine q_op rfl rfl rfl (fun w hw => run_i24c rfl rfl (by decide) (by decide)) ?_
    | refine q_op rfl rfl rfl (fun w hw => run_i25 rfl rfl (mod256 _)) ?_
    | refine q_op rfl rfl rfl (fun w hw => run_load rfl (hC w hw) (by omega)) ?_)
  refine q_nil (g_all fun n' => g_then ?_)
  refine G.gen3 (d1 := 2) (d2 := 8) (d3 := 9) (v1 := .pointer (some ⟨g, 0, none⟩)) (v2 := V (ex s l r 10).1) (v3 := V (ex s l r 10).2) rfl rfl rfl ?_
  intro f h2 h8 h9
  rw [World.drewN_drewN]
  exact tail10 hT (n + n') f h2 h8 h9
set_option maxHeartbeats 1000000 in
theorem tail8 (hT : Tab w g s t) (n : Nat) (f : Nat → Value) (h2 : f 2 = .pointer (some ⟨g, 0, none⟩)) (h8 : f 8 = V (ex s l r 8).1) (h9 : f 9 = V (ex s l r 8).2) :
    G 700 f fun a => (restOf 11 body12).wp Try.prog (bodyPost Try.prog Try.f12 (EncR s l r w)) a (w.drewN n) := by
  have hC : ∀ w', (∃ n', w' = (w.drewN n).drewN n') → Tab w' g s t := by rintro w' ⟨n', rfl⟩; exact hT
  refine G.known (d := 9) h9 (G.known (d := 8) h8 (G.known (d := 2) h2 ?_))
  clear h9 h8 h2
  refine g_seq (q_region (by kernel_rfl) (by kernel_rfl) ?_)
  repeat (first
    | refine q_op rfl rfl rfl (fun w hw => run_moveV rfl) ?_
    | refine q_op rfl rfl rfl (fun w hw => run_moveP rfl) ?_
    | refine q_op rfl rfl rfl (fun w hw => run_moveS rfl) ?_
    | refine q_op rfl rfl rfl (fun w hw => run_moveI rfl) ?_
    | refine q_op rfl rfl rfl (fun w hw => run_moveB rfl) ?_
    | refine q_op rfl rfl rfl (fun w hw => run_moveT rfl) ?_
    | refine q_op rfl rfl rfl (fun w hw => run_asgV rfl) ?_
    | refine q_op rfl rfl rfl (fun w hw => run_asgP rfl) ?_
    | refine q_op rfl rfl rfl (fun w hw => run_asgS rfl) ?_
    | refine q_op rfl rfl rfl (fun w hw => run_asgI rfl) ?_
    | refine q_op rfl rfl rfl (fun w hw => run_asgB rfl) ?_
    | refine q_op rfl rfl rfl (fun w hw => run_xor rfl rfl) ?_
    | refine q_op rfl rfl rfl (fun w hw => run_add rfl rfl) ?_
    | refine q_op rfl rfl rfl (fun w hw => run_or rfl rfl) ?_
    | refine q_op rfl rfl rfl (fun w hw => run_and255 rfl rfl) ?_
    | refine q_op rfl rfl rfl (fun w hw => run_shr24 rfl rfl) ?_
    | refine q_op rfl rfl rfl (fun w hw => run_shr16 rfl rfl) ?_
    | refine q_op rfl rfl rfl (fun w hw => run_shr8 rfl rfl) ?_
    | refine q_op rfl rfl rfl (fun w hw => run_shl8 rfl rfl) ?_
    | refine q_op rfl rfl rfl (fun w hw => run_conv8 rfl) ?_
    | refine q_op rfl rfl rfl (fun w hw => run_nil rfl) ?_
    | refine q_op rfl rfl rfl (fun w hw => run_f28_0 rfl) ?_
    | refine q_op rfl rfl rfl (fun w hw => run_f28_1 rfl) ?_
    | refine q_op rfl rfl rfl (fun w hw => run_f44_0 rfl) ?_
    | refine q_op rfl rfl rfl (fun w hw => run_f44_1 rfl) ?_
    | refine q_op rfl rfl rfl (fun w hw => run_f44_2 rfl) ?_
    | refine q_op rfl rfl rfl (fun w hw => run_f44_3 rfl) ?_
    | refine q_op rfl rfl rfl (fun w hw => run_f44_4 rfl) ?_
    | refine q_op rfl rfl rfl (fun w hw => run_i24c rfl rfl (by decide) (by decide)) ?_
    | refine q_op rfl rfl rfl (fun w hw => run_i25 rfl rfl (mod256 _)) ?_
    | refine q_op rfl rfl rfl (fun w hw => run_load rfl (hC w hw) (by omega)) ?_)
  refine q_nil (g_all fun n' => g_then ?_)
  refine G.gen3 (d1 := 2) (d2 := 8) (d3 := 9) (v1 := .pointer (some ⟨g, 0, none⟩)) (v2 := V (ex s l r 9).2) (v3 := V (ex s l r 9).1) rfl rfl rfl ?_
  intro f h2 h8 h9
  rw [World.drewN_drewN]
  exact tail9 hT (n + n') f h2 h8 h9
set_option maxHeartbeats 1000000 in
theorem tail7 (hT : Tab w g s t) (n : Nat) (f : Nat → Value) (h2 : f 2 = .pointer (some ⟨g, 0, none⟩)) (h8 : f 8 = V (ex s l r 7).2) (h9 : f 9 = V (ex s l r 7).1) :
    G 700 f fun a => (restOf 10 body12).wp Try.prog (bodyPost Try.prog Try.f12 (EncR s l r w)) a (w.drewN n) := by
  have hC : ∀ w', (∃ n', w' = (w.drewN n).drewN n') → Tab w' g s t := by rintro w' ⟨n', rfl⟩; exact hT
  refine G.known (d := 9) h9 (G.known (d := 8) h8 (G.known (d := 2) h2 ?_))
  clear h9 h8 h2
  refine g_seq (q_region (by kernel_rfl) (by kernel_rfl) ?_)
  repeat (first
    | refine q_op rfl rfl rfl (fun w hw => run_moveV rfl) ?_
    | refine q_op rfl rfl rfl (fun w hw => run_moveP rfl) ?_
    | refine q_op rfl rfl rfl (fun w hw => run_moveS rfl) ?_
    | refine q_op rfl rfl rfl (fun w hw => run_moveI rfl) ?_
    | refine q_op rfl rfl rfl (fun w hw => run_moveB rfl) ?_
    | refine q_op rfl rfl rfl (fun w hw => run_moveT rfl) ?_
    | refine q_op rfl rfl rfl (fun w hw => run_asgV rfl) ?_
    | refine q_op rfl rfl rfl (fun w hw => run_asgP rfl) ?_
    | refine q_op rfl rfl rfl (fun w hw => run_asgS rfl) ?_
    | refine q_op rfl rfl rfl (fun w hw => run_asgI rfl) ?_
    | refine q_op rfl rfl rfl (fun w hw => run_asgB rfl) ?_
    | refine q_op rfl rfl rfl (fun w hw => run_xor rfl rfl) ?_
    | refine q_op rfl rfl rfl (fun w hw => run_add rfl rfl) ?_
    | refine q_op rfl rfl rfl (fun w hw => run_or rfl rfl) ?_
    | refine q_op rfl rfl rfl (fun w hw => run_and255 rfl rfl) ?_
    | refine q_op rfl rfl rfl (fun w hw => run_shr24 rfl rfl) ?_
    | refine q_op rfl rfl rfl (fun w hw => run_shr16 rfl rfl) ?_
    | refine q_op rfl rfl rfl (fun w hw => run_shr8 rfl rfl) ?_
    | refine q_op rfl rfl rfl (fun w hw => run_shl8 rfl rfl) ?_
    | refine q_op rfl rfl rfl (fun w hw => run_conv8 rfl) ?_
    | refine q_op rfl rfl rfl (fun w hw => run_nil rfl) ?_
    | refine q_op rfl rfl rfl (fun w hw => run_f28_0 rfl) ?_
    | refine q_op rfl rfl rfl (fun w hw => run_f28_1 rfl) ?_
    | refine q_op rfl rfl rfl (fun w hw => run_f44_0 rfl) ?_
    | refine q_op rfl rfl rfl (fun w hw => run_f44_1 rfl) ?_
    | refine q_op rfl rfl rfl (fun w hw => run_f44_2 rfl) ?_
    | refine q_op rfl rfl rfl (fun w hw => run_f44_3 rfl) ?_
    | refine q_op rfl rfl rfl (fun w hw => run_f44_4 rfl) ?_
    | refine q_op rfl rfl rfl (fun w hw => run_i24c rfl rfl (by decide) (by decide)) ?_
    | refine q_op rfl rfl rfl (fun w hw => run_i25 rfl rfl (mod256 _)) ?_
    | refine q_op rfl rfl rfl (fun w hw => run_load rfl (hC w hw) (by omega)) ?_)
  refine q_nil (g_all fun n' => g_then ?_)
  refine G.gen3 (d1 := 2) (d2 := 8) (d3 := 9) (v1 := .pointer (some ⟨g, 0, none⟩)) (v2 := V (ex s l r 8).1) (v3 := V (ex s l r 8).2) rfl rfl rfl ?_
  intro f h2 h8 h9
  rw [World.drewN_drewN]
  exact tail8 hT (n + n') f h2 h8 h9
set_option maxHeartbeats 1000000 in
theorem tail6 (hT : Tab w g s t) (n : Nat) (f : Nat → Value) (h2 : f 2 = .pointer (some ⟨g, 0, none⟩)) (h8 : f 8 = V (ex s l r 6).1) (h9 : f 9 = V (ex s l r 6).2) :
    G 700 f fun a => (restOf 9 body12).wp Try.prog (bodyPost Try.prog Try.f12 (EncR s l r w)) a (w.drewN n) := by
  have hC : ∀ w', (∃ n', w' = (w.drewN n).drewN n') → Tab w' g s t := by rintro w' ⟨n', rfl⟩; exact hT
  refine G.known (d := 9) h9 (G.known (d := 8) h8 (G.known (d := 2) h2 ?_))
  clear h9 h8 h2
  refine g_seq (q_region (by kernel_rfl) (by kernel_rfl) ?_)
  repeat (first
    | refine q_op rfl rfl rfl (fun w hw => run_moveV rfl) ?_
    | refine q_op rfl rfl rfl (fun w hw => run_moveP rfl) ?_
    | refine q_op rfl rfl rfl (fun w hw => run_moveS rfl) ?_
    | refine q_op rfl rfl rfl (fun w hw => run_moveI rfl) ?_
    | refine q_op rfl rfl rfl (fun w hw => run_moveB rfl) ?_
    | refine q_op rfl rfl rfl (fun w hw => run_moveT rfl) ?_
    | refine q_op rfl rfl rfl (fun w hw => run_asgV rfl) ?_
    | refine q_op rfl rfl rfl (fun w hw => run_asgP rfl) ?_
    | refine q_op rfl rfl rfl (fun w hw => run_asgS rfl) ?_
    | refine q_op rfl rfl rfl (fun w hw => run_asgI rfl) ?_
    | refine q_op rfl rfl rfl (fun w hw => run_asgB rfl) ?_
    | refine q_op rfl rfl rfl (fun w hw => run_xor rfl rfl) ?_
    | refine q_op rfl rfl rfl (fun w hw => run_add rfl rfl) ?_
    | refine q_op rfl rfl rfl (fun w hw => run_or rfl rfl) ?_
    | refine q_op rfl rfl rfl (fun w hw => run_and255 rfl rfl) ?_
    | refine q_op rfl rfl rfl (fun w hw => run_shr24 rfl rfl) ?_
    | refine q_op rfl rfl rfl (fun w hw => run_shr16 rfl rfl) ?_
    | refine q_op rfl rfl rfl (fun w hw => run_shr8 rfl rfl) ?_
    | refine q_op rfl rfl rfl (fun w hw => run_shl8 rfl rfl) ?_
    | refine q_op rfl rfl rfl (fun w hw => run_conv8 rfl) ?_
    | refine q_op rfl rfl rfl (fun w hw => run_nil rfl) ?_
    | refine q_op rfl rfl rfl (fun w hw => run_f28_0 rfl) ?_
    | refine q_op rfl rfl rfl (fun w hw => run_f28_1 rfl) ?_
    | refine q_op rfl rfl rfl (fun w hw => run_f44_0 rfl) ?_
    | refine q_op rfl rfl rfl (fun w hw => run_f44_1 rfl) ?_
    | refine q_op rfl rfl rfl (fun w hw => run_f44_2 rfl) ?_
    | refine q_op rfl rfl rfl (fun w hw => run_f44_3 rfl) ?_
    | refine q_op rfl rfl rfl (fun w hw => run_f44_4 rfl) ?_
    | refine q_op rfl rfl rfl (fun w hw => run_i24c rfl rfl (by decide) (by decide)) ?_
    | refine q_op rfl rfl rfl (fun w hw => run_i25 rfl rfl (mod256 _)) ?_
    | refine q_op rfl rfl rfl (fun w hw => run_load rfl (hC w hw) (by omega)) ?_)
  refine q_nil (g_all fun n' => g_then ?_)
  refine G.gen3 (d1 := 2) (d2 := 8) (d3 := 9) (v1 := .pointer (some ⟨g, 0, none⟩)) (v2 := V (ex s l r 7).2) (v3 := V (ex s l r 7).1) rfl rfl rfl ?_
  intro f h2 h8 h9
  rw [World.drewN_drewN]
  exact tail7 hT (n + n') f h2 h8 h9
set_option maxHeartbeats 1000000 in
theorem tail5 (hT : Tab w g s t) (n : Nat) (f : Nat → Value) (h2 : f 2 = .pointer (some ⟨g, 0, none⟩)) (h8 : f 8 = V (ex s l r 5).2) (h9 : f 9 = V (ex s l r 5).1) :
    G 700 f fun a => (restOf 8 body12).wp Try.prog (bodyPost Try.prog Try.f12 (EncR s l r w)) a (w.drewN n) := by
  have hC : ∀ w', (∃ n', w' = (w.drewN n).drewN n') → Tab w' g s t := by rintro w' ⟨n', rfl⟩; exact hT
  refine G.known (d := 9) h9 (G.known (d := 8) h8 (G.known (d := 2) h2 ?_))
  clear h9 h8 h2
  refine g_seq (q_region (by kernel_rfl) (by kernel_rfl) ?_)
  repeat (first
    | refine q_op rfl rfl rfl (fun w hw => run_moveV rfl) ?_
    | refine q_op rfl rfl rfl (fun w hw => run_moveP rfl) ?_
    | refine q_op rfl rfl rfl (fun w hw => run_moveS rfl) ?_
    | refine q_op rfl rfl rfl (fun w hw => run_moveI rfl) ?_
    | refine q_op rfl rfl rfl (fun w hw => run_moveB rfl) ?_
    | refine q_op rfl rfl rfl (fun w hw => run_moveT rfl) ?_
    | refine q_op rfl rfl rfl (fun w hw => run_asgV rfl) ?_
    | refine q_op rfl rfl rfl (fun w hw => run_asgP rfl) ?_
    | refine q_op rfl rfl rfl (fun w hw => run_asgS rfl) ?_
    | refine q_op rfl rfl rfl (fun w hw => run_asgI rfl) ?_
    | refine q_op rfl rfl rfl (fun w hw => run_asgB rfl) ?_
    | refine q_op rfl rfl rfl (fun w hw => run_xor rfl rfl) ?_
    | refine q_op rfl rfl rfl (fun w hw => run_add rfl rfl) ?_
    | refine q_op rfl rfl rfl (fun w hw => run_or rfl rfl) ?_
    | refine q_op rfl rfl rfl (fun w hw => run_and255 rfl rfl) ?_
    | refine q_op rfl rfl rfl (fun w hw => run_shr24 rfl rfl) ?_
    | refine q_op rfl rfl rfl (fun w hw => run_shr16 rfl rfl) ?_
    | refine q_op rfl rfl rfl (fun w hw => run_shr8 rfl rfl) ?_
    | refine q_op rfl rfl rfl (fun w hw => run_shl8 rfl rfl) ?_
    | refine q_op rfl rfl rfl (fun w hw => run_conv8 rfl) ?_
    | refine q_op rfl rfl rfl (fun w hw => run_nil rfl) ?_
    | refine q_op rfl rfl rfl (fun w hw => run_f28_0 rfl) ?_
    | refine q_op rfl rfl rfl (fun w hw => run_f28_1 rfl) ?_
    | refine q_op rfl rfl rfl (fun w hw => run_f44_0 rfl) ?_
    | refine q_op rfl rfl rfl (fun w hw => run_f44_1 rfl) ?_
    | refine q_op rfl rfl rfl (fun w hw => run_f44_2 rfl) ?_
    | refine q_op rfl rfl rfl (fun w hw => run_f44_3 rfl) ?_
    | refine q_op rfl rfl rfl (fun w hw => run_f44_4 rfl) ?_
    | refine q_op rfl rfl rfl (fun w hw => run_i24c rfl rfl (by decide) (by decide)) ?_
    | refine q_op rfl rfl rfl (fun w hw => run_i25 rfl rfl (mod256 _)) ?_
    | refine q_op rfl rfl rfl (fun w hw => run_load rfl (hC w hw) (by omega)) ?_)
  refine q_nil (g_all fun n' => g_then ?_)
  refine G.gen3 (d1 := 2) (d2 := 8) (d3 := 9) (v1 := .pointer (some ⟨g, 0, none⟩)) (v2 := V (ex s l r 6).1) (v3 := V (ex s l r 6).2) rfl rfl rfl ?_
  intro f h2 h8 h9
  rw [World.drewN_drewN]
  exact tail6 hT (n + n') f h2 h8 h9
set_option maxHeartbeats 1000000 in
theorem tail4 (hT : Tab w g s t) (n : Nat) (f : Nat → Value) (h2 : f 2 = .pointer (some ⟨g, 0, none⟩)) (h8 : f 8 = V (ex s l r 4).1) (h9 : f 9 = V (ex s l r 4).2) :
    G 700 f fun a => (restOf 7 body12).wp Try.prog (bodyPost Try.prog Try.f12 (EncR s l r w)) a (w.drewN n) := by
  have hC : ∀ w', (∃ n', w' = (w.drewN n).drewN n') → Tab w' g s t := by rintro w' ⟨n', rfl⟩; exact hT
  refine G.known (d := 9) h9 (G.known (d := 8) h8 (G.known (d := 2) h2 ?_))
  clear h9 h8 h2
  refine g_seq (q_region (by kernel_rfl) (by kernel_rfl) ?_)
  repeat (first
    | refine q_op rfl rfl rfl (fun w hw => run_moveV rfl) ?_
    | refine q_op rfl rfl rfl (fun w hw => run_moveP rfl) ?_
    | refine q_op rfl rfl rfl (fun w hw => run_moveS rfl) ?_
    | refine q_op rfl rfl rfl (fun w hw => run_moveI rfl) ?_
    | refine q_op rfl rfl rfl (fun w hw => run_moveB rfl) ?_
    | refine q_op rfl rfl rfl (fun w hw => run_moveT rfl) ?_
    | refine q_op rfl rfl rfl (fun w hw => run_asgV rfl) ?_
    | refine q_op rfl rfl rfl (fun w hw => run_asgP rfl) ?_
    | refine q_op rfl rfl rfl (fun w hw => run_asgS rfl) ?_
    | refine q_op rfl rfl rfl (fun w hw => run_asgI rfl) ?_
    | refine q_op rfl rfl rfl (fun w hw => run_asgB rfl) ?_
    | refine q_op rfl rfl rfl (fun w hw => run_xor rfl rfl) ?_
    | refine q_op rfl rfl rfl (fun w hw => run_add rfl rfl) ?_
    | refine q_op rfl rfl rfl (fun w hw => run_or rfl rfl) ?_
    | refine q_op rfl rfl rfl (fun w hw => run_and255 rfl rfl) ?_
    | refine q_op rfl rfl rfl (fun w hw => run_shr24 rfl rfl) ?_
    | refine q_op rfl rfl rfl (fun w hw => run_shr16 rfl rfl) ?_
    | refine q_op rfl rfl rfl (fun w hw => run_shr8 rfl rfl) ?_
    | refine q_op rfl rfl rfl (fun w hw => run_shl8 rfl rfl) ?_
    | refine q_op rfl rfl rfl (fun w hw => run_conv8 rfl) ?_
    | refine q_op rfl rfl rfl (fun w hw => run_nil rfl) ?_
    | refine q_op rfl rfl rfl (fun w hw => run_f28_0 rfl) ?_
    | refine q_op rfl rfl rfl (fun w hw => run_f28_1 rfl) ?_
    | refine q_op rfl rfl rfl (fun w hw => run_f44_0 rfl) ?_
    | refine q_op rfl rfl rfl (fun w hw => run_f44_1 rfl) ?_
    | refine q_op rfl rfl rfl (fun w hw => run_f44_2 rfl) ?_
    | refine q_op rfl rfl rfl (fun w hw => run_f44_3 rfl) ?_
    | refine q_op rfl rfl rfl (fun w hw => run_f44_4 rfl) ?_
    | refine q_op rfl rfl rfl (fun w hw => run_i24c rfl rfl (by decide) (by decide)) ?_
    | refine q_op rfl rfl rfl (fun w hw => run_i25 rfl rfl (mod256 _)) ?_
    | refine q_op rfl rfl rfl (fun w hw => run_load rfl (hC w hw) (by omega)) ?_)
  refine q_nil (g_all fun n' => g_then ?_)
  refine G.gen3 (d1 := 2) (d2 := 8) (d3 := 9) (v1 := .pointer (some ⟨g, 0, none⟩)) (v2 := V (ex s l r 5).2) (v3 := V (ex s l r 5).1) rfl rfl rfl ?_
  intro f h2 h8 h9
  rw [World.drewN_drewN]
  exact tail5 hT (n + n') f h2 h8 h9
set_option maxHeartbeats 1000000 in
theorem tail3 (hT : Tab w g s t) (n : Nat) (f : Nat → Value) (h2 : f 2 = .pointer (some ⟨g, 0, none⟩)) (h8 : f 8 = V (ex s l r 3).2) (h9 : f 9 = V (ex s l r 3).1) :
    G 700 f fun a => (restOf 6 body12).wp Try.prog (bodyPost Try.prog Try.f12 (EncR s l r w)) a (w.drewN n) := by
  have hC : ∀ w', (∃ n', w' = (w.drewN n).drewN n') → Tab w' g s t := by rintro w' ⟨n', rfl⟩; exact hT
  refine G.known (d := 9) h9 (G.known (d := 8) h8 (G.known (d := 2) h2 ?_))
  clear h9 h8 h2
  refine g_seq (q_region (by kernel_rfl) (by kernel_rfl) ?_)
  repeat (first
    | refine q_op rfl rfl rfl (fun w hw => run_moveV rfl) ?_
    | refine q_op rfl rfl rfl (fun w hw => run_moveP rfl) ?_
    | refine q_op rfl rfl rfl (fun w hw => run_moveS rfl) ?_
    | refine q_op rfl rfl rfl (fun w hw => run_moveI rfl) ?_
    | refine q_op rfl rfl rfl (fun w hw => run_moveB rfl) ?_
    | refine q_op rfl rfl rfl (fun w hw => run_moveT rfl) ?_
    | refine q_op rfl rfl rfl (fun w hw => run_asgV rfl) ?_
    | refine q_op rfl rfl rfl (fun w hw => run_asgP rfl) ?_
    | refine q_op rfl rfl rfl (fun w hw => run_asgS rfl) ?_
    | refine q_op rfl rfl rfl (fun w hw => run_asgI rfl) ?_
    | refine q_op rfl rfl rfl (fun w hw => run_asgB rfl) ?_
    | refine q_op rfl rfl rfl (fun w hw => run_xor rfl rfl) ?_
    | refine q_op rfl rfl rfl (fun w hw => run_add rfl rfl) ?_
    | refine q_op rfl rfl rfl (fun w hw => run_or rfl rfl) ?_
    | refine q_op rfl rfl rfl (fun w hw => run_and255 rfl rfl) ?_
    | refine q_op rfl rfl rfl (fun w hw => run_shr24 rfl rfl) ?_
    | refine q_op rfl rfl rfl (fun w hw => run_shr16 rfl rfl) ?_
    | refine q_op rfl rfl rfl (fun w hw => run_shr8 rfl rfl) ?_
    | refine q_op rfl rfl rfl (fun w hw => run_shl8 rfl rfl) ?_
    | refine q_op rfl rfl rfl (fun w hw => run_conv8 rfl) ?_
    | refine q_op rfl rfl rfl (fun w hw => run_nil rfl) ?_
    | refine q_op rfl rfl rfl (fun w hw => run_f28_0 rfl) ?_
    | refine q_op rfl rfl rfl (fun w hw => run_f28_1 rfl) ?_
    | refine q_op rfl rfl rfl (fun w hw => run_f44_0 rfl) ?_
    | refine q_op rfl rfl rfl (fun w hw => run_f44_1 rfl) ?_
    | refine q_op rfl rfl rfl (fun w hw => run_f44_2 rfl) ?_
    | refine q_op rfl rfl rfl (fun w hw => run_f44_3 rfl) ?_
    | refine q_op rfl rfl rfl (fun w hw => run_f44_4 rfl) ?_
    | refine q_op rfl rfl rfl (fun w hw => run_i24c rfl rfl (by decide) (by decide)) ?_
    | refine q_op rfl rfl rfl (fun w hw => run_i25 rfl rfl (mod256 _)) ?_
    | refine q_op rfl rfl rfl (fun w hw => run_load rfl (hC w hw) (by omega)) ?_)
  refine q_nil (g_all fun n' => g_then ?_)
  refine G.gen3 (d1 := 2) (d2 := 8) (d3 := 9) (v1 := .pointer (some ⟨g, 0, none⟩)) (v2 := V (ex s l r 4).1) (v3 := V (ex s l r 4).2) rfl rfl rfl ?_
  intro f h2 h8 h9
  rw [World.drewN_drewN]
  exact tail4 hT (n + n') f h2 h8 h9
set_option maxHeartbeats 1000000 in
theorem tail2 (hT : Tab w g s t) (n : Nat) (f : Nat → Value) (h2 : f 2 = .pointer (some ⟨g, 0, none⟩)) (h8 : f 8 = V (ex s l r 2).1) (h9 : f 9 = V (ex s l r 2).2) :
    G 700 f fun a => (restOf 5 body12).wp Try.prog (bodyPost Try.prog Try.f12 (EncR s l r w)) a (w.drewN n) := by
  have hC : ∀ w', (∃ n', w' = (w.drewN n).drewN n') → Tab w' g s t := by rintro w' ⟨n', rfl⟩; exact hT
  refine G.known (d := 9) h9 (G.known (d := 8) h8 (G.known (d := 2) h2 ?_))
  clear h9 h8 h2
  refine g_seq (q_region (by kernel_rfl) (by kernel_rfl) ?_)
  repeat (first
    | refine q_op rfl rfl rfl (fun w hw => run_moveV rfl) ?_
    | refine q_op rfl rfl rfl (fun w hw => run_moveP rfl) ?_
    | refine q_op rfl rfl rfl (fun w hw => run_moveS rfl) ?_
    | refine q_op rfl rfl rfl (fun w hw => run_moveI rfl) ?_
    | refine q_op rfl rfl rfl (fun w hw => run_moveB rfl) ?_
    | refine q_op rfl rfl rfl (fun w hw => run_moveT rfl) ?_
    | refine q_op rfl rfl rfl (fun w hw => run_asgV rfl) ?_
    | refine q_op rfl rfl rfl (fun w hw => run_asgP rfl) ?_
    | refine q_op rfl rfl rfl (fun w hw => run_asgS rfl) ?_
    | refine q_op rfl rfl rfl (fun w hw => run_asgI rfl) ?_
    | refine q_op rfl rfl rfl (fun w hw => run_asgB rfl) ?_
    | refine q_op rfl rfl rfl (fun w hw => run_xor rfl rfl) ?_
    | refine q_op rfl rfl rfl (fun w hw => run_add rfl rfl) ?_
    | refine q_op rfl rfl rfl (fun w hw => run_or rfl rfl) ?_
    | refine q_op rfl rfl rfl (fun w hw => run_and255 rfl rfl) ?_
    | refine q_op rfl rfl rfl (fun w hw => run_shr24 rfl rfl) ?_
    | refine q_op rfl rfl rfl (fun w hw => run_shr16 rfl rfl) ?_
    | refine q_op rfl rfl rfl (fun w hw => run_shr8 rfl rfl) ?_
    | refine q_op rfl rfl rfl (fun w hw => run_shl8 rfl rfl) ?_
    | refine q_op rfl rfl rfl (fun w hw => run_conv8 rfl) ?_
    | refine q_op rfl rfl rfl (fun w hw => run_nil rfl) ?_
    | refine q_op rfl rfl rfl (fun w hw => run_f28_0 rfl) ?_
    | refine q_op rfl rfl rfl (fun w hw => run_f28_1 rfl) ?_
    | refine q_op rfl rfl rfl (fun w hw => run_f44_0 rfl) ?_
    | refine q_op rfl rfl rfl (fun w hw => run_f44_1 rfl) ?_
    | refine q_op rfl rfl rfl (fun w hw => run_f44_2 rfl) ?_
    | refine q_op rfl rfl rfl (fun w hw => run_f44_3 rfl) ?_
    | refine q_op rfl rfl rfl (fun w hw => run_f44_4 rfl) ?_
    | refine q_op rfl rfl rfl (fun w hw => run_i24c rfl rfl (by decide) (by decide)) ?_
    | refine q_op rfl rfl rfl (fun w hw => run_i25 rfl rfl (mod256 _)) ?_
    | refine q_op rfl rfl rfl (fun w hw => run_load rfl (hC w hw) (by omega)) ?_)
  refine q_nil (g_all fun n' => g_then ?_)
  refine G.gen3 (d1 := 2) (d2 := 8) (d3 := 9) (v1 := .pointer (some ⟨g, 0, none⟩)) (v2 := V (ex s l r 3).2) (v3 := V (ex s l r 3).1) rfl rfl rfl ?_
  intro f h2 h8 h9
  rw [World.drewN_drewN]
  exact tail3 hT (n + n') f h2 h8 h9
set_option maxHeartbeats 1000000 in
theorem tail1 (hT : Tab w g s t) (n : Nat) (f : Nat → Value) (h2 : f 2 = .pointer (some ⟨g, 0, none⟩)) (h8 : f 8 = V (ex s l r 1).2) (h9 : f 9 = V (ex s l r 1).1) :
    G 700 f fun a => (restOf 4 body12).wp Try.prog (bodyPost Try.prog Try.f12 (EncR s l r w)) a (w.drewN n) := by
  have hC : ∀ w', (∃ n', w' = (w.drewN n).drewN n') → Tab w' g s t := by rintro w' ⟨n', rfl⟩; exact hT
  refine G.known (d := 9) h9 (G.known (d := 8) h8 (G.known (d := 2) h2 ?_))
  clear h9 h8 h2
  refine g_seq (q_region (by kernel_rfl) (by kernel_rfl) ?_)
  repeat (first
    | refine q_op rfl rfl rfl (fun w hw => run_moveV rfl) ?_
    | refine q_op rfl rfl rfl (fun w hw => run_moveP rfl) ?_
    | refine q_op rfl rfl rfl (fun w hw => run_moveS rfl) ?_
    | refine q_op rfl rfl rfl (fun w hw => run_moveI rfl) ?_
    | refine q_op rfl rfl rfl (fun w hw => run_moveB rfl) ?_
    | refine q_op rfl rfl rfl (fun w hw => run_moveT rfl) ?_
    | refine q_op rfl rfl rfl (fun w hw => run_asgV rfl) ?_
    | refine q_op rfl rfl rfl (fun w hw => run_asgP rfl) ?_
    | refine q_op rfl rfl rfl (fun w hw => run_asgS rfl) ?_
    | refine q_op rfl rfl rfl (fun w hw => run_asgI rfl) ?_
    | refine q_op rfl rfl rfl (fun w hw => run_asgB rfl) ?_
    | refine q_op rfl rfl rfl (fun w hw => run_xor rfl rfl) ?_
    | refine q_op rfl rfl rfl (fun w hw => run_add rfl rfl) ?_
    | refine q_op rfl rfl rfl (fun w hw => run_or rfl rfl) ?_
    | refine q_op rfl rfl rfl (fun w hw => run_and255 rfl rfl) ?_
    | refine q_op rfl rfl rfl (fun w hw => run_shr24 rfl rfl) ?_
    | refine q_op rfl rfl rfl (fun w hw => run_shr16 rfl rfl) ?_
    | refine q_op rfl rfl rfl (fun w hw => run_shr8 rfl rfl) ?_
    | refine q_op rfl rfl rfl (fun w hw => run_shl8 rfl rfl) ?_
    | refine q_op rfl rfl rfl (fun w hw => run_conv8 rfl) ?_
    | refine q_op rfl rfl rfl (fun w hw => run_nil rfl) ?_
    | refine q_op rfl rfl rfl (fun w hw => run_f28_0 rfl) ?_
    | refine q_op rfl rfl rfl (fun w hw => run_f28_1 rfl) ?_
    | refine q_op rfl rfl rfl (fun w hw => run_f44_0 rfl) ?_
    | refine q_op rfl rfl rfl (fun w hw => run_f44_1 rfl) ?_
    | refine q_op rfl rfl rfl (fun w hw => run_f44_2 rfl) ?_
    | refine q_op rfl rfl rfl (fun w hw => run_f44_3 rfl) ?_
    | refine q_op rfl rfl rfl (fun w hw => run_f44_4 rfl) ?_
    | refine q_op rfl rfl rfl (fun w hw => run_i24c rfl rfl (by decide) (by decide)) ?_
    | refine q_op rfl rfl rfl (fun w hw => run_i25 rfl rfl (mod256 _)) ?_
    | refine q_op rfl rfl rfl (fun w hw => run_load rfl (hC w hw) (by omega)) ?_)
  refine q_nil (g_all fun n' => g_then ?_)
  refine G.gen3 (d1 := 2) (d2 := 8) (d3 := 9) (v1 := .pointer (some ⟨g, 0, none⟩)) (v2 := V (ex s l r 2).1) (v3 := V (ex s l r 2).2) rfl rfl rfl ?_
  intro f h2 h8 h9
  rw [World.drewN_drewN]
  exact tail2 hT (n + n') f h2 h8 h9
set_option maxHeartbeats 1000000 in
theorem tail0 (hT : Tab w g s t) (n : Nat) (f : Nat → Value) (h2 : f 2 = .pointer (some ⟨g, 0, none⟩)) (h8 : f 8 = V (ex s l r 0).1) (h9 : f 9 = V (ex s l r 0).2) :
    G 700 f fun a => (restOf 3 body12).wp Try.prog (bodyPost Try.prog Try.f12 (EncR s l r w)) a (w.drewN n) := by
  have hC : ∀ w', (∃ n', w' = (w.drewN n).drewN n') → Tab w' g s t := by rintro w' ⟨n', rfl⟩; exact hT
  refine G.known (d := 9) h9 (G.known (d := 8) h8 (G.known (d := 2) h2 ?_))
  clear h9 h8 h2
  refine g_seq (q_region (by kernel_rfl) (by kernel_rfl) ?_)
  repeat (first
    | refine q_op rfl rfl rfl (fun w hw => run_moveV rfl) ?_
    | refine q_op rfl rfl rfl (fun w hw => run_moveP rfl) ?_
    | refine q_op rfl rfl rfl (fun w hw => run_moveS rfl) ?_
    | refine q_op rfl rfl rfl (fun w hw => run_moveI rfl) ?_
    | refine q_op rfl rfl rfl (fun w hw => run_moveB rfl) ?_
    | refine q_op rfl rfl rfl (fun w hw => run_moveT rfl) ?_
    | refine q_op rfl rfl rfl (fun w hw => run_asgV rfl) ?_
    | refine q_op rfl rfl rfl (fun w hw => run_asgP rfl) ?_
    | refine q_op rfl rfl rfl (fun w hw => run_asgS rfl) ?_
    | refine q_op rfl rfl rfl (fun w hw => run_asgI rfl) ?_
    | refine q_op rfl rfl rfl (fun w hw => run_asgB rfl) ?_
    | refine q_op rfl rfl rfl (fun w hw => run_xor rfl rfl) ?_
    | refine q_op rfl rfl rfl (fun w hw => run_add rfl rfl) ?_
    | refine q_op rfl rfl rfl (fun w hw => run_or rfl rfl) ?_
    | refine q_op rfl rfl rfl (fun w hw => run_and255 rfl rfl) ?_
    | refine q_op rfl rfl rfl (fun w hw => run_shr24 rfl rfl) ?_
    | refine q_op rfl rfl rfl (fun w hw => run_shr16 rfl rfl) ?_
    | refine q_op rfl rfl rfl (fun w hw => run_shr8 rfl rfl) ?_
    | refine q_op rfl rfl rfl (fun w hw => run_shl8 rfl rfl) ?_
    | refine q_op rfl rfl rfl (fun w hw => run_conv8 rfl) ?_
    | refine q_op rfl rfl rfl (fun w hw => run_nil rfl) ?_
    | refine q_op rfl rfl rfl (fun w hw => run_f28_0 rfl) ?_
    | refine q_op rfl rfl rfl (fun w hw => run_f28_1 rfl) ?_
    | refine q_op rfl rfl rfl (fun w hw => run_f44_0 rfl) ?_
    | refine q_op rfl rfl rfl (fun w hw => run_f44_1 rfl) ?_
    | refine q_op rfl rfl rfl (fun w hw => run_f44_2 rfl) ?_
    | refine q_op rfl rfl rfl (fun w hw => run_f44_3 rfl) ?_
    | refine q_op rfl rfl rfl (fun w hw => run_f44_4 rfl) ?_
    | refine q_op rfl rfl rfl (fun w hw => run_i24c rfl rfl (by decide) (by decide)) ?_
    | refine q_op rfl rfl rfl (fun w hw => run_i25 rfl rfl (mod256 _)) ?_
    | refine q_op rfl rfl rfl (fun w hw => run_load rfl (hC w hw) (by omega)) ?_)
  refine q_nil (g_all fun n' => g_then ?_)
  refine G.gen3 (d1 := 2) (d2 := 8) (d3 := 9) (v1 := .pointer (some ⟨g, 0, none⟩)) (v2 := V (ex s l r 1).2) (v3 := V (ex s l r 1).1) rfl rfl rfl ?_
  intro f h2 h8 h9
  rw [World.drewN_drewN]
  exact tail1 hT (n + n') f h2 h8 h9
end

theorem enc_any (g : Nat) (t : TypeId) (s : Tbl) (l r : BitVec 32) (w : World) (hT : Tab w g s t) :
    Calls Try.prog 12 #[V l, V r, .pointer (some ⟨g, 0, none⟩)] w fun e w' => e = .returned (.tuple #[V (crypt s (l, r)).1, V (crypt s (l, r)).2]) ∧ ∃ n, w' = w.drewN n := by
  refine g_enter (R := EncR s l r w) (l := [_, _, _]) Try.func12 rfl Try.ntmps12 rfl ?_
  refine g_seq (g_region ?_)
  repeat (first
    | refine g_op rfl rfl rfl (run_asgV rfl) ?_
    | refine g_op rfl rfl rfl (run_asgP rfl) ?_
    | refine g_op rfl rfl rfl (run_asgS rfl) ?_
    | refine g_op rfl rfl rfl (run_asgI rfl) ?_
    | refine g_op rfl rfl rfl (run_asgB rfl) ?_)
  refine g_nil (g_seq (g_region ?_))
  repeat (first
    | refine g_op rfl rfl rfl (run_moveV rfl) ?_
    | refine g_op rfl rfl rfl (run_moveP rfl) ?_
    | refine g_op rfl rfl rfl (run_moveS rfl) ?_
    | refine g_op rfl rfl rfl (run_moveI rfl) ?_
    | refine g_op rfl rfl rfl (run_moveB rfl) ?_
    | refine g_op rfl rfl rfl (run_moveT rfl) ?_
    | refine g_op rfl rfl rfl (run_asgV rfl) ?_
    | refine g_op rfl rfl rfl (run_asgP rfl) ?_
    | refine g_op rfl rfl rfl (run_asgS rfl) ?_
    | refine g_op rfl rfl rfl (run_asgI rfl) ?_
    | refine g_op rfl rfl rfl (run_asgB rfl) ?_)
  refine g_nil (g_seq (g_region ?_))
  repeat (first
    | refine g_op rfl rfl rfl (run_moveV rfl) ?_
    | refine g_op rfl rfl rfl (run_moveP rfl) ?_
    | refine g_op rfl rfl rfl (run_moveS rfl) ?_
    | refine g_op rfl rfl rfl (run_moveI rfl) ?_
    | refine g_op rfl rfl rfl (run_moveB rfl) ?_
    | refine g_op rfl rfl rfl (run_moveT rfl) ?_
    | refine g_op rfl rfl rfl (run_asgV rfl) ?_
    | refine g_op rfl rfl rfl (run_asgP rfl) ?_
    | refine g_op rfl rfl rfl (run_asgS rfl) ?_
    | refine g_op rfl rfl rfl (run_asgI rfl) ?_
    | refine g_op rfl rfl rfl (run_asgB rfl) ?_
    | refine g_op rfl rfl rfl (run_xor rfl rfl) ?_
    | refine g_op rfl rfl rfl (run_add rfl rfl) ?_
    | refine g_op rfl rfl rfl (run_or rfl rfl) ?_
    | refine g_op rfl rfl rfl (run_and255 rfl rfl) ?_
    | refine g_op rfl rfl rfl (run_shr24 rfl rfl) ?_
    | refine g_op rfl rfl rfl (run_shr16 rfl rfl) ?_
    | refine g_op rfl rfl rfl (run_shr8 rfl rfl) ?_
    | refine g_op rfl rfl rfl (run_shl8 rfl rfl) ?_
    | refine g_op rfl rfl rfl (run_conv8 rfl) ?_
    | refine g_op rfl rfl rfl (run_nil rfl) ?_
    | refine g_op rfl rfl rfl (run_f28_0 rfl) ?_
    | refine g_op rfl rfl rfl (run_f28_1 rfl) ?_
    | refine g_op rfl rfl rfl (run_f44_0 rfl) ?_
    | refine g_op rfl rfl rfl (run_f44_1 rfl) ?_
    | refine g_op rfl rfl rfl (run_f44_2 rfl) ?_
    | refine g_op rfl rfl rfl (run_f44_3 rfl) ?_
    | refine g_op rfl rfl rfl (run_f44_4 rfl) ?_
    | refine g_op rfl rfl rfl (run_i24c rfl rfl (by decide) (by decide)) ?_
    | refine g_op rfl rfl rfl (run_load rfl hT (by decide)) ?_)
  refine g_nil (g_then ?_)
  exact tail0 hT 0 _ rfl rfl rfl
end Go.Proofs.Ytolkgekbnbgodaa
