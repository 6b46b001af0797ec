/- Regions that draw their order and write: what does not look at memory is taken first; where one operation alone may come up, it comes up. -/
import Derived.Test.YtolkgekbnbgodaaOps2
namespace Go.Proofs.Ytolkgekbnbgodaa
open Go Go.RowKit
section
variable {P : Program} {N : Nat} {f : Nat → Value} {ops : Array Oper} {Q : Exit → Act → World → Prop} {o : Oper} {d : Nat} {v : Value} {w w' : World} {fuel i : Nat} {listed : Array Bool}

theorem G.gen4 {S : Act → Prop} {d1 d2 d3 d4 : Nat} {v1 v2 v3 v4 : Value} (h1 : f d1 = v1) (h2 : f d2 = v2) (h3 : f d3 = v3) (h4 : f d4 = v4) (k : ∀ g : Nat → Value, g d1 = v1 → g d2 = v2 → g d3 = v3 → g d4 = v4 → G N g S) : G N f S := k f h1 h2 h3 h4

theorem g_inb {id : Nat} (k : G N f fun a => Q .normal a w) : G N f fun a => Exit.inBlock id Q .normal a w := k

theorem a_region {id : Nat} (hm : P.follows .mixedOrders = true) {ops : Array Oper} {n : Nat} (hn : ops.size = n)
    (k : G N f fun a => wpAny P .any ops Q n (Array.replicate n false) a (w.drewN 1)) : G N f fun a => (Code.region id ops true).wp P Q a w := fun a ha => by
  subst hn
  exact wp_region_any hm (k a ha)

/-- An operation that does not look at memory is taken first. -/
theorem a_take (i : Nat) (hi : ops[i]? = some o) (hd : o.dst = some d) (hg : o.guard = none) (hN : Nat.blt d N = true) (hs : Region.noSelect ops = true) (hf : Region.free .any ops listed i = true)
    (hr : (Region.ready .any ops listed).contains i = true) (hQ : ∀ c a w, Q (.panic c) (a.put o.dst v) w → Q (.panic c) a w) (h : ∀ w, Runs P f o w v w)
    (k : G N (upd f d v) fun a => wpAny P .any ops Q fuel (listed.setIfInBounds i true) a w) : G N f fun a => wpAny P .any ops Q (fuel + 1) listed a w := fun a ha => by
  refine wpAny_take hi hs hf hr hQ (v := v) (.inl ⟨by simp [Region.wanted, hg], fun w => ?_⟩) ?_
  · rw [ha.eval]
    exact (h w).out
  · rw [hd]
    exact k _ (ha.put d v hN)

/-- The one operation that may come up, a load or another that yields a value. -/
theorem a_one (i : Nat) (hi : ops[i]? = some o) (hd : o.dst = some d) (hg : o.guard = none) (hN : Nat.blt d N = true) (hr : Region.ready .any ops listed = [i]) (h : Runs P f o w v w')
    (k : G N (upd f d v) fun a => wpAny P .any ops Q fuel (listed.setIfInBounds i true) a w') : G N f fun a => wpAny P .any ops Q (fuel + 1) listed a w := fun a ha => by
  refine wpAny_all hr (by simp) fun j hj => ?_
  obtain rfl : j = i := by simpa using hj
  unfold wpOp
  rw [hi]
  simp only [Region.wanted, hg, if_true]
  refine .inl ?_
  unfold Oper.wp
  rw [ha.eval, h.out, Oper.upon_value, hd]
  exact k _ (ha.put d v hN)

/-- The one operation that may come up, a store. -/
theorem a_store (i : Nat) (hi : ops[i]? = some o) (hd : o.dst = none) (hg : o.guard = none) (hr : Region.ready .any ops listed = [i]) (h : Stores P f o w w')
    (k : G N f fun a => wpAny P .any ops Q fuel (listed.setIfInBounds i true) a w') : G N f fun a => wpAny P .any ops Q (fuel + 1) listed a w := fun a ha => by
  refine wpAny_all hr (by simp) fun j hj => ?_
  obtain rfl : j = i := by simpa using hj
  unfold wpOp
  rw [hi]
  simp only [Region.wanted, hg, if_true]
  refine .inl ?_
  unfold Oper.wp
  rw [ha.eval, h.out, Oper.upon_skip, hd]
  exact k _ ha

theorem a_done (hr : Region.ready .any ops listed = []) (k : G N f fun a => Q .normal a w) : G N f fun a => wpAny P .any ops Q fuel listed a w := fun a ha =>
  wpAny_done hr (k a ha) fuel
end
end Go.Proofs.Ytolkgekbnbgodaa
