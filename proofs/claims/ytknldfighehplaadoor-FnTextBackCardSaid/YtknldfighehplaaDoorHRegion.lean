/- Steps of a region that draws its order, one operation at a time, its slot named: taken first, not wanted, or run; no conditions beyond the region's own tables. -/
import Derived.WalkKit
import Derived.RegionTactic
namespace Go.Proofs.YtknldfighehplaaDoor.HRegion
set_option linter.unusedSimpArgs false
set_option linter.unusedVariables false
open Go
variable {P : Program} {ops : Array Oper} {Q : Exit → Act → World → Prop} {md : Region.Mode}
theorem take_d {i : Nat} (d : Nat) {oi : Oper} {v : Value} {fuel : Nat} {listed : Array Bool} {a : Act} {w : World} (hi : ops[i]? = some oi) (hd : oi.dst = some d)
    (hs : Region.noSelect ops = true) (hf : Region.free md ops listed i = true) (hr : (Region.ready md ops listed).contains i = true)
    (hQ : ∀ c a w, Q (.panic c) (a.put (some d) v) w → Q (.panic c) a w) (hy : Yields P ops oi v a)
    (h : wpAny P md ops Q fuel (listed.setIfInBounds i true) (a.put (some d) v) w) : wpAny P md ops Q (fuel + 1) listed a w := by
  rw [← hd] at hQ h
  exact wpAny_take hi hs hf hr hQ hy h
/-- An operation whose guard does not want it. -/
theorem skip_d {i : Nat} (d : Nat) {oi : Oper} {fuel : Nat} {listed : Array Bool} {a : Act} {w : World} (hi : ops[i]? = some oi) (hd : oi.dst = some d)
    (hs : Region.noSelect ops = true) (hf : Region.free md ops listed i = true) (hr : (Region.ready md ops listed).contains i = true)
    (hQ : ∀ c a w, Q (.panic c) (a.put (some d) undef) w → Q (.panic c) a w) (hw : Region.wanted oi (yielded ops a.tmps) = false)
    (h : wpAny P md ops Q fuel (listed.setIfInBounds i true) (a.put (some d) undef) w) : wpAny P md ops Q (fuel + 1) listed a w :=
  take_d d hi hd hs hf hr hQ (Or.inr ⟨hw, rfl⟩) h
/-- The one operation that may come up next is run where it stands. -/
theorem run_d {i : Nat} (d : Nat) {oi : Oper} {fuel : Nat} {listed : Array Bool} {a : Act} {w : World} (hi : ops[i]? = some oi) (hd : oi.dst = some d) (hr : Region.ready md ops listed = [i])
    (hw : Region.wanted oi (yielded ops a.tmps) = true)
    (h : ∀ K : Act → World → Prop, (∀ v w1, wpAny P md ops Q fuel (listed.setIfInBounds i true) (a.put (some d) v) w1 → K (a.put (some d) v) w1) → Oper.wp P oi a w K Q) : wpAny P md ops Q (fuel + 1) listed a w := by
  refine wpAny_ready (rs := [i]) hr (by simp) (AllReady.cons hi (fun K hK => ?_) AllReady.nil)
  rw [if_pos hw]
  exact h K (fun v w1 hv => hK _ _ hv)
end Go.Proofs.YtknldfighehplaaDoor.HRegion
