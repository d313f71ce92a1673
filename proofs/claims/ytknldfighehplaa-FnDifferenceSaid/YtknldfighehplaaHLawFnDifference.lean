/- The row of FnDifference: for every two lists of entries the call returns true; no conditions. -/
import Derived.Test.YtknldfighehplaaRows
import Derived.Test.YtknldfighehplaaHFnDifference
import Derived.Test.YtknldfighehplaaHOpenLive
import Derived.Carry
import Derived.WalkKit
import Derived.ProofKit
import Derived.OpenShut
import Derived.ShutString
import Derived.ChangeOld
import Derived.Below
import Derived.SizedLaws
namespace Go.Proofs.Ytknldfighehplaa.fnDifference
open Go.ChangeShapes Go.WideShapes Go.ChangeAt Go.RowKit
open Go.ChangeMaps (open_string shut_string)
set_option linter.unusedVariables false
theorem laidOut : laidOutB Try.prog = true := by kernel_rfl
theorem own : ownKnob Try.prog.godebug = none := by kernel_rfl
set_option maxRecDepth 100000 in
theorem lifted (os : Os) (started : os.Started) (H : Type) (enc : TypeId × Value → H) :
    ReturnsInHanded {} Try.checked os 11 .any (Rows.fnDifferenceSpec.pre6 enc Try.prog Try.f11 Rows.fnDifferenceRow.domain false) (Rows.fnDifferenceSpec.post enc Try.prog Try.f11 false true false false) := by
  refine returnsInHanded_of_change_sized (C := Try.checked) own started (by kernel_rfl) Try.func11
    (ChangeSpec.witness6 (enc := enc) (C := Try.checked) false ⟨#[], #[.slice none 0 0, .slice none 0 0], []⟩ 8 (by kernel_rfl) (by kernel_rfl) (by kernel_rfl) (by kernel_rfl)) ?_
  intro W base args ds gs before hval0 hW hcnd hsz0 _
  have hsz : (DataW.weightsEach Try.prog (Try.f11.params.toList ++ Rows.fnDifferenceSpec.plain.varTypes Try.prog) (ds ++ gs)).all (· ≤ reachBytes) = true := hsz0
  have hval : ∀ (j : Nat) t v, Try.f11.params[j]? = some t → args[j]? = some v → Value.okWide Try.prog W .any base t v := hval0
  have hW' := hW
  obtain ⟨p, q, hA0, hV, rfl, hfz, hnd⟩ := hW
  have hA : DataW.TrodAll enc Try.prog W 0 (fun _ => true) true Try.f11.params.toList args.toList ds p := hA0
  rw [Try.params11] at hA hval hsz
  obtain ⟨v0, vs0, d0, ds0, p0, q0, hargs, rfl, rfl, h0, r0⟩ := trodAll_cons hA
  obtain ⟨v1, vs1, d1, ds1, p1, q1, rfl, rfl, rfl, h1, r1⟩ := trodAll_cons r0
  obtain ⟨rfl, rfl, rfl⟩ := trodAll_nil r1
  obtain rfl : args = #[v0, v1] := by cases args; simp_all
  obtain ⟨rfl, rfl⟩ := trodVars_none hV
  obtain ⟨A, c, l, rfl, hlc, hcm, hrd, hwf⟩ := HOpenLive.open_live (hval 0 32 v0 rfl rfl) h0
  obtain ⟨A1, c1, l1, rfl, hlc1, hcm1, hrd1, hwf1⟩ := HOpenLive.open_live (hval 1 32 v1 rfl rfl) h1
  have hlt : ∀ x ∈ p0, x.block < W.heap.size := fun x hx => by simpa using hW'.lt x (by simp [hx])
  have hlt1 : ∀ x ∈ p1, x.block < W.heap.size := fun x hx => by simpa using hW'.lt x (by simp [hx])
  clear hA0 hval0 hsz0 hsz
  have hg : ∀ e ∈ l, HSet.u16ok e.f1 := fun e he => by
    have h2 : 0 ≤ e.f1 ∧ e.f1 ≤ 65535 := by simpa [Lit.wf, IntKind.min, IntKind.max, IntKind.signed, IntKind.bits] using (hwf e he).2
    exact ⟨h2.1, by omega⟩
  have hg1 : ∀ e ∈ l1, HSet.u16ok e.f1 := fun e he => by
    have h2 : 0 ≤ e.f1 ∧ e.f1 ≤ 65535 := by simpa [Lit.wf, IntKind.min, IntKind.max, IntKind.signed, IntKind.bits] using (hwf1 e he).2
    exact ⟨h2.1, by omega⟩
  refine (HFnDifference.walk A c l A1 c1 l1 W hrd hlc hrd1 hlc1 (by unfold maxLen at hcm; omega) (by unfold maxLen at hcm1; omega) hg hg1).mono fun e W' ⟨he, bel⟩ => ?_
  subst he
  exact ⟨_, rfl, _, _, _, [], _, [], hW', trodAll_mk1 (shut_bool Try.underlying4 _), (trodAll_cons_mk (Below.trod laidOut (by kernel_rfl) (of_decide_eq_true (by kernel_rfl)) h0 bel hlt) (trodAll_cons_mk (Below.trod laidOut (by kernel_rfl) (of_decide_eq_true (by kernel_rfl)) h1 bel hlt1) trodAll_mk0)), rfl, bel.frame _, fun h => by cases h⟩
theorem over : Rows.fnDifferenceRow.holds Try.pinned (OpenSpec.ofChange Rows.fnDifferenceSpec) :=
  OpenClaim.holds_of_wide 11 Try.f11 rfl rfl rfl rfl rfl rfl rfl ⟨rfl, rfl, rfl, rfl, rfl⟩ rfl rfl rfl rfl rfl (by kernel_rfl) Try.func11 (by kernel_rfl)
    (of_decide_eq_true (by kernel_rfl)) (by unfold Func.isWrapper; first | (rw [if_pos (by decide +kernel)]; kernel_rfl) | (rw [if_neg (by decide +kernel)]; exact ⟨rfl, rfl⟩))
    (fun os started H enc _ => lifted os started H enc)
theorem proved : Rows.FnDifferenceSaid := over
#print axioms proved
end Go.Proofs.Ytknldfighehplaa.fnDifference
namespace Go.Proofs.Ytknldfighehplaa
/-- The row, under a short name, for the claim. -/
theorem fnDifference_holds : Rows.FnDifferenceSaid := fnDifference.proved
end Go.Proofs.Ytknldfighehplaa
