/- It is proved that FnNumber returns true for every uint32 (no conditions): the parts that the package reads off a number are those that the reference reads. -/
import Derived.Test.YtknldfighehplaaPFnNumberx1
namespace Go.Proofs.Ytknldfighehplaa.Pure
open Go.RowKit Go.Proofs.Ytknldfighehplaa.PFnNumber Go.Proofs.YtknldfighehplaaW.PrintWords Go.Proofs.YtknldfighehplaaW.PrintLast

/-- YOURS: ∀ (a0 : Int), (Lit.int .u32 a0).wf = true → laws_FnNumber.f a0 = some true
What it reaches (each with k first where it has rounds; `.mono`: more rounds tell the same; `.l0`, ..: its loops, with `.mono_l`): reg_ID_IsVirtual.f, reg_ID_Kind.f, reg_ID_Index.f, impl_IDParts.f, spec_IDParts.f, reg_ID_IsPhysical.f, impl_IDPhysical.f, laws_FnNumber.f -/
theorem FnNumber : laws_FnNumber.Pure := by
  intro a0 _
  simp [laws_FnNumber.f, impl_IDParts.f, spec_IDParts.f, impl_IDPhysical.f, reg_ID_IsPhysical.f, reg_ID_IsVirtual.f, reg_ID_Kind.f, reg_ID_Index.f]

end Go.Proofs.Ytknldfighehplaa.Pure
