/- It is proved that FnSymbol returns true for every name and both values of static (no conditions): the name is written as the reference writes it. -/
import Derived.Test.YtknldfighehplaaPFnSymbolx1
namespace Go.Proofs.Ytknldfighehplaa.Pure
open Go.RowKit Go.Proofs.Ytknldfighehplaa.PFnSymbol Go.Proofs.YtknldfighehplaaW.PrintWords Go.Proofs.YtknldfighehplaaW.PrintLast

/-- YOURS: ∀ (a0 : ByteArray) (a1 : Bool), a0.size ≤ 140737488351232 → laws_FnSymbol.f a0 a1 = some true
What it reaches (each with k first where it has rounds; `.mono`: more rounds tell the same; `.l0`, ..: its loops, with `.mono_l`): operand_Symbol_String.f, impl_Symbol.f, spec_Symbol.f, laws_FnSymbol.f -/
theorem FnSymbol : laws_FnSymbol.Pure := by
  intro a0 a1 h
  cases a1 with
  | false => simp [laws_FnSymbol.f, impl_Symbol.f, spec_Symbol.f, operand_Symbol_String.f]
  | true =>
    have h2 : a0.size + 2 ≤ 9223372036854775807 := by omega
    simp [laws_FnSymbol.f, impl_Symbol.f, spec_Symbol.f, operand_Symbol_String.f, h2]

end Go.Proofs.Ytknldfighehplaa.Pure
