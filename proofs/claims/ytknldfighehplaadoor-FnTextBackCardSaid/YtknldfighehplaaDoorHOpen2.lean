/- Lists of lists of texts as arguments, opened; no conditions. -/
import Derived.Test.YtknldfighehplaaDoorHOpen
namespace Go.Proofs.YtknldfighehplaaDoor.HOpen2
set_option linter.unusedSimpArgs false
set_option linter.unusedVariables false
open Go.ChangeShapes Go.WideShapes Go.ChangeAt Go.RowKit Go.Proofs.YtknldfighehplaaDoor.HOpen Go.Proofs.YtknldfighehplaaDoorW.PrintWords Go.Proofs.YtknldfighehplaaDoorW.PrintLast Go.Proofs.YtknldfighehplaaDoorW.PrintMore
theorem cells22 : Tryd.prog.cellsOf 22 = 1 := by kernel_rfl
section
variable {H : Type} {enc : TypeId × Value → H} {w : World} {base : Nat} {spare : Nat → Bool} {held : Bool}
set_option maxRecDepth 100000 in
theorem conv22 (n : Nat) (cs : List Value) (y : DataW H × List MemPlace) (h : DataW.trod enc Tryd.prog w base spare held n 22 cs = some y) : ∃ a : List ByteArray, (Kd.slice 9 Kd.string).K w a cs ∧ a.length ≤ maxLen := by
  obtain ⟨A, c, l, hcs, h1, h2, h3, h4⟩ := HRows.open_rows Kd.string (fun a : ByteArray => a.size ≤ maxLen) Tryd.underlying22 cells9 conv9 h
  exact ⟨l, ⟨A, c, hcs, h1, h3⟩, by omega⟩
instance : Inhabited (List ByteArray) := ⟨[]⟩
set_option maxRecDepth 100000 in
theorem open_lists {r : Reach} {b0 : Nat} {v : Value} {d : DataW H} {p : List MemPlace} (hv : Value.okWide Tryd.prog w r b0 31 v) (h : DataW.Trod enc Tryd.prog w base spare held 31 v d p) :
    ∃ (A : Option Addr) (c : Nat) (l : List (List ByteArray)), v = .slice A l.length c ∧ l.length ≤ c ∧ c ≤ maxLen ∧ Kd.C (Kd.slice 9 Kd.string) w A l.length l ∧ ∀ a ∈ l, a.length ≤ maxLen := by
  obtain ⟨A0, len, cap, rfl⟩ := okWide_slice Tryd.underlying31 hv
  obtain ⟨fuel, hf⟩ := h
  obtain ⟨A, c, l, hcs, h1, h2, h3, h4⟩ := HRows.open_rows (Kd.slice 9 Kd.string) (fun a : List ByteArray => a.length ≤ maxLen) Tryd.underlying31 cells22 conv22 hf
  have e : Value.slice A0 len cap = .slice A l.length c := by simpa [Value.cells] using hcs
  exact ⟨A, c, l, e, h1, h2, h3, h4⟩
end
end Go.Proofs.YtknldfighehplaaDoor.HOpen2
