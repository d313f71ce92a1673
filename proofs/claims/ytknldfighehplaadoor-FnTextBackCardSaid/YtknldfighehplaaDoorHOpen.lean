/- Lists of texts as arguments, opened; no conditions. -/
import Derived.Test.YtknldfighehplaaDoorHRows
namespace Go.Proofs.YtknldfighehplaaDoor.HOpen
set_option linter.unusedSimpArgs false
set_option linter.unusedVariables false
open Go.ChangeShapes Go.WideShapes Go.ChangeAt Go.RowKit Go.Proofs.YtknldfighehplaaDoorW.PrintWords Go.Proofs.YtknldfighehplaaDoorW.PrintLast Go.Proofs.YtknldfighehplaaDoorW.PrintMore
theorem cells9 : Tryd.prog.cellsOf 9 = 1 := by kernel_rfl
section
variable {H : Type} {enc : TypeId × Value → H} {w : World} {base : Nat} {spare : Nat → Bool} {held : Bool}
set_option maxRecDepth 100000 in
theorem conv9 (n : Nat) (cs : List Value) (y : DataW H × List MemPlace) (h : DataW.trod enc Tryd.prog w base spare held n 9 cs = some y) : ∃ a : ByteArray, Kd.string.K w a cs ∧ a.size ≤ maxLen := by
  obtain ⟨t, e2, _, wt⟩ := DataW.trod_string Tryd.underlying9 h
  exact ⟨t, by rw [e2]; exact rfl, wt⟩
instance : Inhabited ByteArray := ⟨ByteArray.empty⟩
set_option maxRecDepth 100000 in
theorem open_texts {r : Reach} {b0 : Nat} {v : Value} {d : DataW H} {p : List MemPlace} (hv : Value.okWide Tryd.prog w r b0 22 v) (h : DataW.Trod enc Tryd.prog w base spare held 22 v d p) :
    ∃ (A : Option Addr) (c : Nat) (l : List ByteArray), v = .slice A l.length c ∧ l.length ≤ c ∧ c ≤ maxLen ∧ Kd.C Kd.string w A l.length l ∧ ∀ a ∈ l, a.size ≤ maxLen := by
  obtain ⟨A0, len, cap, rfl⟩ := okWide_slice Tryd.underlying22 hv
  obtain ⟨fuel, hf⟩ := h
  obtain ⟨A, c, l, hcs, h1, h2, h3, h4⟩ := HRows.open_rows Kd.string (fun a : ByteArray => a.size ≤ maxLen) Tryd.underlying22 cells9 conv9 hf
  have e : Value.slice A0 len cap = .slice A l.length c := by simpa [Value.cells] using hcs
  exact ⟨A, c, l, e, h1, h2, h3, h4⟩
end
end Go.Proofs.YtknldfighehplaaDoor.HOpen
