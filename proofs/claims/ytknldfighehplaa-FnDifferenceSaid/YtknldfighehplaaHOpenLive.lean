/- A list of entries as an argument, opened; no conditions. -/
import Derived.Test.YtknldfighehplaaHRows
import Derived.Test.YtknldfighehplaaPFnSameMasksx0
namespace Go.Proofs.Ytknldfighehplaa.HOpenLive
set_option linter.unusedSimpArgs false
set_option linter.unusedVariables false
open Go.ChangeShapes Go.WideShapes Go.ChangeAt Go.RowKit Go.Proofs.Ytknldfighehplaa.HOpen Go.Proofs.Ytknldfighehplaa.PFnSameMasks Go.Proofs.YtknldfighehplaaW.PrintWords Go.Proofs.YtknldfighehplaaW.PrintLast Go.Proofs.YtknldfighehplaaW.PrintMore

theorem cells25 : Try.prog.cellsOf 25 = 1 := by kernel_rfl
theorem cells24 : Try.prog.cellsOf 24 = 1 := by kernel_rfl
theorem cells74 : Try.prog.cellsOf 74 = 2 := by kernel_rfl
instance : Inhabited S74 := ⟨z74⟩
section
variable {H : Type} {enc : TypeId × Value → H} {w : World} {base : Nat} {spare : Nat → Bool} {held : Bool}
set_option maxRecDepth 100000 in
theorem conv74 (n : Nat) (cs : List Value) (y : DataW H × List MemPlace) (h : DataW.trod enc Try.prog w base spare held n 74 cs = some y) : ∃ a, k74.K w a cs ∧ ((Lit.int .u32 a.f0).wf = true ∧ (Lit.int .u16 a.f1).wf = true) := by
  obtain ⟨xs, n, _, hx, hlen, hxl, hg⟩ := DataW.trod_struct Try.underlying74 h
  obtain ⟨c0, c1, rfl⟩ := len2 (hlen.trans cells74)
  obtain ⟨y0, y1, rfl⟩ := len2 hxl
  have g0 : DataW.trod enc Try.prog w base spare held n 24 [c0] = some y0 := by simpa [cells24, cells25] using hg 0 _ rfl
  have g1 : DataW.trod enc Try.prog w base spare held n 25 [c1] = some y1 := by simpa [cells24, cells25] using hg 1 _ rfl
  obtain ⟨k, e0, _, wk⟩ := DataW.trod_int Try.underlying24 g0
  obtain ⟨b, e1, _, wb⟩ := DataW.trod_int Try.underlying25 g1
  simp only [List.cons.injEq, and_true] at e0 e1
  exact ⟨⟨k, b⟩, by rw [e0, e1]; exact k74_mk w ⟨k, b⟩, wk, wb⟩

set_option maxRecDepth 100000 in
theorem open_live {r : Reach} {b0 : Nat} {v : Value} {d : DataW H} {p : List MemPlace} (hv : Value.okWide Try.prog w r b0 32 v) (h : DataW.Trod enc Try.prog w base spare held 32 v d p) :
    ∃ (A : Option Addr) (c : Nat) (l : List S74), v = .slice A l.length c ∧ l.length ≤ c ∧ c ≤ maxLen ∧ Kd.C k74 w A l.length l ∧ ∀ a ∈ l, (Lit.int .u32 a.f0).wf = true ∧ (Lit.int .u16 a.f1).wf = true := by
  obtain ⟨A0, len, cap, rfl⟩ := okWide_slice Try.underlying32 hv
  obtain ⟨fuel, hf⟩ := h
  obtain ⟨A, c, l, hcs, h1, h2, h3, h4⟩ := HRows.open_rows k74 _ Try.underlying32 cells74 conv74 hf
  have e : Value.slice A0 len cap = .slice A l.length c := by simpa [Value.cells] using hcs
  exact ⟨A, c, l, e, h1, h2, h3, h4⟩
end
end Go.Proofs.Ytknldfighehplaa.HOpenLive
