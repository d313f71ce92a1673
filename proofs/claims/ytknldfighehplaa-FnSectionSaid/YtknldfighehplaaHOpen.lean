/- Arguments opened: a datum by value; no conditions. -/
import Derived.Test.YtknldfighehplaaProg
import Derived.WalkKit
import Derived.ProofKit
import Derived.OpenShut
import Derived.ChangeOld
import Derived.SizedLaws
import Derived.KernelRfl
import Derived.Deep.Slices
import Derived.Deep.Fields
import Derived.ChangeSame
namespace Go.Proofs.Ytknldfighehplaa.HOpen
set_option linter.unusedSimpArgs false
set_option linter.unusedVariables false
open Go.ChangeShapes Go.WideShapes Go.ChangeAt Go.RowKit

theorem len2 {α : Type} {l : List α} (h : l.length = 2) : ∃ a b, l = [a, b] := by
  match l, h with
  | [a, b], _ => exact ⟨a, b, rfl⟩
theorem len3 {α : Type} {l : List α} (h : l.length = 3) : ∃ a b c, l = [a, b, c] := by
  match l, h with
  | [a, b, c], _ => exact ⟨a, b, c, rfl⟩
theorem len4 {α : Type} {l : List α} (h : l.length = 4) : ∃ a b c d, l = [a, b, c, d] := by
  match l, h with
  | [a, b, c, d], _ => exact ⟨a, b, c, d, rfl⟩
theorem cells3 : Try.prog.cellsOf 3 = 1 := by kernel_rfl
theorem cells36 : Try.prog.cellsOf 36 = 1 := by kernel_rfl
theorem cells9 : Try.prog.cellsOf 9 = 1 := by kernel_rfl
theorem cells38 : Try.prog.cellsOf 38 = 3 := by kernel_rfl
theorem cells40 : Try.prog.cellsOf 40 = 4 := by kernel_rfl

section
variable {H : Type} {enc : TypeId × Value → H} {w : World} {base : Nat} {spare : Nat → Bool} {held : Bool}
set_option maxRecDepth 100000 in
theorem open_const {fuel : Nat} {cs : List Value} {x : DataW H × List MemPlace} (h : DataW.trod enc Try.prog w base spare held fuel 38 cs = some x) :
    ∃ (k b : Int) (t : ByteArray), cs = [.int .i64 k, .int .u64 b, .string t] ∧ (Lit.int .i64 k).wf = true ∧ (Lit.int .u64 b).wf = true ∧ t.size ≤ maxLen := by
  obtain ⟨xs, n, _, hx, hlen, hxl, hg⟩ := DataW.trod_struct Try.underlying38 h
  obtain ⟨c0, c1, c2, rfl⟩ := len3 (hlen.trans cells38)
  obtain ⟨y0, y1, y2, rfl⟩ := len3 hxl
  have g0 : DataW.trod enc Try.prog w base spare held n 3 [c0] = some y0 := by simpa [cells3] using hg 0 _ rfl
  have g1 : DataW.trod enc Try.prog w base spare held n 36 [c1] = some y1 := by simpa [cells36] using hg 1 _ rfl
  have g2 : DataW.trod enc Try.prog w base spare held n 9 [c2] = some y2 := by simpa [cells9] using hg 2 _ rfl
  obtain ⟨k, e0, _, wk⟩ := DataW.trod_int Try.underlying3 g0
  obtain ⟨b, e1, _, wb⟩ := DataW.trod_int Try.underlying36 g1
  obtain ⟨t, e2, _, wt⟩ := DataW.trod_string Try.underlying9 g2
  simp only [List.cons.injEq, and_true] at e0 e1 e2
  exact ⟨k, b, t, by rw [e0, e1, e2], wk, wb, wt⟩

set_option maxRecDepth 100000 in
theorem open_datum {r : Reach} {b0 : Nat} {v : Value} {d : DataW H} {p : List MemPlace} (hv : Value.okWide Try.prog w r b0 40 v) (h : DataW.Trod enc Try.prog w base spare held 40 v d p) :
    ∃ (off k b : Int) (t : ByteArray), v = .agg #[.int .i64 off, .int .i64 k, .int .u64 b, .string t] ∧ (Lit.int .i64 off).wf = true ∧ (Lit.int .i64 k).wf = true ∧ (Lit.int .u64 b).wf = true ∧ t.size ≤ maxLen := by
  obtain ⟨cs, rfl, hsz⟩ := okWide_struct Try.underlying40 hv
  obtain ⟨fuel, hf⟩ := h
  obtain ⟨xs, n, _, hx, hlen, hxl, hg⟩ := DataW.trod_struct Try.underlying40 hf
  obtain ⟨l⟩ := cs
  obtain ⟨c0, c1, c2, c3, rfl⟩ := len4 (hsz.trans cells40)
  obtain ⟨y0, y1, rfl⟩ := len2 hxl
  have g0 : DataW.trod enc Try.prog w base spare held n 3 [c0] = some y0 := by simpa [cells3, Value.cells] using hg 0 _ rfl
  have g1 : DataW.trod enc Try.prog w base spare held n 38 [c1, c2, c3] = some y1 := by simpa [cells38, Value.cells] using hg 1 _ rfl
  obtain ⟨off, e0, _, wo⟩ := DataW.trod_int Try.underlying3 g0
  obtain ⟨k, b, t, e1, wk, wb, wt⟩ := open_const g1
  simp only [List.cons.injEq, and_true] at e0 e1
  obtain ⟨f1, f2, f3⟩ := e1
  exact ⟨off, k, b, t, by rw [e0, f1, f2, f3], wo, wk, wb, wt⟩
end
end Go.Proofs.Ytknldfighehplaa.HOpen
