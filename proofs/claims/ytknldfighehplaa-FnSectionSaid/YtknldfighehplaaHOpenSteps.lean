/- A list of steps as an argument, opened; the law's walk for every such list; no conditions. -/
import Derived.Test.YtknldfighehplaaHRows
import Derived.Test.YtknldfighehplaaHFnSection
namespace Go.Proofs.Ytknldfighehplaa.HOpenSteps
set_option linter.unusedSimpArgs false
set_option linter.unusedVariables false
open Go.ChangeShapes Go.WideShapes Go.ChangeAt Go.RowKit Go.Proofs.Ytknldfighehplaa.HOpen Go.Proofs.Ytknldfighehplaa.PFnSection Go.Proofs.Ytknldfighehplaa.HConst Go.Proofs.Ytknldfighehplaa.HSec Go.Proofs.Ytknldfighehplaa.HSecPlain Go.Proofs.Ytknldfighehplaa.HFnSection Go.Proofs.YtknldfighehplaaW.PrintWords Go.Proofs.YtknldfighehplaaW.PrintLast Go.Proofs.YtknldfighehplaaW.PrintMore

theorem cells51 : Try.prog.cellsOf 51 = 6 := by kernel_rfl
theorem len6 {α : Type} {l : List α} (h : l.length = 6) : ∃ a b c d e f, l = [a, b, c, d, e, f] := by
  match l, h with
  | [a, b, c, d, e, f], _ => exact ⟨a, b, c, d, e, f, rfl⟩
instance : Inhabited S51 := ⟨z51⟩
section
variable {H : Type} {enc : TypeId × Value → H} {w : World} {base : Nat} {spare : Nat → Bool} {held : Bool}
set_option maxRecDepth 100000 in
theorem conv40 {n : Nat} {cs : List Value} {y : DataW H × List MemPlace} (h : DataW.trod enc Try.prog w base spare held n 40 cs = some y) : ∃ (off k b : Int) (t : ByteArray), cs = [.int .i64 off, .int .i64 k, .int .u64 b, .string t] ∧ (Lit.int .u64 b).wf = true := by
  obtain ⟨xs, n, _, hx, hlen, hxl, hg⟩ := DataW.trod_struct Try.underlying40 h
  obtain ⟨c0, c1, c2, c3, rfl⟩ := len4 (hlen.trans cells40)
  obtain ⟨y0, y1, rfl⟩ := len2 hxl
  have g0 : DataW.trod enc Try.prog w base spare held n 3 [c0] = some y0 := by simpa [cells3, Value.cells] using hg 0 _ rfl
  have g1 : DataW.trod enc Try.prog w base spare held n 38 [c1, c2, c3] = some y1 := by simpa [cells38, Value.cells] using hg 1 _ rfl
  obtain ⟨off, e0, _, wo⟩ := DataW.trod_int Try.underlying3 g0
  obtain ⟨k, b, t, e1, wk, wb, wt⟩ := open_const g1
  simp only [List.cons.injEq, and_true] at e0 e1
  obtain ⟨f1, f2, f3⟩ := e1
  exact ⟨off, k, b, t, by rw [e0, f1, f2, f3], wb⟩
set_option maxRecDepth 100000 in
theorem conv51 (n : Nat) (cs : List Value) (y : DataW H × List MemPlace) (h : DataW.trod enc Try.prog w base spare held n 51 cs = some y) : ∃ a, k51.K w a cs ∧ (Lit.int .u64 a.f1.f1.f1).wf = true := by
  obtain ⟨xs, n, _, hx, hlen, hxl, hg⟩ := DataW.trod_struct Try.underlying51 h
  obtain ⟨c0, c1, c2, c3, c4, c5, rfl⟩ := len6 (hlen.trans cells51)
  obtain ⟨y0, y1, y2, rfl⟩ := len3 hxl
  have g0 : DataW.trod enc Try.prog w base spare held n 3 [c0] = some y0 := by simpa [cells3, cells40, Value.cells] using hg 0 _ rfl
  have g1 : DataW.trod enc Try.prog w base spare held n 40 [c1, c2, c3, c4] = some y1 := by simpa [cells3, cells40, Value.cells] using hg 1 _ rfl
  have g2 : DataW.trod enc Try.prog w base spare held n 3 [c5] = some y2 := by simpa [cells3, cells40, Value.cells] using hg 2 _ rfl
  obtain ⟨k, e0, _, wk⟩ := DataW.trod_int Try.underlying3 g0
  obtain ⟨off, a, b, t, e1, wb⟩ := conv40 g1
  obtain ⟨z, e2, _, wz⟩ := DataW.trod_int Try.underlying3 g2
  simp only [List.cons.injEq, and_true] at e0 e1 e2
  obtain ⟨f1, f2, f3, f4⟩ := e1
  exact ⟨⟨k, ⟨off, ⟨a, b, t⟩⟩, z⟩, by rw [e0, f1, f2, f3, f4, e2]; exact k51_mk w ⟨k, ⟨off, ⟨a, b, t⟩⟩, z⟩, wb⟩

set_option maxRecDepth 100000 in
theorem open_steps {r : Reach} {b0 : Nat} {v : Value} {d : DataW H} {p : List MemPlace} (hv : Value.okWide Try.prog w r b0 48 v) (h : DataW.Trod enc Try.prog w base spare held 48 v d p) :
    ∃ (A : Option Addr) (c : Nat) (l : List S51), v = .slice A l.length c ∧ l.length ≤ c ∧ c ≤ maxLen ∧ Kd.C k51 w A l.length l ∧ ∀ a ∈ l, (Lit.int .u64 a.f1.f1.f1).wf = true := by
  obtain ⟨A0, len, cap, rfl⟩ := okWide_slice Try.underlying48 hv
  obtain ⟨fuel, hf⟩ := h
  obtain ⟨A, c, l, hcs, h1, h2, h3, h4⟩ := HRows.open_rows k51 _ Try.underlying48 cells51 conv51 hf
  have e : Value.slice A0 len cap = .slice A l.length c := by simpa [Value.cells] using hcs
  exact ⟨A, c, l, e, h1, h2, h3, h4⟩
end

theorem wf_u64 {b : Int} (h : (Lit.int .u64 b).wf = true) : 0 ≤ b ∧ b < 18446744073709551616 := by
  have h' : (decide ((0 : Int) ≤ b) && decide (b ≤ (18446744073709551615 : Int))) = true := h
  simp only [Bool.and_eq_true, decide_eq_true_eq] at h'
  omega
theorem goods (l : List S51) (hw : ∀ a ∈ l, (Lit.int .u64 a.f1.f1.f1).wf = true) (hf : l.all fit1 = true) (hd : l.all dk = true) : ∀ x ∈ l, goodS x := by
  intro x hx
  have h1 := List.all_eq_true.1 hf x hx
  have h2 := List.all_eq_true.1 hd x hx
  unfold fit1 at h1
  unfold dk at h2
  simp only [Bool.and_eq_true, decide_eq_true_eq] at h1 h2
  refine ⟨?_, wf_u64 (hw x hx), by omega⟩
  have := h2.1.1.1.1.1.1
  have := h2.1.1.1.1.1.2
  omega
theorem walk (A : Option Addr) (c : Nat) (l : List S51) (w : World) (hr : Kd.C k51 w A l.length l) (hc : l.length ≤ c) (hw : ∀ a ∈ l, (Lit.int .u64 a.f1.f1.f1).wf = true) :
    Calls Try.prog 9 #[.slice A l.length c] w fun e w' => e = .returned (.bool true) ∧ Below w.heap.size w w' := by
  by_cases hn : l.length ≤ 2147483647
  · have hfit := fits_is l hn
    cases hb : l.all fit1 with
    | false => rw [hb] at hfit; exact unfit _ A c l w hr hc hfit
    | true =>
      rw [hb] at hfit
      by_cases hl : l.length ≤ 2000
      · have hkn := known_is l hn
        cases hd : l.all dk with
        | false => rw [hd] at hkn; exact strange _ _ A c l w hr hc hfit hl hkn
        | true => rw [hd] at hkn; exact main _ _ A c l w hr hc hfit hl hkn (goods l hw hb hd)
      · exact many _ A c l w hr hc hfit (by omega)
  · exact unfit 0 A c l w hr hc (fits_long l (by omega) 0)
end Go.Proofs.Ytknldfighehplaa.HOpenSteps
