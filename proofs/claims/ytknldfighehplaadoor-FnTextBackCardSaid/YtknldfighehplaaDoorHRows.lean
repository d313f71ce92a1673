/- Arguments that are slices, opened as the printed texts read them; no conditions. -/
import Derived.Test.YtknldfighehplaaDoorWMore
import Derived.Test.YtknldfighehplaaDoorProg
import Derived.WalkKit
import Derived.ProofKit
import Derived.OpenShut
import Derived.ChangeOld
import Derived.SizedLaws
import Derived.KernelRfl
import Derived.Deep.Slices
import Derived.Deep.Fields
import Derived.ChangeSame
namespace Go.Proofs.YtknldfighehplaaDoor.HRows
set_option linter.unusedSimpArgs false
set_option linter.unusedVariables false
open Go.ChangeShapes Go.WideShapes Go.ChangeAt Go.RowKit Go.Proofs.YtknldfighehplaaDoorW.PrintWords Go.Proofs.YtknldfighehplaaDoorW.PrintLast Go.Proofs.YtknldfighehplaaDoorW.PrintMore

section
variable {H : Type} {enc : TypeId × Value → H} {P : Program} {w : World} {base : Nat} {spare : Nat → Bool} {held : Bool}

theorem open_rows {α : Type} [Inhabited α] (d : Kd α) (good : α → Prop) {t e : TypeId} {fuel : Nat} {cs : List Value} {x : DataW H × List MemPlace} (ht : P.underlying t = some (.slice e)) (hc : P.cellsOf e = d.sz)
    (conv : ∀ n cs y, DataW.trod enc P w base spare held n e cs = some y → ∃ a, d.K w a cs ∧ good a)
    (h : DataW.trod enc P w base spare held fuel t cs = some x) :
    ∃ (A : Option Addr) (c : Nat) (l : List α), cs = [.slice A l.length c] ∧ l.length ≤ c ∧ c ≤ maxLen ∧ Kd.C d w A l.length l ∧ ∀ a ∈ l, good a := by
  rcases Go.Deep.open_slice ht h with ⟨rfl, _⟩ | ⟨a, len, cap, m, n, D, Pl, rfl, hb, hl, hm, hmm, _, hi⟩
  · exact ⟨none, 0, [], rfl, Nat.le_refl _, by simp [maxLen], Kd.C_nil d w, fun a ha => by cases ha⟩
  · have hlm : len ≤ m := by rw [hmm]; split <;> omega
    obtain ⟨f, hf⟩ := Go.Deep.choose_lt (n := len) (p := fun i (b : α) => good b ∧ ∃ cs', w.cells? base (a.add (i * P.cellsOf e)) (P.cellsOf e) = some cs' ∧ d.K w b cs') (fun i hi' => by
      obtain ⟨cs', h1, h2⟩ := hi i (by omega)
      obtain ⟨b, hk, hg⟩ := conv n cs' _ h2
      exact ⟨b, hg, cs', h1, hk⟩)
    refine ⟨some a, cap, (List.range len).map f, by simp, by simpa using hl, hm, ?_, ?_⟩
    · refine ⟨by simp, by simp; unfold maxLen at hm; omega, fun _ => ⟨a, rfl, fun j p hj => ?_⟩⟩
      have hjl : j < len := by
        have := (List.getElem?_eq_some_iff.1 hj).1
        simpa using this
      have hp : p = f j := by simpa [hjl] using hj.symm
      subst hp
      obtain ⟨_, cs', h1, h2⟩ := hf j hjl
      obtain ⟨_, hlen, hat⟩ := World.cells?_some h1
      refine ⟨cs', by rw [hlen, hc], h2, fun i u hu => ?_⟩
      have hil : i < cs'.length := (List.getElem?_eq_some_iff.1 hu).1
      have := hat i (by omega)
      rw [Go.Deep.add_add, hu] at this
      rw [← hc]
      exact this
    · intro b hb'
      obtain ⟨i, hi', rfl⟩ := List.mem_map.1 hb'
      exact (hf i (List.mem_range.1 hi')).1
end
end Go.Proofs.YtknldfighehplaaDoor.HRows
