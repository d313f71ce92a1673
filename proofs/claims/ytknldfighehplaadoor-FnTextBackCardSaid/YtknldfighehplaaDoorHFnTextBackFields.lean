/- The words of a text, and the options that they are read as; no conditions. -/
import Derived.Test.YtknldfighehplaaDoorHFnTextBackCut
import Derived.Lib.Fields
namespace Go.Proofs.YtknldfighehplaaDoor.HFnTextBackFields
set_option linter.unusedSimpArgs false
set_option linter.unusedVariables false
open Go.RowKit Go.Proofs.YtknldfighehplaaDoor.HSplit Go.Proofs.YtknldfighehplaaDoor.HFnTextBackList Go.Proofs.YtknldfighehplaaDoor.HFnTextBackCut Go.Proofs.YtknldfighehplaaDoor.HFnTextBackPlain Go.Proofs.YtknldfighehplaaDoor.PFnTextBack Go.Proofs.YtknldfighehplaaDoorW.PrintWords Go.Proofs.YtknldfighehplaaDoorW.PrintLast Go.Proofs.YtknldfighehplaaDoorW.PrintMore

theorem isSp_all : ∀ n : Fin 256, Lib.isSp (UInt8.ofNat n.val) = decide (n.val = 32 ∨ (9 ≤ n.val ∧ n.val ≤ 13)) := by decide +kernel
theorem isSp_is (b : UInt8) : Lib.isSp b = decide (b.toNat = 32 ∨ (9 ≤ b.toNat ∧ b.toNat ≤ 13)) := by
  have h := isSp_all ⟨b.toNat, b.toNat_lt⟩
  simpa using h
/-- The words of a text between its white space. -/
def words (t : ByteArray) : List ByteArray := (Lib.fields (bs t)).map B
/-- The options of some words, up to the first that is no option. -/
def pcs : List ByteArray → List (List ByteArray) → List (List ByteArray) × Bool
  | [], acc => (acc, true)
  | x :: r, acc => if (pieces x).all valid = true then pcs r (acc ++ [pieces x]) else (acc, false)
theorem words_size (t : ByteArray) : (words t).length ≤ t.size + 1 ∧ ∀ x ∈ words t, x.size ≤ t.size := by
  have key : ∀ (l cur : List UInt8), ((Lib.fieldsGo cur l).length ≤ l.length + 1) ∧ ∀ x ∈ Lib.fieldsGo cur l, x.length ≤ cur.length + l.length := by
    intro l
    induction l with
    | nil => intro cur; cases cur <;> simp [Lib.fieldsGo]
    | cons b l ih =>
      intro cur
      simp only [Lib.fieldsGo]
      split
      · split
        · obtain ⟨h1, h2⟩ := ih []
          refine ⟨by simp; omega, fun x hx => ?_⟩
          have := h2 x hx
          simp at this ⊢; omega
        · obtain ⟨h1, h2⟩ := ih []
          refine ⟨by simp; omega, fun x hx => ?_⟩
          rcases List.mem_cons.1 hx with rfl | hx
          · simp
          · have := h2 x hx
            simp at this ⊢; omega
      · obtain ⟨h1, h2⟩ := ih (cur ++ [b])
        refine ⟨by simp; omega, fun x hx => ?_⟩
        have := h2 x hx
        simp at this ⊢; omega
  obtain ⟨h1, h2⟩ := key (bs t) []
  rw [bs_length] at h1
  refine ⟨by simpa [words, Lib.fields] using h1, fun x hx => ?_⟩
  obtain ⟨y, hy, rfl⟩ := List.mem_map.1 hx
  have := h2 y hy
  rw [B_size]
  simpa [bs_length] using this
theorem words_ascii (t : ByteArray) (ha : ascii t = true) : ∀ x ∈ words t, ascii x = true := by
  have key : ∀ (l cur : List UInt8), (∀ c ∈ l, c.toNat ≤ 127) → (∀ c ∈ cur, c.toNat ≤ 127) → ∀ x ∈ Lib.fieldsGo cur l, ∀ c ∈ x, c.toNat ≤ 127 := by
    intro l
    induction l with
    | nil =>
      intro cur h1 h2 x hx
      cases cur with
      | nil => simp [Lib.fieldsGo] at hx
      | cons a r => simp [Lib.fieldsGo] at hx; subst hx; exact h2
    | cons b l ih =>
      intro cur h1 h2 x hx
      have hl : ∀ c ∈ l, c.toNat ≤ 127 := fun c hc => h1 c (by simp [hc])
      simp only [Lib.fieldsGo] at hx
      split at hx
      · split at hx
        · exact ih [] hl (fun c hc => by cases hc) x hx
        · rcases List.mem_cons.1 hx with rfl | hx
          · exact h2
          · exact ih [] hl (fun c hc => by cases hc) x hx
      · refine ih (cur ++ [b]) hl (fun c hc => ?_) x hx
        rcases List.mem_append.1 hc with hc | hc
        · exact h2 c hc
        · have : c = b := by simpa using hc
          subst this
          exact h1 c (by simp)
  intro x hx
  obtain ⟨y, hy, rfl⟩ := List.mem_map.1 hx
  rw [ascii_iff, bs_B]
  exact key (bs t) [] ((ascii_iff t).1 ha) (fun c hc => by cases hc) y hy

end Go.Proofs.YtknldfighehplaaDoor.HFnTextBackFields
