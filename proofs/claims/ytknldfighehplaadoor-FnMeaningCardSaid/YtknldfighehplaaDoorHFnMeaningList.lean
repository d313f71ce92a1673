/- Lists of options as the printed functions read them: what is valid, what it comes to; conditions: lengths in bounds. -/
import Derived.Test.YtknldfighehplaaDoorHFnMeaningPlain
namespace Go.Proofs.YtknldfighehplaaDoor.HFnMeaningList
set_option linter.unusedSimpArgs false
set_option linter.unusedVariables false
open Go.RowKit Go.Proofs.YtknldfighehplaaDoor.HFnMeaningPlain Go.Proofs.YtknldfighehplaaDoor.PFnMeaning Go.Proofs.YtknldfighehplaaDoorW.PrintWords Go.Proofs.YtknldfighehplaaDoorW.PrintLast Go.Proofs.YtknldfighehplaaDoorW.PrintMore

theorem drop_rdOf {l : List ByteArray} {n : Nat} (h : n < l.length) : l.drop n = rdOf ByteArray.empty l n :: l.drop (n + 1) := by
  rw [List.drop_eq_getElem_cons h]
  simp [rdOf, List.getD, h]
theorem rdOf_mem {l : List ByteArray} {n : Nat} (h : n < l.length) : rdOf ByteArray.empty l n ∈ l := by
  simp [rdOf, List.getD, h]
theorem drop_rd1 {l : List (List ByteArray)} {n : Nat} (h : n < l.length) : l.drop n = rd_L1 l n :: l.drop (n + 1) := by
  rw [List.drop_eq_getElem_cons h]
  simp [rd_L1, List.getD, h]
theorem rd1_mem {l : List (List ByteArray)} {n : Nat} (h : n < l.length) : rd_L1 l n ∈ l := by
  simp [rd_L1, List.getD, h]

theorem optionValid_l (l : List ByteArray) (hl : l.length ≤ 2147483647) (M : Nat) (hM : M ≤ 2147483647) (hs : ∀ x ∈ l, x.size ≤ M) : ∀ (m n k : Nat), m + n = l.length → m + M < k →
    spec_OptionValid.l0 k l l.length n = some ((l.drop n).all valid) := by
  intro m
  induction m with
  | zero =>
    intro n k hn hk
    obtain ⟨k, rfl⟩ : ∃ j, k = j + 1 := ⟨k - 1, by omega⟩
    have : n = l.length := by omega
    subst this
    simp only [spec_OptionValid.l0]
    rw [if_neg (by omega), List.drop_length]
    simp
  | succ m ih =>
    intro n k hn hk
    obtain ⟨k, rfl⟩ : ∃ j, k = j + 1 := ⟨k - 1, by omega⟩
    have hlt : n < l.length := by omega
    have hw : wrap64 ((n : Int) + 1) = ((n + 1 : Nat) : Int) := by unfold wrap64; omega
    have hsz := hs _ (rdOf_mem hlt)
    simp only [spec_OptionValid.l0]
    rw [if_pos (by omega), if_pos (by omega), if_pos (by omega), hw, drop_rdOf hlt, ih (n + 1) k (by omega) (by omega), termValid_is _ (by omega) k (by omega)]
    simp only [List.all_cons, Option.bind_some]
    cases valid (rdOf ByteArray.empty l n) <;> simp
theorem optionValid_is (l : List ByteArray) (hl : l.length ≤ 2147483647) (M : Nat) (hM : M ≤ 2147483647) (hs : ∀ x ∈ l, x.size ≤ M) (k : Nat) (hk : l.length + M < k) : spec_OptionValid.f k l = some (l.all valid) := by
  unfold spec_OptionValid.f
  have h := optionValid_l l hl M hM hs l.length 0 k (by omega) hk
  simpa using h
/-- Lists of at most N options of at most N terms of at most M bytes. -/
def small (N M : Nat) (l : List (List ByteArray)) : Prop := l.length ≤ N ∧ ∀ o ∈ l, o.length ≤ N ∧ ∀ x ∈ o, x.size ≤ M
theorem optionEvaluate_l (tags l : List ByteArray) (ht : tags.length ≤ 2147483647) (hl : l.length ≤ 2147483647) (M : Nat) (hM : M ≤ 2147483647) (hs : ∀ x ∈ l, x.size ≤ M) : ∀ (m n k : Nat), m + n = l.length → m + M + tags.length < k →
    spec_OptionEvaluate.l0 k tags l l.length n = some ((l.drop n).all fun s => evalT s tags) := by
  intro m
  induction m with
  | zero =>
    intro n k hn hk
    obtain ⟨k, rfl⟩ : ∃ j, k = j + 1 := ⟨k - 1, by omega⟩
    have : n = l.length := by omega
    subst this
    simp only [spec_OptionEvaluate.l0]
    rw [if_neg (by omega), List.drop_length]
    simp
  | succ m ih =>
    intro n k hn hk
    obtain ⟨k, rfl⟩ : ∃ j, k = j + 1 := ⟨k - 1, by omega⟩
    have hlt : n < l.length := by omega
    have hw : wrap64 ((n : Int) + 1) = ((n + 1 : Nat) : Int) := by unfold wrap64; omega
    have hsz := hs _ (rdOf_mem hlt)
    simp only [spec_OptionEvaluate.l0]
    rw [if_pos (by omega), if_pos (by omega), if_pos (by omega), hw, drop_rdOf hlt, ih (n + 1) k (by omega) (by omega), termEvaluate_is _ (by omega) tags ht k (by omega) (by omega)]
    simp only [List.all_cons, Option.bind_some]
    cases evalT (rdOf ByteArray.empty l n) tags <;> simp
theorem optionEvaluate_is (tags l : List ByteArray) (ht : tags.length ≤ 2147483647) (hl : l.length ≤ 2147483647) (M : Nat) (hM : M ≤ 2147483647) (hs : ∀ x ∈ l, x.size ≤ M) (k : Nat) (hk : l.length + M + tags.length < k) : spec_OptionEvaluate.f k l tags = some (l.all fun s => evalT s tags) := by
  unfold spec_OptionEvaluate.f
  have h := optionEvaluate_l tags l ht hl M hM hs l.length 0 k (by omega) hk
  simpa using h
theorem constraintEvaluate_l (tags : List ByteArray) (ht : tags.length ≤ 2147483647) (N M : Nat) (l : List (List ByteArray)) (hs : small N M l) (hN : N ≤ 2147483647) (hM : M ≤ 2147483647) : ∀ (m n k : Nat), m + n = l.length → m + N + M + tags.length < k →
    spec_ConstraintEvaluate.l0 k tags l l.length n = some ((l.drop n).any fun o => o.all fun s => evalT s tags) := by
  intro m
  induction m with
  | zero =>
    intro n k hn hk
    obtain ⟨k, rfl⟩ : ∃ j, k = j + 1 := ⟨k - 1, by omega⟩
    have : n = l.length := by omega
    subst this
    simp only [spec_ConstraintEvaluate.l0]
    rw [if_neg (by omega), List.drop_length]
    simp
  | succ m ih =>
    intro n k hn hk
    obtain ⟨k, rfl⟩ : ∃ j, k = j + 1 := ⟨k - 1, by omega⟩
    have hlt : n < l.length := by omega
    have hlN := hs.1
    have hw : wrap64 ((n : Int) + 1) = ((n + 1 : Nat) : Int) := by unfold wrap64; omega
    obtain ⟨ho, hx⟩ := hs.2 _ (rd1_mem hlt)
    simp only [spec_ConstraintEvaluate.l0]
    rw [if_pos (by omega), if_pos (by omega), if_pos (by omega), hw, drop_rd1 hlt, ih (n + 1) k (by omega) (by omega), optionEvaluate_is tags _ ht (by omega) M hM hx k (by omega)]
    simp only [List.any_cons, Option.bind_some]
    cases (rd_L1 l n).all fun s => evalT s tags <;> simp
theorem constraintEvaluate_is (tags : List ByteArray) (ht : tags.length ≤ 2147483647) (N M : Nat) (l : List (List ByteArray)) (hs : small N M l) (hN : N ≤ 2147483647) (hM : M ≤ 2147483647) (k : Nat) (hk : 2 * N + M + tags.length < k) : spec_ConstraintEvaluate.f k l tags = some (l.any fun o => o.all fun s => evalT s tags) := by
  unfold spec_ConstraintEvaluate.f
  have h := constraintEvaluate_l tags ht N M l hs hN hM l.length 0 k (by omega) (by have := hs.1; omega)
  simpa using h
end Go.Proofs.YtknldfighehplaaDoor.HFnMeaningList
