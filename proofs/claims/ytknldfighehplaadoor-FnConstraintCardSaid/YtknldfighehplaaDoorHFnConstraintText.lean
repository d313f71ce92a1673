/- Options and constraints as texts: what the printed functions on them come to; conditions: lengths in bounds. -/
import Derived.Test.YtknldfighehplaaDoorHFnConstraintList
import Derived.Lib.Join
namespace Go.Proofs.YtknldfighehplaaDoor.HFnConstraintText
set_option linter.unusedSimpArgs false
set_option linter.unusedVariables false
open Go.RowKit Go.Proofs.YtknldfighehplaaDoor.HFnConstraintList Go.Proofs.YtknldfighehplaaDoor.HFnConstraintPlain Go.Proofs.YtknldfighehplaaDoor.PFnConstraint Go.Proofs.YtknldfighehplaaDoorW.PrintWords Go.Proofs.YtknldfighehplaaDoorW.PrintLast Go.Proofs.YtknldfighehplaaDoorW.PrintMore

theorem join_snoc (xs : List (List UInt8)) (y sep : List UInt8) : Lib.join (xs ++ [y]) sep = if xs = [] then y else Lib.join xs sep ++ sep ++ y := by
  cases xs with
  | nil => simp [Lib.join_one]
  | cons x r =>
    rw [List.cons_append, Lib.join_cons, Lib.join_cons, if_neg (by simp)]
    simp [Lib.joinTail, List.append_assoc]
/-- An option's text: its terms, a comma between two. -/
def optText (l : List ByteArray) : ByteArray := ⟨(Lib.join (l.map (·.data.toList)) [44]).toArray⟩
theorem toBytes (s : ByteArray) : (⟨s.data.toList.toArray⟩ : ByteArray) = s := by cases s; simp
theorem app_bytes (a b : List UInt8) : (⟨(a ++ b).toArray⟩ : ByteArray) = (⟨a.toArray⟩ : ByteArray) ++ ⟨b.toArray⟩ := by
  apply ByteArray.ext
  simp
theorem optText_snoc (l : List ByteArray) (y : ByteArray) : optText (l ++ [y]) = if l = [] then y else optText l ++ ⟨#[44]⟩ ++ y := by
  unfold optText
  rw [List.map_append, List.map_cons, List.map_nil, join_snoc]
  cases l with
  | nil => simp [toBytes]
  | cons x r =>
    rw [if_neg (by simp), if_neg (by simp), app_bytes, app_bytes, toBytes]
theorem take_one {l : List ByteArray} {n : Nat} (h : n < l.length) : l.take (n + 1) = l.take n ++ [rdOf ByteArray.empty l n] := by
  rw [List.take_succ_eq_append_getElem h]
  simp [rdOf, List.getD, h]
theorem optText_size (M : Nat) (l : List ByteArray) (h : ∀ x ∈ l, x.size ≤ M) : (optText l).size ≤ l.length * (M + 1) := by
  have key : ∀ n, n ≤ l.length → (optText (l.take n)).size ≤ n * (M + 1) := by
    intro n
    induction n with
    | zero => intro _; simp [optText, Lib.join_nil]; rfl
    | succ n ih =>
      intro hn
      have h1 := ih (by omega)
      have h2 := h _ (rdOf_mem (show n < l.length by omega))
      rw [take_one (by omega), optText_snoc, Nat.add_mul]
      split
      · omega
      · rw [ByteArray.size_append, ByteArray.size_append]
        have : (⟨#[44]⟩ : ByteArray).size = 1 := rfl
        omega
  have := key l.length (Nat.le_refl _)
  rwa [List.take_length] at this
theorem optionText_l (l : List ByteArray) (hl : l.length ≤ 2147483647) (M : Nat) (hM : M ≤ 2147483647) (hs : ∀ x ∈ l, x.size ≤ M) : ∀ (m n k : Nat), m + n = l.length → m < k →
    spec_OptionText.l0 k (optText (l.take n)) l l.length n = some (optText l) := by
  intro m
  induction m with
  | zero =>
    intro n k hn hk
    obtain ⟨k, rfl⟩ : ∃ j, k = j + 1 := ⟨k - 1, by omega⟩
    have : n = l.length := by omega
    subst this
    simp only [spec_OptionText.l0]
    rw [if_neg (by omega), List.take_length]
  | succ m ih =>
    intro n k hn hk
    obtain ⟨k, rfl⟩ : ∃ j, k = j + 1 := ⟨k - 1, by omega⟩
    have hlt : n < l.length := by omega
    have hw : wrap64 ((n : Int) + 1) = ((n + 1 : Nat) : Int) := by unfold wrap64; omega
    have hsz := hs _ (rdOf_mem hlt)
    have hso := optText_size M (l.take n) (fun x hx => hs x (List.mem_of_mem_take hx))
    have hlen : (l.take n).length = n := by simp; omega
    rw [hlen] at hso
    have hb : n * (M + 1) ≤ 2147483647 * 2147483648 := Nat.mul_le_mul (by omega) (by omega)
    have hi := ih (n + 1) k (by omega) (by omega)
    rw [take_one hlt, optText_snoc] at hi
    have e44 : (⟨#[44]⟩ : ByteArray).size = 1 := rfl
    simp only [spec_OptionText.l0]
    rw [if_pos (by omega), if_pos (by omega), if_pos (by omega), hw]
    by_cases h0 : n = 0
    · subst h0
      rw [if_neg (by omega)]
      have e0 : optText (l.take 0) = ⟨#[]⟩ := by simp [optText, Lib.join_nil]
      rw [if_pos (by simp)] at hi
      rw [e0, if_pos (by have : (⟨#[]⟩ : ByteArray).size = 0 := rfl; omega)]
      have e1 : (⟨#[]⟩ : ByteArray) ++ rdOf ByteArray.empty l ((0 : Nat) : Int) = rdOf ByteArray.empty l ((0 : Nat) : Int) := by apply ByteArray.ext; simp
      rw [e1]
      exact hi
    · have hne : l.take n ≠ [] := fun e => by rw [e] at hlen; simp at hlen; omega
      rw [if_neg hne] at hi
      rw [if_pos (by omega), if_pos (by omega), if_pos (by rw [ByteArray.size_append]; omega)]
      exact hi
theorem optionText_is (l : List ByteArray) (hl : l.length ≤ 2147483647) (M : Nat) (hM : M ≤ 2147483647) (hs : ∀ x ∈ l, x.size ≤ M) (k : Nat) (hk : l.length < k) : spec_OptionText.f k l = some (optText l) := by
  unfold spec_OptionText.f
  have h := optionText_l l hl M hM hs l.length 0 k (by omega) hk
  simpa [optText, Lib.join_nil] using h

/-- A constraint's text but for its last sign. -/
def bodyText (l : List (List ByteArray)) : ByteArray := l.foldl (fun a o => a ++ ((⟨#[32]⟩ : ByteArray) ++ optText o)) ⟨#[47, 47, 32, 43, 98, 117, 105, 108, 100]⟩
def conText (l : List (List ByteArray)) : ByteArray := bodyText l ++ (⟨#[10]⟩ : ByteArray)
theorem bodyText_snoc {l : List (List ByteArray)} {n : Nat} (h : n < l.length) : bodyText (l.take (n + 1)) = bodyText (l.take n) ++ ((⟨#[32]⟩ : ByteArray) ++ optText (rd_L1 l n)) := by
  have : l.take (n + 1) = l.take n ++ [rd_L1 l n] := by
    rw [List.take_succ_eq_append_getElem h]
    simp [rd_L1, List.getD, h]
  rw [this]
  simp [bodyText]
theorem bodyText_size (N M : Nat) (l : List (List ByteArray)) (hs : small N M l) : ∀ n, n ≤ l.length → (bodyText (l.take n)).size ≤ 9 + n * (1 + N * (M + 1)) := by
  intro n
  induction n with
  | zero => intro _; simp [bodyText]; exact Nat.le_refl 9
  | succ n ih =>
    intro hn
    have h1 := ih (by omega)
    obtain ⟨h2, h3⟩ := hs.2 _ (rd1_mem (show n < l.length by omega))
    have h4 := optText_size M _ h3
    have h5 : (rd_L1 l n).length * (M + 1) ≤ N * (M + 1) := Nat.mul_le_mul_right _ h2
    rw [bodyText_snoc (by omega), ByteArray.size_append, ByteArray.size_append, Nat.add_mul]
    have : (⟨#[32]⟩ : ByteArray).size = 1 := rfl
    omega
theorem constraintText_l (N M : Nat) (l : List (List ByteArray)) (hs : small N M l) (hN : N ≤ 2000) (hM : M ≤ 2147483647) : ∀ (m n k : Nat), m + n = l.length → m + N < k →
    spec_ConstraintText.l0 k (bodyText (l.take n)) l l.length n = some (conText l) := by
  have hlN := hs.1
  have hNM : N * (M + 1) ≤ 2000 * 2147483648 := Nat.mul_le_mul (by omega) (by omega)
  intro m
  induction m with
  | zero =>
    intro n k hn hk
    obtain ⟨k, rfl⟩ : ∃ j, k = j + 1 := ⟨k - 1, by omega⟩
    have hn2 : n = l.length := by omega
    subst hn2
    have hb := bodyText_size N M l hs l.length (Nat.le_refl _)
    have hb2 : l.length * (1 + N * (M + 1)) ≤ 2000 * (1 + 2000 * 2147483648) := Nat.mul_le_mul (by omega) (by omega)
    simp only [spec_ConstraintText.l0]
    rw [if_neg (by omega), if_pos (by omega), List.take_length]
    rfl
  | succ m ih =>
    intro n k hn hk
    obtain ⟨k, rfl⟩ : ∃ j, k = j + 1 := ⟨k - 1, by omega⟩
    have hlt : n < l.length := by omega
    have hw : wrap64 ((n : Int) + 1) = ((n + 1 : Nat) : Int) := by unfold wrap64; omega
    obtain ⟨h2, h3⟩ := hs.2 _ (rd1_mem hlt)
    have hb := bodyText_size N M l hs n (by omega)
    have hb2 : n * (1 + N * (M + 1)) ≤ 2000 * (1 + 2000 * 2147483648) := Nat.mul_le_mul (by omega) (by omega)
    have h4 := optText_size M _ h3
    have h5 : (rd_L1 l n).length * (M + 1) ≤ N * (M + 1) := Nat.mul_le_mul_right _ h2
    have e32 : (⟨#[32]⟩ : ByteArray).size = 1 := rfl
    have hi := ih (n + 1) k (by omega) (by omega)
    rw [bodyText_snoc hlt] at hi
    simp only [spec_ConstraintText.l0]
    rw [if_pos (by omega), if_pos (by omega), if_pos (by omega), hw, optionText_is _ (by omega) M hM h3 k (by omega)]
    simp only [Option.bind_some]
    rw [if_pos (by omega), if_pos (by rw [ByteArray.size_append]; omega)]
    exact hi
theorem constraintText_is (N M : Nat) (l : List (List ByteArray)) (hs : small N M l) (hN : N ≤ 2000) (hM : M ≤ 2147483647) (k : Nat) (hk : 2 * N < k) : spec_ConstraintText.f k l = some (conText l) := by
  unfold spec_ConstraintText.f
  exact constraintText_l N M l hs hN hM l.length 0 k (by omega) (by have := hs.1; omega)
end Go.Proofs.YtknldfighehplaaDoor.HFnConstraintText
