/- Words joined and cut again, as lists of bytes; no conditions. -/
import Derived.Lib.Fields
import Derived.Lib.Join
import Derived.Test.YtknldfighehplaaDoorHSplit
namespace Go.Proofs.YtknldfighehplaaDoor.HBack
set_option linter.unusedSimpArgs false
set_option linter.unusedVariables false
open Go.Proofs.YtknldfighehplaaDoor.HSplit

theorem split_app (p : UInt8 → Bool) (c : UInt8) (hc : p c = true) : ∀ (x y : List UInt8), (∀ d ∈ x, p d = false) → splitL p (x ++ c :: y) = x :: splitL p y
  | [], y, _ => by simp [splitL, hc]
  | d :: x, y, h => by
    have hd := h d (by simp)
    have ih := split_app p c hc x y (fun e he => h e (by simp [he]))
    simp [splitL, hd, ih]
theorem split_one (p : UInt8 → Bool) : ∀ x : List UInt8, (∀ d ∈ x, p d = false) → splitL p x = [x]
  | [], _ => by simp [splitL]
  | d :: x, h => by
    have hd := h d (by simp)
    have ih := split_one p x (fun e he => h e (by simp [he]))
    simp [splitL, hd, ih]
theorem join_two (x y : List UInt8) (r : List (List UInt8)) (c : UInt8) : Lib.join (x :: y :: r) [c] = x ++ c :: Lib.join (y :: r) [c] := by
  simp [Lib.join_cons, Lib.joinTail]
theorem split_join (p : UInt8 → Bool) (c : UInt8) (hc : p c = true) : ∀ (r : List (List UInt8)) (x : List UInt8), (∀ y ∈ x :: r, ∀ d ∈ y, p d = false) → splitL p (Lib.join (x :: r) [c]) = x :: r
  | [], x, h => by rw [Lib.join_one]; exact split_one p x (h x (by simp))
  | y :: r, x, h => by
    rw [join_two, split_app p c hc _ _ (h x (by simp)), split_join p c hc r y (fun z hz => h z (by simp only [List.mem_cons] at hz ⊢; exact .inr hz))]
theorem fields_app (c : UInt8) (hc : Lib.isSp c = true) (y : List UInt8) : ∀ (x cur : List UInt8), (∀ d ∈ x, Lib.isSp d = false) → cur ++ x ≠ [] → Lib.fieldsGo cur (x ++ c :: y) = (cur ++ x) :: Lib.fieldsGo [] y
  | [], cur, _, hn => by
    rw [List.append_nil] at hn ⊢
    exact Lib.fieldsGo_end cur c y hc hn
  | d :: x, cur, h, hn => by
    rw [List.cons_append, Lib.fieldsGo_more _ _ _ (h d (by simp)), fields_app c hc y x (cur ++ [d]) (fun e he => h e (by simp [he])) (by simp)]
    simp
theorem fields_last : ∀ (x cur : List UInt8), (∀ d ∈ x, Lib.isSp d = false) → cur ++ x ≠ [] → Lib.fieldsGo cur x = [cur ++ x]
  | [], cur, _, hn => by
    rw [List.append_nil] at hn ⊢
    cases cur with
    | nil => exact absurd rfl hn
    | cons _ _ => rfl
  | d :: x, cur, h, hn => by
    rw [Lib.fieldsGo_more _ _ _ (h d (by simp)), fields_last x (cur ++ [d]) (fun e he => h e (by simp [he])) (by simp)]
    simp
theorem fields_join1 (c : UInt8) (hc : Lib.isSp c = true) : ∀ (r : List (List UInt8)) (x : List UInt8), (∀ y ∈ x :: r, y ≠ [] ∧ ∀ d ∈ y, Lib.isSp d = false) → Lib.fieldsGo [] (Lib.join (x :: r) [c]) = x :: r
  | [], x, h => by
    rw [Lib.join_one]
    have := fields_last x [] (h x (by simp)).2 (by simpa using (h x (by simp)).1)
    simpa using this
  | y :: r, x, h => by
    have h1 := fields_app c hc (Lib.join (y :: r) [c]) x [] (h x (by simp)).2 (by simpa using (h x (by simp)).1)
    rw [join_two, h1, fields_join1 c hc r y (fun z hz => h z (by simp only [List.mem_cons] at hz ⊢; exact .inr hz))]
    rfl
theorem fields_join (c : UInt8) (hc : Lib.isSp c = true) (l : List (List UInt8)) (h : ∀ y ∈ l, y ≠ [] ∧ ∀ d ∈ y, Lib.isSp d = false) : Lib.fields (Lib.join l [c]) = l := by
  cases l with
  | nil => rfl
  | cons x r => exact fields_join1 c hc r x h
theorem mem_join (c : UInt8) (l : List (List UInt8)) (d : UInt8) (h : d ∈ Lib.join l [c]) : d = c ∨ ∃ x ∈ l, d ∈ x := by
  cases l with
  | nil => simp [Lib.join_nil] at h
  | cons x r =>
    rw [Lib.join_cons] at h
    rcases List.mem_append.1 h with h | h
    · exact .inr ⟨x, by simp, h⟩
    · unfold Lib.joinTail at h
      obtain ⟨z, hz, hd⟩ := List.mem_flatten.1 h
      obtain ⟨y, hy, rfl⟩ := List.mem_map.1 hz
      rcases List.mem_append.1 hd with hd | hd
      · exact .inl (by simpa using hd)
      · exact .inr ⟨y, by simp [hy], hd⟩
theorem join_length_le (c : UInt8) (l : List (List UInt8)) : (Lib.join l [c]).length ≤ l.length + (l.map List.length).sum := by
  cases l with
  | nil => simp [Lib.join_nil]
  | cons x r =>
    rw [Lib.join_cons, List.length_append]
    have e : Lib.lens r = (r.map List.length).sum := rfl
    rw [Lib.joinTail_length, e]
    simp only [List.length_cons, List.length_nil, List.map_cons, List.sum_cons]
    omega
end Go.Proofs.YtknldfighehplaaDoor.HBack
