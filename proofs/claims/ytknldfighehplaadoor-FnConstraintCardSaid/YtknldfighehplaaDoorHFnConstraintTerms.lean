/- How many terms a list of options bears, and whether all are plain bytes, as the printed functions tell; conditions: lengths in bounds. -/
import Derived.Test.YtknldfighehplaaDoorHFnConstraintList
namespace Go.Proofs.YtknldfighehplaaDoor.HFnConstraintTerms
set_option linter.unusedSimpArgs false
set_option linter.unusedVariables false
open Go.RowKit Go.Proofs.YtknldfighehplaaDoor.HFnConstraintList Go.Proofs.YtknldfighehplaaDoor.HFnConstraintPlain Go.Proofs.YtknldfighehplaaDoor.PFnConstraint Go.Proofs.YtknldfighehplaaDoorW.PrintWords Go.Proofs.YtknldfighehplaaDoorW.PrintLast Go.Proofs.YtknldfighehplaaDoorW.PrintMore

theorem ifs {α : Type} (a b : Bool) (p q : α) : (if a = true then (if b = true then p else q) else q) = if (a && b) = true then p else q := by cases a <;> simp
theorem w01 : wrap64 (0 + 1) = 1 := by unfold wrap64; omega
theorem asc2 (M : Nat) (hM : M ≤ 2147483647) (l : List (List ByteArray)) (j : Int) (o : List ByteArray) (ho : o.length ≤ 2147483647) (hs : ∀ x ∈ o, x.size ≤ M) (k : Nat) (hk : M < k) : ∀ (m n : Nat), m + n = o.length →
    spec_AsciiAll.l2 (k + m + 1) [l] 1 0 l l.length j o o.length n = if (o.drop n).all ascii = true then spec_AsciiAll.l1 k [l] 1 0 l l.length (wrap64 (j + 1)) else some false := by
  intro m
  induction m with
  | zero =>
    intro n hn
    have : n = o.length := by omega
    subst this
    rw [spec_AsciiAll.l2, if_neg (by omega), List.drop_length, if_pos (by simp)]
  | succ m ih =>
    intro n hn
    have hlt : n < o.length := by omega
    have hw : wrap64 ((n : Int) + 1) = ((n + 1 : Nat) : Int) := by unfold wrap64; omega
    have hsz := hs _ (rdOf_mem hlt)
    rw [show k + (m + 1) + 1 = (k + m + 1) + 1 by omega, spec_AsciiAll.l2, if_pos (by omega), if_pos (by omega), if_pos (by omega), hw, ascii_is _ (by omega) _ (by omega), drop_rdOf hlt, ih (n + 1) (by omega)]
    simp only [Option.bind_some, List.all_cons]
    exact ifs _ _ _ _
def cost (l : List (List ByteArray)) : Nat := (l.map fun o => o.length + 2).sum
theorem asc1 (N M : Nat) (hM : M ≤ 2147483647) (l : List (List ByteArray)) (hN : N ≤ 2147483647) (hs : small N M l) (k : Nat) (hk : M < k) : ∀ (m j : Nat), m + j = l.length →
    spec_AsciiAll.l1 (k + cost (l.drop j) + 1) [l] 1 0 l l.length j = if ((l.drop j).all fun o => o.all ascii) = true then spec_AsciiAll.l0 k [l] 1 (wrap64 (0 + 1)) else some false := by
  have hlN := hs.1
  intro m
  induction m with
  | zero =>
    intro j hj
    have : j = l.length := by omega
    subst this
    rw [List.drop_length, spec_AsciiAll.l1, if_neg (by omega), if_pos (by simp)]
    rfl
  | succ m ih =>
    intro j hj
    have hlt : j < l.length := by omega
    have hw : wrap64 ((j : Int) + 1) = ((j + 1 : Nat) : Int) := by unfold wrap64; omega
    obtain ⟨ho, hx⟩ := hs.2 _ (rd1_mem hlt)
    have hc : k + cost (l.drop j) + 1 = ((k + cost (l.drop (j + 1)) + 1) + (rd_L1 l j).length + 1) + 1 := by
      rw [drop_rd1 hlt]; simp only [cost, List.map_cons, List.sum_cons]; omega
    have h2 := asc2 M hM l j (rd_L1 l j) (by omega) hx (k + cost (l.drop (j + 1)) + 1) (by omega) (rd_L1 l j).length 0 (by omega)
    rw [hc, spec_AsciiAll.l1, if_pos (by omega), if_pos (by omega), if_pos (by omega)]
    rw [show ((0 : Nat) : Int) = 0 from rfl] at h2
    rw [h2, hw, ih (j + 1) (by omega), List.drop_zero, drop_rd1 hlt, List.all_cons]
    exact ifs _ _ _ _
theorem rd2 (l : List (List ByteArray)) : rd_L2 [l] 0 = l := rfl
theorem asciiAll_is (N M : Nat) (hM : M ≤ 2147483647) (l : List (List ByteArray)) (hN : N ≤ 2147483647) (hs : small N M l) : spec_AsciiAll.f ((M + 1) + cost l + 1 + 1) [l] = some (l.all fun o => o.all ascii) := by
  have h := asc1 N M hM l hN hs (M + 1) (by omega) l.length 0 (by omega)
  rw [List.drop_zero] at h
  unfold spec_AsciiAll.f
  rw [spec_AsciiAll.l0, if_pos (by simp), if_pos (by omega), if_pos (by simp), rd2]
  rw [show ((0 : Nat) : Int) = 0 from rfl] at h
  rw [show (([l] : List (List (List ByteArray))).length : Int) = 1 from rfl, h]
  have e : spec_AsciiAll.l0 (M + 1) [l] 1 (wrap64 (0 + 1)) = some true := by
    rw [w01, spec_AsciiAll.l0, if_neg (by omega)]
  rw [e]
  cases h9 : (l.all fun o => o.all ascii) <;> simp

def tot (l : List (List ByteArray)) : Nat := (l.map List.length).sum
theorem tot_le (N : Nat) : ∀ (l : List (List ByteArray)), within N l → tot l ≤ l.length * N
  | [], _ => by simp [tot]
  | o :: l, h => by
    have h1 := tot_le N l (fun x hx => h x (by simp [hx]))
    have h2 := h o (by simp)
    simp only [tot, List.map_cons, List.sum_cons, List.length_cons, Nat.add_mul] at h1 ⊢
    omega
theorem mem_tot : ∀ (l : List (List ByteArray)), ∀ o ∈ l, o.length ≤ tot l
  | [], o, h => by cases h
  | a :: l, o, h => by
    simp only [tot, List.map_cons, List.sum_cons]
    rcases List.mem_cons.1 h with rfl | h
    · omega
    · have := mem_tot l o h
      simp only [tot] at this
      omega
theorem terms1 (l : List (List ByteArray)) (hl : l.length ≤ 2147483647) (k : Nat) : ∀ (m n acc : Nat), m + n = l.length → acc + tot (l.drop n) ≤ 9000000000000000000 →
    laws_terms.l1 (k + m + 1) [l] acc [l] 1 0 l l.length n = laws_terms.l0 k [l] ((acc + tot (l.drop n) : Nat) : Int) [l] 1 (wrap64 (0 + 1)) := by
  intro m
  induction m with
  | zero =>
    intro n acc hn ha
    have : n = l.length := by omega
    subst this
    rw [laws_terms.l1, if_neg (by omega), List.drop_length]
    rfl
  | succ m ih =>
    intro n acc hn ha
    have hlt : n < l.length := by omega
    have hw : wrap64 ((n : Int) + 1) = ((n + 1 : Nat) : Int) := by unfold wrap64; omega
    have ht : tot (l.drop n) = (rd_L1 l n).length + tot (l.drop (n + 1)) := by rw [drop_rd1 hlt]; simp [tot]
    have hw2 : wrap64 ((acc : Int) + ((rd_L1 l n).length : Int)) = ((acc + (rd_L1 l n).length : Nat) : Int) := by unfold wrap64; omega
    rw [show k + (m + 1) + 1 = (k + m + 1) + 1 by omega, laws_terms.l1, if_pos (by omega), if_pos (by omega), if_pos (by omega), hw, hw2, ih (n + 1) _ (by omega) (by omega), ht]
    congr 2
    omega
/-- What the law lets pass: at most 2000 of all, every byte plain. -/
def fewOf (l : List (List ByteArray)) (tags : List ByteArray) : Bool := decide (tags.length + 1 + l.length + tot l ≤ 2000) && (l.all fun o => o.all ascii)
theorem terms_is (l : List (List ByteArray)) (tags : List ByteArray) (hl : l.length ≤ 2147483647) (ht : tags.length ≤ 2147483647) (hs : small 2147483647 2147483647 l) :
    ∃ K, laws_terms.f K [l] tags = some (fewOf l tags) := by
  have htot : tot l ≤ 2147483647 * 2147483647 := Nat.le_trans (tot_le 2147483647 l (fun o ho => (hs.2 o ho).1)) (Nat.mul_le_mul_right _ hl)
  have hasc := asciiAll_is 2147483647 2147483647 (by omega) l (by omega) hs
  generalize (2147483647 + 1 + cost l + 1 + 1 : Nat) = k at hasc
  refine ⟨(((k + 1) + l.length + 1) + 1), ?_⟩
  have hw0 : wrap64 ((tags.length : Int) + (([l] : List (List (List ByteArray))).length : Int)) = ((tags.length + 1 : Nat) : Int) := by
    rw [show (([l] : List (List (List ByteArray))).length : Int) = 1 from rfl]; unfold wrap64; omega
  have hw1 : wrap64 (((tags.length + 1 : Nat) : Int) + (l.length : Int)) = ((tags.length + 1 + l.length : Nat) : Int) := by unfold wrap64; omega
  have h1 := terms1 l hl (k + 1) l.length 0 (tags.length + 1 + l.length) (by omega) (by rw [List.drop_zero]; omega)
  rw [List.drop_zero, show ((0 : Nat) : Int) = 0 from rfl] at h1
  unfold laws_terms.f
  rw [hw0, show (([l] : List (List (List ByteArray))).length : Int) = 1 from rfl, laws_terms.l0, if_pos (by omega), if_pos (by omega), if_pos (by simp), rd2, hw1, h1, w01, laws_terms.l0, if_neg (by omega)]
  unfold fewOf
  by_cases hx : tags.length + 1 + l.length + tot l ≤ 2000
  · rw [if_pos (by omega), hasc]; simp [hx]
  · rw [if_neg (by omega)]; simp [hx]
theorem few_small (l : List (List ByteArray)) (tags : List ByteArray) (hs : small 2147483647 2147483647 l) (h : fewOf l tags = true) : small 2000 2147483647 l ∧ tags.length ≤ 2000 ∧ ∀ o ∈ l, ∀ x ∈ o, ascii x = true := by
  unfold fewOf at h
  simp only [Bool.and_eq_true, decide_eq_true_eq, List.all_eq_true] at h
  refine ⟨⟨by omega, fun o ho => ⟨?_, (hs.2 o ho).2⟩⟩, by omega, h.2⟩
  have := mem_tot l o ho
  omega
theorem fits_small (l : List (List ByteArray)) (h : fits19 l = true) : small 2147483647 2147483647 l := by
  unfold fits19 fits7 at h
  simp only [Bool.and_eq_true, decide_eq_true_eq, List.all_eq_true] at h
  exact ⟨h.1, fun o ho => ⟨(h.2 o ho).1, (h.2 o ho).2⟩⟩
end Go.Proofs.YtknldfighehplaaDoor.HFnConstraintTerms
