/- Lists of options as the printed functions read them: what fits, what is valid, how many terms; an option and a constraint as texts; conditions: lengths in bounds. -/
import Derived.Test.YtknldfighehplaaDoorHFnTextBackPlain
import Derived.Lib.Join
namespace Go.Proofs.YtknldfighehplaaDoor.HFnTextBackList
set_option linter.unusedSimpArgs false
set_option linter.unusedVariables false
open Go.RowKit Go.Proofs.YtknldfighehplaaDoor.HFnTextBackPlain Go.Proofs.YtknldfighehplaaDoor.PFnTextBack Go.Proofs.YtknldfighehplaaDoorW.PrintWords Go.Proofs.YtknldfighehplaaDoorW.PrintLast Go.Proofs.YtknldfighehplaaDoorW.PrintMore

theorem drop_rdOf {l : List ByteArray} {n : Nat} (h : n < l.length) : l.drop n = rdOf ByteArray.empty l n :: l.drop (n + 1) := by
  rw [List.drop_eq_getElem_cons h]
  simp [rdOf, List.getD, h]
theorem rdOf_mem {l : List ByteArray} {n : Nat} (h : n < l.length) : rdOf ByteArray.empty l n ∈ l := by
  simp [rdOf, List.getD, h]
theorem drop_rd1 {l : List (List ByteArray)} {n : Nat} (h : n < l.length) : l.drop n = rd_L5 l n :: l.drop (n + 1) := by
  rw [List.drop_eq_getElem_cons h]
  simp [rd_L5, List.getD, h]
theorem rd1_mem {l : List (List ByteArray)} {n : Nat} (h : n < l.length) : rd_L5 l n ∈ l := by
  simp [rd_L5, List.getD, h]

theorem fits_l (l : List ByteArray) (hl : l.length ≤ 2147483647) : ∀ (m n k : Nat), m + n = l.length → m < k →
    laws_zzFits7.l0 k l l.length n = some ((l.drop n).all fun y => decide (y.size ≤ 2147483647)) := by
  intro m
  induction m with
  | zero =>
    intro n k hn hk
    obtain ⟨k, rfl⟩ : ∃ j, k = j + 1 := ⟨k - 1, by omega⟩
    have : n = l.length := by omega
    subst this
    simp only [laws_zzFits7.l0]
    rw [if_neg (by omega), List.drop_length]
    simp
  | succ m ih =>
    intro n k hn hk
    obtain ⟨k, rfl⟩ : ∃ j, k = j + 1 := ⟨k - 1, by omega⟩
    have hlt : n < l.length := by omega
    have hw : wrap64 ((n : Int) + 1) = ((n + 1 : Nat) : Int) := by unfold wrap64; omega
    simp only [laws_zzFits7.l0]
    rw [if_pos (by omega), if_pos (by omega), if_pos (by omega), hw, drop_rdOf hlt, ih (n + 1) k (by omega) (by omega)]
    simp only [List.all_cons]
    by_cases h : (rdOf ByteArray.empty l n).size ≤ 2147483647
    · have h2 : ¬ ((rdOf ByteArray.empty l n).size : Int) > 2147483647 := by omega
      simp [h, h2]
    · have h2 : ((rdOf ByteArray.empty l n).size : Int) > 2147483647 := by omega
      simp [h, h2]
def fits7 (l : List ByteArray) : Bool := decide (l.length ≤ 2147483647) && l.all fun y => decide (y.size ≤ 2147483647)
theorem fits_is (l : List ByteArray) (k : Nat) (hk : l.length < k) : laws_zzFits7.f k l = some (fits7 l) := by
  unfold laws_zzFits7.f fits7
  by_cases h : l.length ≤ 2147483647
  · rw [if_neg (by omega)]
    have := fits_l l h l.length 0 k (by omega) hk
    simpa [h] using this
  · rw [if_pos (by omega)]; simp [h]
/-- No list within is longer than M. -/
def within (M : Nat) (l : List (List ByteArray)) : Prop := ∀ o ∈ l, o.length ≤ M
theorem fits19_l (l : List (List ByteArray)) (hl : l.length ≤ 2147483647) (M : Nat) (hM : within M l) : ∀ (m n k : Nat), m + n = l.length → m + M < k →
    laws_zzFits19.l0 k l l.length n = some ((l.drop n).all fits7) := by
  intro m
  induction m with
  | zero =>
    intro n k hn hk
    obtain ⟨k, rfl⟩ : ∃ j, k = j + 1 := ⟨k - 1, by omega⟩
    have : n = l.length := by omega
    subst this
    simp only [laws_zzFits19.l0]
    rw [if_neg (by omega), List.drop_length]
    simp
  | succ m ih =>
    intro n k hn hk
    obtain ⟨k, rfl⟩ : ∃ j, k = j + 1 := ⟨k - 1, by omega⟩
    have hlt : n < l.length := by omega
    have hw : wrap64 ((n : Int) + 1) = ((n + 1 : Nat) : Int) := by unfold wrap64; omega
    have hin := hM _ (rd1_mem hlt)
    simp only [laws_zzFits19.l0]
    rw [if_pos (by omega), if_pos (by omega), if_pos (by omega), hw, drop_rd1 hlt, ih (n + 1) k (by omega) (by omega), fits_is _ k (by omega)]
    simp only [List.all_cons, Option.bind_some]
    cases fits7 (rd_L5 l n) <;> simp
def fits19 (l : List (List ByteArray)) : Bool := decide (l.length ≤ 2147483647) && l.all fits7
theorem fits19_is (l : List (List ByteArray)) (M : Nat) (hM : within M l) (k : Nat) (hk : l.length + M < k) : laws_zzFits19.f k l = some (fits19 l) := by
  unfold laws_zzFits19.f fits19
  by_cases h : l.length ≤ 2147483647
  · rw [if_neg (by omega)]
    have := fits19_l l h M hM l.length 0 k (by omega) hk
    simpa [h] using this
  · rw [if_pos (by omega)]; simp [h]

theorem optionValid_l (l : List ByteArray) (hl : l.length ≤ 2147483647) (M : Nat) (hM : M ≤ 2147483647) (hs : ∀ x ∈ l, x.size ≤ M) : ∀ (m n k : Nat), m + n = l.length → m + M < k →
    spec_OptionValid.l0 k l l.length n = some ((l.drop n).all valid) := by
  intro m
  induction m with
  | zero =>
    intro n k hn hk
    obtain ⟨k, rfl⟩ : ∃ j, k = j + 1 := ⟨k - 1, by omega⟩
    have : n = l.length := by omega
    subst this
    simp only [spec_OptionValid.l0]
    rw [if_neg (by omega), List.drop_length]
    simp
  | succ m ih =>
    intro n k hn hk
    obtain ⟨k, rfl⟩ : ∃ j, k = j + 1 := ⟨k - 1, by omega⟩
    have hlt : n < l.length := by omega
    have hw : wrap64 ((n : Int) + 1) = ((n + 1 : Nat) : Int) := by unfold wrap64; omega
    have hsz := hs _ (rdOf_mem hlt)
    simp only [spec_OptionValid.l0]
    rw [if_pos (by omega), if_pos (by omega), if_pos (by omega), hw, drop_rdOf hlt, ih (n + 1) k (by omega) (by omega), termValid_is _ (by omega) k (by omega)]
    simp only [List.all_cons, Option.bind_some]
    cases valid (rdOf ByteArray.empty l n) <;> simp
theorem optionValid_is (l : List ByteArray) (hl : l.length ≤ 2147483647) (M : Nat) (hM : M ≤ 2147483647) (hs : ∀ x ∈ l, x.size ≤ M) (k : Nat) (hk : l.length + M < k) : spec_OptionValid.f k l = some (l.all valid) := by
  unfold spec_OptionValid.f
  have h := optionValid_l l hl M hM hs l.length 0 k (by omega) hk
  simpa using h
/-- Lists of at most N options of at most N terms of at most M bytes. -/
def small (N M : Nat) (l : List (List ByteArray)) : Prop := l.length ≤ N ∧ ∀ o ∈ l, o.length ≤ N ∧ ∀ x ∈ o, x.size ≤ M
theorem constraintValid_l (N M : Nat) (l : List (List ByteArray)) (hs : small N M l) (hN : N ≤ 2147483647) (hM : M ≤ 2147483647) : ∀ (m n k : Nat), m + n = l.length → m + N + M < k →
    spec_ConstraintValid.l0 k l l.length n = some ((l.drop n).all fun o => o.all valid) := by
  intro m
  induction m with
  | zero =>
    intro n k hn hk
    obtain ⟨k, rfl⟩ : ∃ j, k = j + 1 := ⟨k - 1, by omega⟩
    have : n = l.length := by omega
    subst this
    simp only [spec_ConstraintValid.l0]
    rw [if_neg (by omega), List.drop_length]
    simp
  | succ m ih =>
    intro n k hn hk
    obtain ⟨k, rfl⟩ : ∃ j, k = j + 1 := ⟨k - 1, by omega⟩
    have hlt : n < l.length := by omega
    have hlN := hs.1
    have hw : wrap64 ((n : Int) + 1) = ((n + 1 : Nat) : Int) := by unfold wrap64; omega
    obtain ⟨ho, hx⟩ := hs.2 _ (rd1_mem hlt)
    simp only [spec_ConstraintValid.l0]
    rw [if_pos (by omega), if_pos (by omega), if_pos (by omega), hw, drop_rd1 hlt, ih (n + 1) k (by omega) (by omega), optionValid_is _ (by omega) M hM hx k (by omega)]
    simp only [List.all_cons, Option.bind_some]
    cases (rd_L5 l n).all valid <;> simp
theorem constraintValid_is (N M : Nat) (l : List (List ByteArray)) (hs : small N M l) (hN : N ≤ 2147483647) (hM : M ≤ 2147483647) (k : Nat) (hk : 2 * N + M < k) : spec_ConstraintValid.f k l = some (l.all fun o => o.all valid) := by
  unfold spec_ConstraintValid.f
  have h := constraintValid_l N M l hs hN hM l.length 0 k (by omega) (by have := hs.1; omega)
  simpa using h

theorem ifs {α : Type} (a b : Bool) (p q : α) : (if a = true then (if b = true then p else q) else q) = if (a && b) = true then p else q := by cases a <;> simp
theorem w01 : wrap64 (0 + 1) = 1 := by unfold wrap64; omega
theorem asc2 (M : Nat) (hM : M ≤ 2147483647) (l : List (List ByteArray)) (j : Int) (o : List ByteArray) (ho : o.length ≤ 2147483647) (hs : ∀ x ∈ o, x.size ≤ M) (k : Nat) (hk : M < k) : ∀ (m n : Nat), m + n = o.length →
    spec_AsciiAll.l2 (k + m + 1) [l] 1 0 l l.length j o o.length n = if (o.drop n).all ascii = true then spec_AsciiAll.l1 k [l] 1 0 l l.length (wrap64 (j + 1)) else some false := by
  intro m
  induction m with
  | zero =>
    intro n hn
    have : n = o.length := by omega
    subst this
    rw [spec_AsciiAll.l2, if_neg (by omega), List.drop_length, if_pos (by simp)]
  | succ m ih =>
    intro n hn
    have hlt : n < o.length := by omega
    have hw : wrap64 ((n : Int) + 1) = ((n + 1 : Nat) : Int) := by unfold wrap64; omega
    have hsz := hs _ (rdOf_mem hlt)
    rw [show k + (m + 1) + 1 = (k + m + 1) + 1 by omega, spec_AsciiAll.l2, if_pos (by omega), if_pos (by omega), if_pos (by omega), hw, ascii_is _ (by omega) _ (by omega), drop_rdOf hlt, ih (n + 1) (by omega)]
    simp only [Option.bind_some, List.all_cons]
    exact ifs _ _ _ _
def cost (l : List (List ByteArray)) : Nat := (l.map fun o => o.length + 2).sum
theorem asc1 (N M : Nat) (hM : M ≤ 2147483647) (l : List (List ByteArray)) (hN : N ≤ 2147483647) (hs : small N M l) (k : Nat) (hk : M < k) : ∀ (m j : Nat), m + j = l.length →
    spec_AsciiAll.l1 (k + cost (l.drop j) + 1) [l] 1 0 l l.length j = if ((l.drop j).all fun o => o.all ascii) = true then spec_AsciiAll.l0 k [l] 1 (wrap64 (0 + 1)) else some false := by
  have hlN := hs.1
  intro m
  induction m with
  | zero =>
    intro j hj
    have : j = l.length := by omega
    subst this
    rw [List.drop_length, spec_AsciiAll.l1, if_neg (by omega), if_pos (by simp)]
    rfl
  | succ m ih =>
    intro j hj
    have hlt : j < l.length := by omega
    have hw : wrap64 ((j : Int) + 1) = ((j + 1 : Nat) : Int) := by unfold wrap64; omega
    obtain ⟨ho, hx⟩ := hs.2 _ (rd1_mem hlt)
    have hc : k + cost (l.drop j) + 1 = ((k + cost (l.drop (j + 1)) + 1) + (rd_L5 l j).length + 1) + 1 := by
      rw [drop_rd1 hlt]; simp only [cost, List.map_cons, List.sum_cons]; omega
    have h2 := asc2 M hM l j (rd_L5 l j) (by omega) hx (k + cost (l.drop (j + 1)) + 1) (by omega) (rd_L5 l j).length 0 (by omega)
    rw [hc, spec_AsciiAll.l1, if_pos (by omega), if_pos (by omega), if_pos (by omega)]
    rw [show ((0 : Nat) : Int) = 0 from rfl] at h2
    rw [h2, hw, ih (j + 1) (by omega), List.drop_zero, drop_rd1 hlt, List.all_cons]
    exact ifs _ _ _ _
theorem rd2 (l : List (List ByteArray)) : rd_L6 [l] 0 = l := rfl
theorem asciiAll_is (N M : Nat) (hM : M ≤ 2147483647) (l : List (List ByteArray)) (hN : N ≤ 2147483647) (hs : small N M l) : spec_AsciiAll.f ((M + 1) + cost l + 1 + 1) [l] = some (l.all fun o => o.all ascii) := by
  have h := asc1 N M hM l hN hs (M + 1) (by omega) l.length 0 (by omega)
  rw [List.drop_zero] at h
  unfold spec_AsciiAll.f
  rw [spec_AsciiAll.l0, if_pos (by simp), if_pos (by omega), if_pos (by simp), rd2]
  rw [show ((0 : Nat) : Int) = 0 from rfl] at h
  rw [show (([l] : List (List (List ByteArray))).length : Int) = 1 from rfl, h]
  have e : spec_AsciiAll.l0 (M + 1) [l] 1 (wrap64 (0 + 1)) = some true := by
    rw [w01, spec_AsciiAll.l0, if_neg (by omega)]
  rw [e]
  cases h9 : (l.all fun o => o.all ascii) <;> simp

def tot (l : List (List ByteArray)) : Nat := (l.map List.length).sum
theorem tot_le (N : Nat) : ∀ (l : List (List ByteArray)), within N l → tot l ≤ l.length * N
  | [], _ => by simp [tot]
  | o :: l, h => by
    have h1 := tot_le N l (fun x hx => h x (by simp [hx]))
    have h2 := h o (by simp)
    simp only [tot, List.map_cons, List.sum_cons, List.length_cons, Nat.add_mul] at h1 ⊢
    omega
theorem mem_tot : ∀ (l : List (List ByteArray)), ∀ o ∈ l, o.length ≤ tot l
  | [], o, h => by cases h
  | a :: l, o, h => by
    simp only [tot, List.map_cons, List.sum_cons]
    rcases List.mem_cons.1 h with rfl | h
    · omega
    · have := mem_tot l o h
      simp only [tot] at this
      omega
theorem terms1 (l : List (List ByteArray)) (hl : l.length ≤ 2147483647) (k : Nat) : ∀ (m n acc : Nat), m + n = l.length → acc + tot (l.drop n) ≤ 9000000000000000000 →
    laws_terms.l1 (k + m + 1) [l] acc [l] 1 0 l l.length n = laws_terms.l0 k [l] ((acc + tot (l.drop n) : Nat) : Int) [l] 1 (wrap64 (0 + 1)) := by
  intro m
  induction m with
  | zero =>
    intro n acc hn ha
    have : n = l.length := by omega
    subst this
    rw [laws_terms.l1, if_neg (by omega), List.drop_length]
    rfl
  | succ m ih =>
    intro n acc hn ha
    have hlt : n < l.length := by omega
    have hw : wrap64 ((n : Int) + 1) = ((n + 1 : Nat) : Int) := by unfold wrap64; omega
    have ht : tot (l.drop n) = (rd_L5 l n).length + tot (l.drop (n + 1)) := by rw [drop_rd1 hlt]; simp [tot]
    have hw2 : wrap64 ((acc : Int) + ((rd_L5 l n).length : Int)) = ((acc + (rd_L5 l n).length : Nat) : Int) := by unfold wrap64; omega
    rw [show k + (m + 1) + 1 = (k + m + 1) + 1 by omega, laws_terms.l1, if_pos (by omega), if_pos (by omega), if_pos (by omega), hw, hw2, ih (n + 1) _ (by omega) (by omega), ht]
    congr 2
    omega
/-- What the law lets pass: at most 2000 of all, every byte plain. -/
def fewOf (l : List (List ByteArray)) (tags : List ByteArray) : Bool := decide (tags.length + 1 + l.length + tot l ≤ 2000) && (l.all fun o => o.all ascii)
theorem terms_is (l : List (List ByteArray)) (tags : List ByteArray) (hl : l.length ≤ 2147483647) (ht : tags.length ≤ 2147483647) (hs : small 2147483647 2147483647 l) :
    ∃ K, laws_terms.f K [l] tags = some (fewOf l tags) := by
  have htot : tot l ≤ 2147483647 * 2147483647 := Nat.le_trans (tot_le 2147483647 l (fun o ho => (hs.2 o ho).1)) (Nat.mul_le_mul_right _ hl)
  have hasc := asciiAll_is 2147483647 2147483647 (by omega) l (by omega) hs
  generalize (2147483647 + 1 + cost l + 1 + 1 : Nat) = k at hasc
  refine ⟨(((k + 1) + l.length + 1) + 1), ?_⟩
  have hw0 : wrap64 ((tags.length : Int) + (([l] : List (List (List ByteArray))).length : Int)) = ((tags.length + 1 : Nat) : Int) := by
    rw [show (([l] : List (List (List ByteArray))).length : Int) = 1 from rfl]; unfold wrap64; omega
  have hw1 : wrap64 (((tags.length + 1 : Nat) : Int) + (l.length : Int)) = ((tags.length + 1 + l.length : Nat) : Int) := by unfold wrap64; omega
  have h1 := terms1 l hl (k + 1) l.length 0 (tags.length + 1 + l.length) (by omega) (by rw [List.drop_zero]; omega)
  rw [List.drop_zero, show ((0 : Nat) : Int) = 0 from rfl] at h1
  unfold laws_terms.f
  rw [hw0, show (([l] : List (List (List ByteArray))).length : Int) = 1 from rfl, laws_terms.l0, if_pos (by omega), if_pos (by omega), if_pos (by simp), rd2, hw1, h1, w01, laws_terms.l0, if_neg (by omega)]
  unfold fewOf
  by_cases hx : tags.length + 1 + l.length + tot l ≤ 2000
  · rw [if_pos (by omega), hasc]; simp [hx]
  · rw [if_neg (by omega)]; simp [hx]
theorem few_small (l : List (List ByteArray)) (tags : List ByteArray) (hs : small 2147483647 2147483647 l) (h : fewOf l tags = true) : small 2000 2147483647 l ∧ tags.length ≤ 2000 ∧ ∀ o ∈ l, ∀ x ∈ o, ascii x = true := by
  unfold fewOf at h
  simp only [Bool.and_eq_true, decide_eq_true_eq, List.all_eq_true] at h
  refine ⟨⟨by omega, fun o ho => ⟨?_, (hs.2 o ho).2⟩⟩, by omega, h.2⟩
  have := mem_tot l o ho
  omega
theorem fits_small (l : List (List ByteArray)) (h : fits19 l = true) : small 2147483647 2147483647 l := by
  unfold fits19 fits7 at h
  simp only [Bool.and_eq_true, decide_eq_true_eq, List.all_eq_true] at h
  exact ⟨h.1, fun o ho => ⟨(h.2 o ho).1, (h.2 o ho).2⟩⟩
theorem join_snoc (xs : List (List UInt8)) (y sep : List UInt8) : Lib.join (xs ++ [y]) sep = if xs = [] then y else Lib.join xs sep ++ sep ++ y := by
  cases xs with
  | nil => simp [Lib.join_one]
  | cons x r =>
    rw [List.cons_append, Lib.join_cons, Lib.join_cons, if_neg (by simp)]
    simp [Lib.joinTail, List.append_assoc]
/-- An option's text: its terms, a comma between two. -/
def optText (l : List ByteArray) : ByteArray := ⟨(Lib.join (l.map (·.data.toList)) [44]).toArray⟩
theorem toBytes (s : ByteArray) : (⟨s.data.toList.toArray⟩ : ByteArray) = s := by cases s; simp
theorem app_bytes (a b : List UInt8) : (⟨(a ++ b).toArray⟩ : ByteArray) = (⟨a.toArray⟩ : ByteArray) ++ ⟨b.toArray⟩ := by
  apply ByteArray.ext
  simp
theorem optText_snoc (l : List ByteArray) (y : ByteArray) : optText (l ++ [y]) = if l = [] then y else optText l ++ ⟨#[44]⟩ ++ y := by
  unfold optText
  rw [List.map_append, List.map_cons, List.map_nil, join_snoc]
  cases l with
  | nil => simp [toBytes]
  | cons x r =>
    rw [if_neg (by simp), if_neg (by simp), app_bytes, app_bytes, toBytes]
theorem take_one {l : List ByteArray} {n : Nat} (h : n < l.length) : l.take (n + 1) = l.take n ++ [rdOf ByteArray.empty l n] := by
  rw [List.take_succ_eq_append_getElem h]
  simp [rdOf, List.getD, h]
theorem optText_size (M : Nat) (l : List ByteArray) (h : ∀ x ∈ l, x.size ≤ M) : (optText l).size ≤ l.length * (M + 1) := by
  have key : ∀ n, n ≤ l.length → (optText (l.take n)).size ≤ n * (M + 1) := by
    intro n
    induction n with
    | zero => intro _; simp [optText, Lib.join_nil]; rfl
    | succ n ih =>
      intro hn
      have h1 := ih (by omega)
      have h2 := h _ (rdOf_mem (show n < l.length by omega))
      rw [take_one (by omega), optText_snoc, Nat.add_mul]
      split
      · omega
      · rw [ByteArray.size_append, ByteArray.size_append]
        have : (⟨#[44]⟩ : ByteArray).size = 1 := rfl
        omega
  have := key l.length (Nat.le_refl _)
  rwa [List.take_length] at this
/-- A constraint's text but for its last sign. -/
def bodyText (l : List (List ByteArray)) : ByteArray := l.foldl (fun a o => a ++ ((⟨#[32]⟩ : ByteArray) ++ optText o)) ⟨#[47, 47, 32, 43, 98, 117, 105, 108, 100]⟩
def conText (l : List (List ByteArray)) : ByteArray := bodyText l ++ (⟨#[10]⟩ : ByteArray)
theorem bodyText_snoc {l : List (List ByteArray)} {n : Nat} (h : n < l.length) : bodyText (l.take (n + 1)) = bodyText (l.take n) ++ ((⟨#[32]⟩ : ByteArray) ++ optText (rd_L5 l n)) := by
  have : l.take (n + 1) = l.take n ++ [rd_L5 l n] := by
    rw [List.take_succ_eq_append_getElem h]
    simp [rd_L5, List.getD, h]
  rw [this]
  simp [bodyText]
theorem bodyText_size (N M : Nat) (l : List (List ByteArray)) (hs : small N M l) : ∀ n, n ≤ l.length → (bodyText (l.take n)).size ≤ 9 + n * (1 + N * (M + 1)) := by
  intro n
  induction n with
  | zero => intro _; simp [bodyText]; exact Nat.le_refl 9
  | succ n ih =>
    intro hn
    have h1 := ih (by omega)
    obtain ⟨h2, h3⟩ := hs.2 _ (rd1_mem (show n < l.length by omega))
    have h4 := optText_size M _ h3
    have h5 : (rd_L5 l n).length * (M + 1) ≤ N * (M + 1) := Nat.mul_le_mul_right _ h2
    rw [bodyText_snoc (by omega), ByteArray.size_append, ByteArray.size_append, Nat.add_mul]
    have : (⟨#[32]⟩ : ByteArray).size = 1 := rfl
    omega
end Go.Proofs.YtknldfighehplaaDoor.HFnTextBackList
