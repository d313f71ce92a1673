/- What the printed zzFits15 and DataKnown come to; conditions: lengths in bounds. -/
import Derived.Test.YtknldfighehplaaHSec3
namespace Go.Proofs.Ytknldfighehplaa.HSecPlain
set_option linter.unusedSimpArgs false
set_option linter.unusedVariables false
open Go.RowKit Go.Proofs.Ytknldfighehplaa.HConst Go.Proofs.Ytknldfighehplaa.HInt Go.Proofs.Ytknldfighehplaa.HSec Go.Proofs.Ytknldfighehplaa.PFnSection

theorem drop51 {l : List S51} {n : Nat} (h : n < l.length) : l.drop n = rd_T51 l n :: l.drop (n + 1) := by
  rw [List.drop_eq_getElem_cons h]
  simp [rd_T51, List.getD, h]
def fit1 (x : S51) : Bool := decide (x.f1.f1.f2.size ≤ 2147483647)
theorem fits16 (x : S51) : laws_zzFits16.f x.f0 x.f1.f0 x.f1.f1.f0 x.f1.f1.f1 x.f1.f1.f2 x.f2 = some (fit1 x) := by
  unfold laws_zzFits16.f laws_zzFits14.f laws_zzFits11.f fit1
  by_cases h : x.f1.f1.f2.size ≤ 2147483647
  · have h2 : ¬ (x.f1.f1.f2.size : Int) > 2147483647 := by omega
    simp [h, h2]
  · have h2 : (x.f1.f1.f2.size : Int) > 2147483647 := by omega
    simp [h, h2]
theorem fits_l (x0 : List S51) (hx : x0.length ≤ 2147483647) : ∀ (m n k : Nat), m + n = x0.length → m < k →
    laws_zzFits15.l0 k x0 x0.length n = some ((x0.drop n).all fit1) := by
  intro m
  induction m with
  | zero =>
    intro n k hn hk
    obtain ⟨k, rfl⟩ : ∃ j, k = j + 1 := ⟨k - 1, by omega⟩
    have : n = x0.length := by omega
    subst this
    simp only [laws_zzFits15.l0]
    rw [if_neg (by omega), List.drop_length]
    simp
  | succ m ih =>
    intro n k hn hk
    obtain ⟨k, rfl⟩ : ∃ j, k = j + 1 := ⟨k - 1, by omega⟩
    have hlt : n < x0.length := by omega
    have hw : wrap64 ((n : Int) + 1) = ((n + 1 : Nat) : Int) := by unfold wrap64; omega
    simp only [laws_zzFits15.l0]
    rw [if_pos (by omega), if_pos (by omega), if_pos (by omega), fits16, hw, drop51 hlt]
    simp only [Option.bind_some, List.all_cons]
    cases h : fit1 (rd_T51 x0 n) with
    | true => rw [if_pos rfl, ih (n + 1) k (by omega) (by omega)]; simp
    | false => rw [if_neg (by decide)]; simp
theorem fits_is (l : List S51) (hl : l.length ≤ 2147483647) : laws_zzFits15.f (l.length + 1) l = some (l.all fit1) := by
  unfold laws_zzFits15.f
  rw [if_neg (by omega)]
  have := fits_l l hl l.length 0 (l.length + 1) (by omega) (by omega)
  simpa using this
theorem fits_long (l : List S51) (hl : 2147483647 < l.length) (k : Nat) : laws_zzFits15.f k l = some false := by
  unfold laws_zzFits15.f
  rw [if_pos (by omega)]
theorem specBytesK (K : Nat) (k b : Int) (t : ByteArray) : spec_Bytes.f (K + 5) k b t = some (HConst.bytesOf k t) := by
  unfold spec_Bytes.f HConst.bytesOf
  simp only [spec_Bytes.j0, spec_Bytes.j1, spec_Bytes.j2, spec_Bytes.j3]
  by_cases c1 : k = 1
  · simp [c1]
  by_cases c2 : k = 2
  · simp [c2]
  by_cases c3 : k = 3
  · simp [c3]
  by_cases c4 : k = 4
  · simp [c4]
  by_cases c5 : k = 5
  · simp [c5]
  by_cases c6 : k = 6
  · simp [c6]
  by_cases c7 : k = 7
  · simp [c7]
  by_cases c8 : k = 8
  · simp [c8]
  by_cases c9 : k = 9
  · simp [c9]
  by_cases c10 : k = 10
  · simp [c10]
  by_cases c11 : k = 11
  · simp [c11]
  simp [*]

/-- Whether a step is one that the law speaks of. -/
def dk (x : S51) : Bool :=
  decide (0 ≤ x.f0) && decide (x.f0 ≤ 2) && !(cok x.f1.f1.f0 && decide (bytesOf x.f1.f1.f0 x.f1.f1.f2 = 0)) && decide (-1073741824 ≤ x.f1.f0) && decide (x.f1.f0 ≤ 1073741824) && decide (-1073741824 ≤ x.f2) && decide (x.f2 ≤ 1073741824)
theorem constOK_is (a b : Int) (t : ByteArray) : spec_ConstOK.f a b t = some (cok a) := by
  unfold spec_ConstOK.f cok
  by_cases h : a ≥ 1
  · rw [if_pos h]; simp [h]
  · rw [if_neg h]
    have : ¬ (1 ≤ a ∧ a ≤ 11) := by omega
    simp [this]
theorem known_l (x0 : List S51) (hx : x0.length ≤ 2147483647) : ∀ (m n k : Nat), m + n = x0.length → m + 5 < k →
    spec_DataKnown.l0 k x0 x0.length n = some ((x0.drop n).all dk) := by
  intro m
  induction m with
  | zero =>
    intro n k hn hk
    obtain ⟨k, rfl⟩ : ∃ j, k = j + 1 := ⟨k - 1, by omega⟩
    have : n = x0.length := by omega
    subst this
    simp only [spec_DataKnown.l0]
    rw [if_neg (by omega), List.drop_length]
    simp
  | succ m ih =>
    intro n k hn hk
    obtain ⟨k, rfl⟩ : ∃ j, k = j + 1 := ⟨k - 1, by omega⟩
    have hby : ∀ a b t, spec_Bytes.f k a b t = some (bytesOf a t) := by
      obtain ⟨i, rfl⟩ : ∃ i, k = i + 5 := ⟨k - 5, by omega⟩
      exact specBytesK i
    have hlt : n < x0.length := by omega
    have hw : wrap64 ((n : Int) + 1) = ((n + 1 : Nat) : Int) := by unfold wrap64; omega
    have IH := ih (n + 1) k (by omega) (by omega)
    simp only [spec_DataKnown.l0]
    rw [if_pos (by omega), if_pos (by omega), if_pos (by omega), constOK_is, hby, hw, drop51 hlt, IH]
    simp only [Option.bind_some, List.all_cons]
    clear IH ih hw hby
    generalize rd_T51 x0 n = x
    generalize (List.drop (n + 1) x0).all dk = r
    unfold dk
    generalize bytesOf x.f1.f1.f0 x.f1.f1.f2 = y
    by_cases h1 : x.f0 < 0
    · rw [if_pos h1]; have : ¬ 0 ≤ x.f0 := by omega
      simp [this]
    rw [if_neg h1]
    by_cases h2 : x.f0 > 2
    · rw [if_pos h2]; have : ¬ x.f0 ≤ 2 := by omega
      simp [this]
    rw [if_neg h2]
    have e1 : 0 ≤ x.f0 := by omega
    have e2 : x.f0 ≤ 2 := by omega
    by_cases h3 : x.f1.f0 < -1073741824 <;> by_cases h4 : x.f1.f0 > 1073741824 <;> by_cases h5 : x.f2 < -1073741824 <;> by_cases h6 : x.f2 > 1073741824 <;> by_cases h7 : y = 0 <;> cases cok x.f1.f1.f0 <;> simp [h3, h4, h5, h6, h7, e1, e2] <;> omega
theorem known_is (l : List S51) (hl : l.length ≤ 2147483647) : spec_DataKnown.f (l.length + 6) l = some (l.all dk) := by
  unfold spec_DataKnown.f
  have := known_l l hl l.length 0 (l.length + 6) (by omega) (by omega)
  simpa using this

theorem bytes_pos {k : Int} {t : ByteArray} (h : cok k = true) : ¬ bytesOf k t < 0 := by
  rcases cok_cases h with rfl | rfl | rfl | rfl | rfl | rfl | rfl | rfl | rfl | rfl | rfl <;> simp [bytesOf]
theorem interval_is (K : Nat) (x : S40) (h : cok x.f1.f0 = true) : spec_Interval.f (K + 5) x.f0 x.f1.f0 x.f1.f1 x.f1.f2 = some (x.f0, ende x) := by
  unfold spec_Interval.f
  rw [specBytesK]
  simp only [Option.bind_some]
  rw [if_neg (bytes_pos h)]
  rfl
theorem overlaps_is (K : Nat) (o d : S40) (ho : cok o.f1.f0 = true) (hd : cok d.f1.f0 = true) :
    spec_Overlaps.f (K + 6) o.f0 o.f1.f0 o.f1.f1 o.f1.f2 d.f0 d.f1.f0 d.f1.f1 d.f1.f2 = some (ovl o d) := by
  unfold spec_Overlaps.f
  rw [constOK_is, constOK_is, ho, hd]
  simp only [Option.bind_some, if_true, spec_Overlaps.j0]
  rw [interval_is K o ho, interval_is K d hd]
  simp only [Option.bind_some, Bool.not_true, Bool.false_eq_true, if_false]
  unfold ovl
  by_cases h : o.f0 < ende d <;> simp [h]
end Go.Proofs.Ytknldfighehplaa.HSecPlain
