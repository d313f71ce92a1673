/- Terms of build tags as bytes: which are valid, what the printed functions on them come to; conditions: lengths in bounds. -/
import Derived.Test.YtknldfighehplaaDoorPFnTextBackx1
import Derived.Test.YtknldfighehplaaDoorPFnTextBackx2
import Derived.Test.YtknldfighehplaaDoorQFnTextBackx3
import Derived.Test.YtknldfighehplaaDoorPFnTextBackx4
namespace Go.Proofs.YtknldfighehplaaDoor.HFnTextBackPlain
set_option linter.unusedSimpArgs false
set_option linter.unusedVariables false
open Go.RowKit Go.Proofs.YtknldfighehplaaDoor.PFnTextBack Go.Proofs.YtknldfighehplaaDoorW.PrintWords Go.Proofs.YtknldfighehplaaDoorW.PrintLast Go.Proofs.YtknldfighehplaaDoorW.PrintMore

/-- A letter, a digit, an underscore, a dot. -/
def okc (c : Int) : Bool := decide (97 ≤ c ∧ c ≤ 122) || decide (65 ≤ c ∧ c ≤ 90) || decide (48 ≤ c ∧ c ≤ 57) || decide (c = 95) || decide (c = 46)
/-- The bytes i, i + 1, .., m of them, are such. -/
def okN (s : ByteArray) : Nat → Nat → Bool
  | 0, _ => true
  | m + 1, i => okc (bt s i) && okN s m (i + 1)
def nameOf (s : ByteArray) : ByteArray := if 0 < s.size ∧ bt s 0 = 33 then s.extract 1 s.size else s
def negOf (s : ByteArray) : Bool := decide (0 < s.size ∧ bt s 0 = 33)
def valid (s : ByteArray) : Bool := okN (nameOf s) (nameOf s).size 0 && decide (0 < (nameOf s).size)

theorem size_toList (s : ByteArray) : s.toList.length = s.size := by
  rw [ByteArray.toList_eq, Array.length_toList]; rfl
theorem empty_iff (s : ByteArray) : (s.toList != ([] : List UInt8)) = decide (0 < s.size) := by
  have h := size_toList s
  cases e : s.toList with
  | nil => rw [e] at h; simp at h; simp [← h]
  | cons a l =>
    rw [e] at h
    have h1 : 0 < s.size := by rw [← h]; simp
    simp [h1]
theorem size_extract (s : ByteArray) (h : 1 ≤ s.size) : (s.extract 1 s.size).size = s.size - 1 := by
  rw [ByteArray.size_extract]; omega
theorem nameOf_size (s : ByteArray) : (nameOf s).size ≤ s.size := by
  unfold nameOf
  split
  · rename_i h; rw [size_extract s (by omega)]; omega
  · exact Nat.le_refl _

theorem termParts_is (s : ByteArray) : spec_TermParts.f s = some (negOf s, nameOf s) := by
  unfold spec_TermParts.f negOf nameOf
  by_cases h : 0 < s.size
  · rw [if_pos (by omega), if_pos (by omega)]
    by_cases h1 : bt s 0 = 33
    · rw [if_pos h1, if_pos (by omega), if_pos ⟨h, h1⟩]; simp [h, h1]
    · rw [if_neg h1, if_neg (fun e => h1 e.2)]; simp [h1]
  · rw [if_neg (by omega), if_neg (fun e => h e.1)]; simp [h]

theorem okc_ways (c : Int) {α : Type} (a b : α) : (if okc c = true then a else b) = (if c ≥ 97 then (if c ≤ 122 then a else (if c ≥ 65 then (if c ≤ 90 then a else (if c ≥ 48 then (if c ≤ 57 then a else (if c = 95 then a else (if c = 46 then a else b))) else (if c = 95 then a else (if c = 46 then a else b)))) else (if c ≥ 48 then (if c ≤ 57 then a else (if c = 95 then a else (if c = 46 then a else b))) else (if c = 95 then a else (if c = 46 then a else b))))) else (if c ≥ 65 then (if c ≤ 90 then a else (if c ≥ 48 then (if c ≤ 57 then a else (if c = 95 then a else (if c = 46 then a else b))) else (if c = 95 then a else (if c = 46 then a else b)))) else (if c ≥ 48 then (if c ≤ 57 then a else (if c = 95 then a else (if c = 46 then a else b))) else (if c = 95 then a else (if c = 46 then a else b))))) := by
  have hk : okc c = true ↔ (97 ≤ c ∧ c ≤ 122) ∨ (65 ≤ c ∧ c ≤ 90) ∨ (48 ≤ c ∧ c ≤ 57) ∨ c = 95 ∨ c = 46 := by
    unfold okc
    simp only [Bool.or_eq_true, decide_eq_true_eq]
    omega
  by_cases h : okc c = true
  · rw [if_pos h]
    have h2 := hk.1 h
    clear hk h
    repeat' split
    all_goals first | rfl | (exfalso; omega)
  · rw [if_neg h]
    have h2 : ¬ ((97 ≤ c ∧ c ≤ 122) ∨ (65 ≤ c ∧ c ≤ 90) ∨ (48 ≤ c ∧ c ≤ 57) ∨ c = 95 ∨ c = 46) := fun e => h (hk.2 e)
    clear hk h
    repeat' split
    all_goals first | rfl | (exfalso; omega)

theorem termValid_l (x : ByteArray) (hx : x.size ≤ 2147483647) : ∀ (m n k : Nat), m + n = x.size → m < k →
    spec_TermValid.l0 k x n = some (okN x m n && decide (0 < x.size)) := by
  intro m
  induction m with
  | zero =>
    intro n k hn hk
    obtain ⟨k, rfl⟩ : ∃ j, k = j + 1 := ⟨k - 1, by omega⟩
    simp only [spec_TermValid.l0, okN]
    rw [if_neg (by omega), empty_iff]
    simp
  | succ m ih =>
    intro n k hn hk
    obtain ⟨k, rfl⟩ : ∃ j, k = j + 1 := ⟨k - 1, by omega⟩
    have hw : wrap64 ((n : Int) + 1) = ((n + 1 : Nat) : Int) := by unfold wrap64; omega
    simp only [spec_TermValid.l0, okN]
    rw [if_pos (by omega), if_pos (by omega), hw, ih (n + 1) k (by omega) (by omega)]
    generalize bt x n = c
    rw [← okc_ways]
    cases okc c <;> simp
theorem termValid_is (s : ByteArray) (hs : s.size ≤ 2147483647) (k : Nat) (hk : s.size < k) : spec_TermValid.f k s = some (valid s) := by
  unfold spec_TermValid.f
  have hn := nameOf_size s
  rw [termParts_is]
  simp only [Option.bind_some]
  exact termValid_l (nameOf s) (by omega) (nameOf s).size 0 k (by omega) (by omega)

theorem toList_inj {x y : ByteArray} : x.toList = y.toList ↔ x = y := by
  constructor
  · intro h
    rw [ByteArray.toList_eq, ByteArray.toList_eq] at h
    cases x; cases y
    simp only [ByteArray.mk.injEq]
    exact Array.toList_inj.1 h
  · rintro rfl; rfl
instance : DecidableEq ByteArray := inferInstance
/-- A term's value where just these tags are true. -/
def evalT (s : ByteArray) (tags : List ByteArray) : Bool := valid s && ((tags.any fun y => decide (y = nameOf s)) != negOf s)
/-- Bytes below 128. -/
def ascN (s : ByteArray) : Nat → Nat → Bool
  | 0, _ => true
  | m + 1, i => decide (bt s i ≤ 127) && ascN s m (i + 1)
def ascii (s : ByteArray) : Bool := ascN s s.size 0
theorem ascii_l (x : ByteArray) (hx : x.size ≤ 2147483647) : ∀ (m n k : Nat), m + n = x.size → m < k → spec_Ascii.l0 k x n = some (ascN x m n) := by
  intro m
  induction m with
  | zero =>
    intro n k hn hk
    obtain ⟨k, rfl⟩ : ∃ j, k = j + 1 := ⟨k - 1, by omega⟩
    simp only [spec_Ascii.l0, ascN]
    rw [if_neg (by omega)]
  | succ m ih =>
    intro n k hn hk
    obtain ⟨k, rfl⟩ : ∃ j, k = j + 1 := ⟨k - 1, by omega⟩
    have hw : wrap64 ((n : Int) + 1) = ((n + 1 : Nat) : Int) := by unfold wrap64; omega
    simp only [spec_Ascii.l0, ascN]
    rw [if_pos (by omega), if_pos (by omega), hw, ih (n + 1) k (by omega) (by omega)]
    by_cases h : bt x n > 127
    · rw [if_pos h]; have : ¬ bt x n ≤ 127 := by omega
      simp [this]
    · rw [if_neg h]; have : bt x n ≤ 127 := by omega
      simp [this]
theorem ascii_is (s : ByteArray) (hs : s.size ≤ 2147483647) (k : Nat) (hk : s.size < k) : spec_Ascii.f k s = some (ascii s) := ascii_l s hs s.size 0 k (by omega) hk
theorem ascN_at {s : ByteArray} : ∀ {m i : Nat}, ascN s m i = true → ∀ j, i ≤ j → j < i + m → bt s j ≤ 127
  | 0, i, _, j, h1, h2 => by omega
  | m + 1, i, h, j, h1, h2 => by
    simp only [ascN, Bool.and_eq_true, decide_eq_true_eq] at h
    by_cases e : j = i
    · subst e; exact h.1
    · exact ascN_at h.2 j (by omega) (by omega)
theorem bt_extract1 (s : ByteArray) (i : Nat) (h : i + 1 < s.size) : bt (s.extract 1 s.size) i = bt s (i + 1 : Nat) := by
  have h1 : i < (s.extract 1 s.size).size := by rw [size_extract s (by omega)]; omega
  simp only [bt, Int.toNat_natCast]
  rw [dif_pos h1, dif_pos h]
  simp [ByteArray.getElem_extract, Nat.add_comm]
/-- A term's name is of such bytes, too. -/
theorem ascii_name {s : ByteArray} (h : ascii s = true) (i : Nat) (hi : i < (nameOf s).size) : bt (nameOf s) i ≤ 127 := by
  unfold nameOf at hi ⊢
  split at hi
  · rename_i hc
    rw [if_pos hc]
    rw [size_extract s (by omega)] at hi
    rw [bt_extract1 s i (by omega)]
    exact ascN_at h (i + 1) (by omega) (by omega)
  · rename_i hc
    rw [if_neg hc]
    exact ascN_at h i (by omega) (by omega)
end Go.Proofs.YtknldfighehplaaDoor.HFnTextBackPlain
