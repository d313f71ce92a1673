/- Texts as lists of bytes, cut at commas and at blanks; no conditions. -/
import Derived.Test.YtknldfighehplaaDoorWWords
namespace Go.Proofs.YtknldfighehplaaDoor.HSplit
set_option linter.unusedSimpArgs false
set_option linter.unusedVariables false
open Go.RowKit Go.Proofs.YtknldfighehplaaDoorW.PrintWords

abbrev bs (s : ByteArray) : List UInt8 := s.data.toList
def B (l : List UInt8) : ByteArray := ⟨l.toArray⟩
theorem bs_B (l : List UInt8) : bs (B l) = l := by simp [bs, B]
theorem B_bs (s : ByteArray) : B (bs s) = s := by cases s; simp [bs, B]
theorem bs_length (s : ByteArray) : (bs s).length = s.size := by rw [Array.length_toList]; rfl
theorem B_size (l : List UInt8) : (B l).size = l.length := by rw [← bs_length, bs_B]
theorem bs_extract (s : ByteArray) (a b : Nat) : bs (s.extract a b) = ((bs s).take b).drop a := by
  unfold bs
  rw [ByteArray.data_extract, Array.toList_extract, List.extract_eq_take_drop, List.drop_take]
theorem bs_append (a b : ByteArray) : bs (a ++ b) = bs a ++ bs b := by
  unfold bs; rw [ByteArray.data_append, Array.toList_append]
theorem bs_inj {a b : ByteArray} (h : bs a = bs b) : a = b := by rw [← B_bs a, ← B_bs b, h]
theorem bt_bs (s : ByteArray) (i : Nat) (h : i < s.size) : bt s i = ((bs s)[i]'(by rw [bs_length]; exact h)).toNat := by
  have h1 : (bs s)[i]'(by rw [bs_length]; exact h) = s[i]'h := by unfold bs; rw [Array.getElem_toList]; rfl
  rw [h1]; simp [bt, h]
theorem u8_eq (a : UInt8) (n : Nat) (hn : n < 256) : ((a.toNat : Int) = (n : Int)) ↔ a = UInt8.ofNat n := by
  constructor
  · intro h
    have h1 : a.toNat = n := by omega
    rw [← h1]; simp
  · rintro rfl
    rw [UInt8.toNat_ofNat_of_lt' (by simpa using hn)]

/-- Cut at each byte of a kind. -/
def splitL (p : UInt8 → Bool) : List UInt8 → List (List UInt8)
  | [] => [[]]
  | c :: l => if p c = true then [] :: splitL p l else match splitL p l with
    | h :: t => (c :: h) :: t
    | [] => [[c]]
theorem splitL_ne (p : UInt8 → Bool) (l : List UInt8) : splitL p l ≠ [] := by
  cases l with
  | nil => simp [splitL]
  | cons c l =>
    simp only [splitL]
    split
    · simp
    · split <;> simp
/-- Where the first such byte lies (the length, if there is none). -/
def firstAt (p : UInt8 → Bool) : List UInt8 → Nat
  | [] => 0
  | c :: l => if p c = true then 0 else firstAt p l + 1
theorem firstAt_le (p : UInt8 → Bool) (l : List UInt8) : firstAt p l ≤ l.length := by
  induction l with
  | nil => simp [firstAt]
  | cons c l ih => simp only [firstAt]; split <;> simp; omega
theorem splitL_first (p : UInt8 → Bool) (l : List UInt8) : splitL p l = l.take (firstAt p l) :: (if firstAt p l < l.length then splitL p (l.drop (firstAt p l + 1)) else []) := by
  induction l with
  | nil => simp [splitL, firstAt]
  | cons c l ih =>
    by_cases h : p c = true
    · simp [splitL, firstAt, h]
    · simp only [splitL, firstAt, if_neg h]
      rw [ih]
      simp
theorem splitL_length (p : UInt8 → Bool) (l : List UInt8) : (splitL p l).length ≤ l.length + 1 := by
  induction l with
  | nil => simp [splitL]
  | cons c l ih =>
    simp only [splitL]
    split
    · simp; exact ih
    · cases hs : splitL p l with
      | nil => simp
      | cons h t => rw [hs] at ih; simp at ih ⊢; omega
def isComma (c : UInt8) : Bool := c == 44
/-- The pieces of a text between its commas. -/
def pieces (s : ByteArray) : List ByteArray := (splitL isComma (bs s)).map B
theorem pieces_length (s : ByteArray) : (pieces s).length ≤ s.size + 1 := by
  unfold pieces
  rw [List.length_map, ← bs_length]
  exact splitL_length _ _
theorem splitL_mem {p : UInt8 → Bool} : ∀ {l : List UInt8} {x : List UInt8}, x ∈ splitL p l → x.length ≤ l.length ∧ ∀ c ∈ x, c ∈ l
  | [], x, h => by simp [splitL] at h; subst h; simp
  | c :: l, x, h => by
    simp only [splitL] at h
    split at h
    · rcases List.mem_cons.1 h with rfl | h
      · simp
      · have := splitL_mem h
        exact ⟨by simp; omega, fun d hd => List.mem_cons_of_mem _ (this.2 d hd)⟩
    · cases hs : splitL p l with
      | nil => exact absurd hs (splitL_ne p l)
      | cons h0 t =>
        rw [hs] at h
        rcases List.mem_cons.1 h with rfl | h
        · have := splitL_mem (p := p) (l := l) (x := h0) (by rw [hs]; exact List.mem_cons_self)
          exact ⟨by simp; omega, fun d hd => by
            rcases List.mem_cons.1 hd with rfl | hd
            · exact List.mem_cons_self
            · exact List.mem_cons_of_mem _ (this.2 d hd)⟩
        · have := splitL_mem (p := p) (l := l) (x := x) (by rw [hs]; exact List.mem_cons_of_mem _ h)
          exact ⟨by simp; omega, fun d hd => List.mem_cons_of_mem _ (this.2 d hd)⟩
theorem pieces_no (t : ByteArray) (h : firstAt isComma (bs t) = t.size) : pieces t = [t] := by
  unfold pieces
  rw [splitL_first, h, if_neg (by rw [bs_length]; omega)]
  rw [List.take_of_length_le (by rw [bs_length]; omega)]
  simp [B_bs]
theorem pieces_yes (t : ByteArray) (i : Nat) (h : firstAt isComma (bs t) = i) (hi : i < t.size) : pieces t = t.extract 0 i :: pieces (t.extract (i + 1) t.size) := by
  unfold pieces
  rw [splitL_first, h, if_pos (by rw [bs_length]; exact hi), List.map_cons]
  congr 1
  · apply bs_inj; rw [bs_B, bs_extract]; simp
  · congr 2
    rw [bs_extract, List.take_of_length_le (by rw [bs_length]; omega)]
end Go.Proofs.YtknldfighehplaaDoor.HSplit
