/- What the printed search of a comma comes to, the pieces of a text; conditions: lengths in bounds. -/
import Derived.Test.YtknldfighehplaaDoorHFnTextBackList
import Derived.Test.YtknldfighehplaaDoorHSplit
namespace Go.Proofs.YtknldfighehplaaDoor.HFnTextBackCut
set_option linter.unusedSimpArgs false
set_option linter.unusedVariables false
open Go.RowKit Go.Proofs.YtknldfighehplaaDoor.HSplit Go.Proofs.YtknldfighehplaaDoor.HFnTextBackList Go.Proofs.YtknldfighehplaaDoor.HFnTextBackPlain Go.Proofs.YtknldfighehplaaDoor.PFnTextBack Go.Proofs.YtknldfighehplaaDoorW.PrintWords Go.Proofs.YtknldfighehplaaDoorW.PrintLast Go.Proofs.YtknldfighehplaaDoorW.PrintMore

theorem one_byte (t : ByteArray) (i : Nat) (h : i < t.size) : ((t.extract i (i + 1)).toList = (⟨#[44]⟩ : ByteArray).toList) ↔ isComma ((bs t)[i]'(by rw [bs_length]; exact h)) = true := by
  have e : (⟨#[44]⟩ : ByteArray).toList = [44] := by rw [ByteArray.toList_eq]
  have h1 : (t.extract i (i + 1)).toList = [(bs t)[i]'(by rw [bs_length]; exact h)] := by
    rw [ByteArray.toList_eq]
    show bs (t.extract i (i + 1)) = _
    rw [bs_extract, List.drop_take, show i + 1 - i = 1 by omega, List.drop_eq_getElem_cons (by rw [bs_length]; exact h)]
    simp
  rw [h1, e]
  simp [isComma]
theorem zzIndex_l (t : ByteArray) (ht : t.size ≤ 8000000000000) : ∀ (m n k : Nat), m + n = t.size → m < k →
    buildtags_zzIndex.l0 k t ⟨#[44]⟩ n = some (if firstAt isComma ((bs t).drop n) < m then ((n + firstAt isComma ((bs t).drop n) : Nat) : Int) else -1) := by
  have e1 : ((⟨#[44]⟩ : ByteArray).size : Int) = 1 := rfl
  intro m
  induction m with
  | zero =>
    intro n k hn hk
    obtain ⟨k, rfl⟩ : ∃ j, k = j + 1 := ⟨k - 1, by omega⟩
    have hw : wrap64 ((n : Int) + 1) = ((n + 1 : Nat) : Int) := by unfold wrap64; omega
    simp only [buildtags_zzIndex.l0, e1, hw]
    rw [if_neg (by omega), if_neg (by omega)]
  | succ m ih =>
    intro n k hn hk
    obtain ⟨k, rfl⟩ : ∃ j, k = j + 1 := ⟨k - 1, by omega⟩
    have hw : wrap64 ((n : Int) + 1) = ((n + 1 : Nat) : Int) := by unfold wrap64; omega
    have hlt : n < t.size := by omega
    simp only [buildtags_zzIndex.l0, e1, hw]
    rw [if_pos (by omega), if_pos (by omega), if_pos (by omega), ih (n + 1) k (by omega) (by omega)]
    have hd : (bs t).drop n = (bs t)[n]'(by rw [bs_length]; exact hlt) :: (bs t).drop (n + 1) := List.drop_eq_getElem_cons (by rw [bs_length]; exact hlt)
    have ho := one_byte t n hlt
    have hf0 : firstAt isComma ((bs t).drop n) = if isComma ((bs t)[n]'(by rw [bs_length]; exact hlt)) = true then 0 else firstAt isComma ((bs t).drop (n + 1)) + 1 := by rw [hd]; rfl
    simp only [Int.toNat_natCast]
    by_cases hc : isComma ((bs t)[n]'(by rw [bs_length]; exact hlt)) = true
    · rw [if_pos hc] at hf0
      rw [if_pos (ho.2 hc), hf0, if_pos (by omega)]
      rfl
    · rw [if_neg hc] at hf0
      rw [if_neg (fun e => hc (ho.1 e)), hf0]
      generalize firstAt isComma ((bs t).drop (n + 1)) = q
      by_cases hf : q < m
      · rw [if_pos hf, if_pos (by omega)]; congr 1; omega
      · rw [if_neg hf, if_neg (by omega)]
theorem zzIndex_is (t : ByteArray) (ht : t.size ≤ 8000000000000) : buildtags_zzIndex.f (t.size + 1) t ⟨#[44]⟩ = some (if firstAt isComma (bs t) < t.size then (firstAt isComma (bs t) : Int) else -1) := by
  have h := zzIndex_l t ht t.size 0 (t.size + 1) (by omega) (by omega)
  simp only [List.drop_zero, Nat.zero_add] at h
  exact h

theorem pieces_size (t : ByteArray) : ∀ x ∈ pieces t, x.size ≤ t.size := fun x hx => by
  unfold pieces at hx
  obtain ⟨y, hy, rfl⟩ := List.mem_map.1 hx
  rw [B_size, ← bs_length]
  exact (splitL_mem hy).1
theorem bt_B (l : List UInt8) (i : Nat) (h : i < l.length) : bt (B l) i = ((l[i]'h).toNat : Int) := by
  rw [bt_bs (B l) i (by rw [B_size]; exact h)]
  congr 2
theorem ascii_iff (s : ByteArray) : ascii s = true ↔ ∀ c ∈ bs s, c.toNat ≤ 127 := by
  constructor
  · intro h c hc
    obtain ⟨i, hi, rfl⟩ := List.getElem_of_mem hc
    have hi2 : i < s.size := by rw [bs_length] at hi; exact hi
    have := ascN_at h i (by omega) (by omega)
    rw [bt_bs s i hi2] at this
    omega
  · intro h
    have : ∀ (m i : Nat), i + m = s.size → ascN s m i = true := by
      intro m
      induction m with
      | zero => intro i _; rfl
      | succ m ih =>
        intro i hi
        simp only [ascN, Bool.and_eq_true, decide_eq_true_eq]
        refine ⟨?_, ih (i + 1) (by omega)⟩
        rw [bt_bs s i (by omega)]
        have := h _ (List.getElem_mem (by rw [bs_length]; omega : i < (bs s).length))
        omega
    exact this s.size 0 (by omega)
theorem pieces_ascii (t : ByteArray) (h : ascii t = true) : ∀ x ∈ pieces t, ascii x = true := fun x hx => by
  unfold pieces at hx
  obtain ⟨y, hy, rfl⟩ := List.mem_map.1 hx
  rw [ascii_iff, bs_B]
  rw [ascii_iff] at h
  exact fun c hc => h c ((splitL_mem hy).2 c hc)
theorem plain_l (l : List ByteArray) (hl : l.length ≤ 2147483647) : ∀ (m n k : Nat) (acc : List ByteArray), m + n = l.length → m < k → acc.length + m ≤ 4294967296 →
    impl_plainOption.l0 k acc l l.length n = some (acc ++ l.drop n) := by
  intro m
  induction m with
  | zero =>
    intro n k acc hn hk ha
    obtain ⟨k, rfl⟩ : ∃ j, k = j + 1 := ⟨k - 1, by omega⟩
    have : n = l.length := by omega
    subst this
    simp only [impl_plainOption.l0]
    rw [if_neg (by omega), List.drop_length]
    simp
  | succ m ih =>
    intro n k acc hn hk ha
    obtain ⟨k, rfl⟩ : ∃ j, k = j + 1 := ⟨k - 1, by omega⟩
    have hw : wrap64 ((n : Int) + 1) = ((n + 1 : Nat) : Int) := by unfold wrap64; omega
    have hlt : n < l.length := by omega
    simp only [impl_plainOption.l0]
    rw [if_pos (by omega), if_pos (by omega), if_pos (by omega), if_pos (by omega), hw, ih (n + 1) k _ (by omega) (by omega) (by simp; omega), drop_rdOf hlt]
    simp
theorem plain_is (l : List ByteArray) (hl : l.length ≤ 2147483647) : impl_plainOption.f (l.length + 1) l = some l := by
  unfold impl_plainOption.f
  have h := plain_l l hl l.length 0 (l.length + 1) [] (by omega) (by omega) (by simp; omega)
  simpa using h
end Go.Proofs.YtknldfighehplaaDoor.HFnTextBackCut
