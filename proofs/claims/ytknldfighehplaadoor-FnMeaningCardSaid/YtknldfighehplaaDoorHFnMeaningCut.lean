/- What the printed searches and cuts at commas come to; conditions: lengths in bounds. -/
import Derived.Test.YtknldfighehplaaDoorHFnMeaningPlain
import Derived.Test.YtknldfighehplaaDoorHSplit
namespace Go.Proofs.YtknldfighehplaaDoor.HFnMeaningCut
set_option linter.unusedSimpArgs false
set_option linter.unusedVariables false
open Go.RowKit Go.Proofs.YtknldfighehplaaDoor.HSplit Go.Proofs.YtknldfighehplaaDoor.HFnMeaningPlain Go.Proofs.YtknldfighehplaaDoor.PFnMeaning Go.Proofs.YtknldfighehplaaDoorW.PrintWords Go.Proofs.YtknldfighehplaaDoorW.PrintLast Go.Proofs.YtknldfighehplaaDoorW.PrintMore

theorem one_byte (t : ByteArray) (i : Nat) (h : i < t.size) : ((t.extract i (i + 1)).toList = (⟨#[44]⟩ : ByteArray).toList) ↔ isComma ((bs t)[i]'(by rw [bs_length]; exact h)) = true := by
  have e : (⟨#[44]⟩ : ByteArray).toList = [44] := by rw [ByteArray.toList_eq]
  have h1 : (t.extract i (i + 1)).toList = [(bs t)[i]'(by rw [bs_length]; exact h)] := by
    rw [ByteArray.toList_eq]
    show bs (t.extract i (i + 1)) = _
    rw [bs_extract, List.drop_take, show i + 1 - i = 1 by omega, List.drop_eq_getElem_cons (by rw [bs_length]; exact h)]
    simp
  rw [h1, e]
  simp [isComma]
theorem zzIndex_l (t : ByteArray) (ht : t.size ≤ 2147483647) : ∀ (m n k : Nat), m + n = t.size → m < k →
    buildtags_zzIndex.l0 k t ⟨#[44]⟩ n = some (if firstAt isComma ((bs t).drop n) < m then ((n + firstAt isComma ((bs t).drop n) : Nat) : Int) else -1) := by
  have e1 : ((⟨#[44]⟩ : ByteArray).size : Int) = 1 := rfl
  intro m
  induction m with
  | zero =>
    intro n k hn hk
    obtain ⟨k, rfl⟩ : ∃ j, k = j + 1 := ⟨k - 1, by omega⟩
    have hw : wrap64 ((n : Int) + 1) = ((n + 1 : Nat) : Int) := by unfold wrap64; omega
    simp only [buildtags_zzIndex.l0, e1, hw]
    rw [if_neg (by omega), if_neg (by omega)]
  | succ m ih =>
    intro n k hn hk
    obtain ⟨k, rfl⟩ : ∃ j, k = j + 1 := ⟨k - 1, by omega⟩
    have hw : wrap64 ((n : Int) + 1) = ((n + 1 : Nat) : Int) := by unfold wrap64; omega
    have hlt : n < t.size := by omega
    simp only [buildtags_zzIndex.l0, e1, hw]
    rw [if_pos (by omega), if_pos (by omega), if_pos (by omega), ih (n + 1) k (by omega) (by omega)]
    have hd : (bs t).drop n = (bs t)[n]'(by rw [bs_length]; exact hlt) :: (bs t).drop (n + 1) := List.drop_eq_getElem_cons (by rw [bs_length]; exact hlt)
    have ho := one_byte t n hlt
    have hf0 : firstAt isComma ((bs t).drop n) = if isComma ((bs t)[n]'(by rw [bs_length]; exact hlt)) = true then 0 else firstAt isComma ((bs t).drop (n + 1)) + 1 := by rw [hd]; rfl
    simp only [Int.toNat_natCast]
    by_cases hc : isComma ((bs t)[n]'(by rw [bs_length]; exact hlt)) = true
    · rw [if_pos hc] at hf0
      rw [if_pos (ho.2 hc), hf0, if_pos (by omega)]
      rfl
    · rw [if_neg hc] at hf0
      rw [if_neg (fun e => hc (ho.1 e)), hf0]
      generalize firstAt isComma ((bs t).drop (n + 1)) = q
      by_cases hf : q < m
      · rw [if_pos hf, if_pos (by omega)]; congr 1; omega
      · rw [if_neg hf, if_neg (by omega)]
theorem zzIndex_is (t : ByteArray) (ht : t.size ≤ 2147483647) : buildtags_zzIndex.f (t.size + 1) t ⟨#[44]⟩ = some (if firstAt isComma (bs t) < t.size then (firstAt isComma (bs t) : Int) else -1) := by
  have h := zzIndex_l t ht t.size 0 (t.size + 1) (by omega) (by omega)
  simp only [List.drop_zero, Nat.zero_add] at h
  exact h

theorem bt44 (t : ByteArray) (n : Nat) (h : n < t.size) : bt t n = 44 ↔ isComma ((bs t)[n]'(by rw [bs_length]; exact h)) = true := by
  rw [bt_bs t n h]
  have := u8_eq ((bs t)[n]'(by rw [bs_length]; exact h)) 44 (by omega)
  simp only [isComma, beq_iff_eq]
  exact this
theorem commas_l (t : ByteArray) (ht : t.size ≤ 2147483647) : ∀ (m n k : Nat) (out : List ByteArray) (now : ByteArray) (h : List UInt8) (r : List (List UInt8)), m + n = t.size → m < k → out.length + m ≤ 4294967296 → now.size + m ≤ 4294967296 → splitL isComma ((bs t).drop n) = h :: r →
    spec_tagsCommas.l0 k t out now n = some (out ++ B (bs now ++ h) :: r.map B) := by
  intro m
  induction m with
  | zero =>
    intro n k out now h r hn hk ho hw hs
    obtain ⟨k, rfl⟩ : ∃ j, k = j + 1 := ⟨k - 1, by omega⟩
    rw [List.drop_of_length_le (by rw [bs_length]; omega)] at hs
    simp only [splitL, List.cons.injEq] at hs
    obtain ⟨rfl, rfl⟩ := hs
    simp only [spec_tagsCommas.l0]
    rw [if_neg (by omega), if_pos (by omega)]
    simp [B_bs]
  | succ m ih =>
    intro n k out now h r hn hk ho hw hs
    obtain ⟨k, rfl⟩ : ∃ j, k = j + 1 := ⟨k - 1, by omega⟩
    have hwr : wrap64 ((n : Int) + 1) = ((n + 1 : Nat) : Int) := by unfold wrap64; omega
    have hlt : n < t.size := by omega
    have hb := bt44 t n hlt
    have hd : (bs t).drop n = (bs t)[n]'(by rw [bs_length]; exact hlt) :: (bs t).drop (n + 1) := List.drop_eq_getElem_cons (by rw [bs_length]; exact hlt)
    rw [hd] at hs
    simp only [splitL] at hs
    simp only [spec_tagsCommas.l0, hwr]
    rw [if_pos (by omega), if_pos (by omega)]
    by_cases hc : isComma ((bs t)[n]'(by rw [bs_length]; exact hlt)) = true
    · rw [if_pos (hb.2 hc), if_pos (by omega)]
      rw [if_pos hc] at hs
      injection hs with e1 e2
      subst e1
      cases hr : splitL isComma ((bs t).drop (n + 1)) with
      | nil => exact absurd hr (splitL_ne _ _)
      | cons h2 r2 =>
        rw [hr] at e2
        subst e2
        rw [ih (n + 1) k (out ++ [now]) ⟨#[]⟩ h2 r2 (by omega) (by omega) (by simp; omega) (by show 0 + m ≤ _; omega) hr]
        have e3 : bs (⟨#[]⟩ : ByteArray) = [] := rfl
        simp [e3, B_bs]
    · rw [if_neg (fun e => hc (hb.1 e)), if_pos (by omega), if_pos (by omega)]
      rw [if_neg hc] at hs
      have hx : (t.extract (n : Int).toNat ((n + 1 : Nat) : Int).toNat).size = 1 := by
        simp only [Int.toNat_natCast]
        rw [ByteArray.size_extract]; omega
      rw [if_pos (by rw [hx]; omega)]
      cases hr : splitL isComma ((bs t).drop (n + 1)) with
      | nil => exact absurd hr (splitL_ne _ _)
      | cons h2 r2 =>
        rw [hr] at hs
        injection hs with e1 e2
        subst e1; subst e2
        rw [ih (n + 1) k out _ h2 r2 (by omega) (by omega) (by omega) (by rw [ByteArray.size_append, hx]; omega) hr]
        congr 3
        rw [bs_append]
        simp only [Int.toNat_natCast]
        rw [bs_extract, List.drop_take, show n + 1 - n = 1 by omega, hd]
        simp
theorem commas_is (t : ByteArray) (ht : t.size ≤ 2147483647) (k : Nat) (hk : t.size < k) : spec_tagsCommas.f k t = some (pieces t) := by
  unfold spec_tagsCommas.f pieces
  cases hr : splitL isComma (bs t) with
  | nil => exact absurd hr (splitL_ne _ _)
  | cons h r =>
    have hq := commas_l t ht t.size 0 k [] ⟨#[]⟩ h r (by omega) hk (by simp; omega) (by show 0 + t.size ≤ _; omega) (by simpa using hr)
    have e3 : bs (⟨#[]⟩ : ByteArray) = [] := rfl
    rw [e3] at hq
    simpa using hq

theorem drop_rdOf {l : List ByteArray} {n : Nat} (h : n < l.length) : l.drop n = rdOf ByteArray.empty l n :: l.drop (n + 1) := by
  rw [List.drop_eq_getElem_cons h]
  simp [rdOf, List.getD, h]
theorem rdOf_mem {l : List ByteArray} {n : Nat} (h : n < l.length) : rdOf ByteArray.empty l n ∈ l := by
  simp [rdOf, List.getD, h]
theorem optionValid_l (l : List ByteArray) (hl : l.length ≤ 2147483647) (M : Nat) (hM : M ≤ 2147483647) (hs : ∀ x ∈ l, x.size ≤ M) : ∀ (m n k : Nat), m + n = l.length → m + M < k →
    spec_OptionValid.l0 k l l.length n = some ((l.drop n).all valid) := by
  intro m
  induction m with
  | zero =>
    intro n k hn hk
    obtain ⟨k, rfl⟩ : ∃ j, k = j + 1 := ⟨k - 1, by omega⟩
    have : n = l.length := by omega
    subst this
    simp only [spec_OptionValid.l0]
    rw [if_neg (by omega), List.drop_length]
    rfl
  | succ m ih =>
    intro n k hn hk
    obtain ⟨k, rfl⟩ : ∃ j, k = j + 1 := ⟨k - 1, by omega⟩
    have hw : wrap64 ((n : Int) + 1) = ((n + 1 : Nat) : Int) := by unfold wrap64; omega
    have hlt : n < l.length := by omega
    have hx := hs _ (rdOf_mem hlt)
    simp only [spec_OptionValid.l0]
    rw [if_pos (by omega), if_pos (by omega), if_pos (by omega), hw, ih (n + 1) k (by omega) (by omega), drop_rdOf hlt, List.all_cons, termValid_is _ (by omega) k (by omega)]
    simp only [Option.bind_some]
    cases valid (rdOf ByteArray.empty l n) <;> simp
theorem optionValid_is (l : List ByteArray) (hl : l.length ≤ 2147483647) (M : Nat) (hM : M ≤ 2147483647) (hs : ∀ x ∈ l, x.size ≤ M) (k : Nat) (hk : l.length + M < k) : spec_OptionValid.f k l = some (l.all valid) := by
  unfold spec_OptionValid.f
  have h := optionValid_l l hl M hM hs l.length 0 k (by omega) hk
  simpa using h
theorem pieces_size (t : ByteArray) : ∀ x ∈ pieces t, x.size ≤ t.size := fun x hx => by
  unfold pieces at hx
  obtain ⟨y, hy, rfl⟩ := List.mem_map.1 hx
  rw [B_size, ← bs_length]
  exact (splitL_mem hy).1
theorem bt_B (l : List UInt8) (i : Nat) (h : i < l.length) : bt (B l) i = ((l[i]'h).toNat : Int) := by
  rw [bt_bs (B l) i (by rw [B_size]; exact h)]
  congr 2
theorem ascii_iff (s : ByteArray) : ascii s = true ↔ ∀ c ∈ bs s, c.toNat ≤ 127 := by
  constructor
  · intro h c hc
    obtain ⟨i, hi, rfl⟩ := List.getElem_of_mem hc
    have hi2 : i < s.size := by rw [bs_length] at hi; exact hi
    have := ascN_at h i (by omega) (by omega)
    rw [bt_bs s i hi2] at this
    omega
  · intro h
    have : ∀ (m i : Nat), i + m = s.size → ascN s m i = true := by
      intro m
      induction m with
      | zero => intro i _; rfl
      | succ m ih =>
        intro i hi
        simp only [ascN, Bool.and_eq_true, decide_eq_true_eq]
        refine ⟨?_, ih (i + 1) (by omega)⟩
        rw [bt_bs s i (by omega)]
        have := h _ (List.getElem_mem (by rw [bs_length]; omega : i < (bs s).length))
        omega
    exact this s.size 0 (by omega)
theorem pieces_ascii (t : ByteArray) (h : ascii t = true) : ∀ x ∈ pieces t, ascii x = true := fun x hx => by
  unfold pieces at hx
  obtain ⟨y, hy, rfl⟩ := List.mem_map.1 hx
  rw [ascii_iff, bs_B]
  rw [ascii_iff] at h
  exact fun c hc => h c ((splitL_mem hy).2 c hc)
theorem parseOption_is (t : ByteArray) (ht : t.size ≤ 1000000) (k : Nat) (hk : 2 * t.size + 1 < k) : spec_ParseOption.f k t = some (pieces t, (pieces t).all valid) := by
  unfold spec_ParseOption.f
  rw [commas_is t (by omega) k (by omega)]
  simp only [Option.bind_some]
  have h := pieces_length t
  rw [optionValid_is _ (by omega) t.size (by omega) (pieces_size t) k (by omega)]
  rfl
theorem plain_l (l : List ByteArray) (hl : l.length ≤ 2147483647) : ∀ (m n k : Nat) (acc : List ByteArray), m + n = l.length → m < k → acc.length + m ≤ 4294967296 →
    impl_plainOption.l0 k acc l l.length n = some (acc ++ l.drop n) := by
  intro m
  induction m with
  | zero =>
    intro n k acc hn hk ha
    obtain ⟨k, rfl⟩ : ∃ j, k = j + 1 := ⟨k - 1, by omega⟩
    have : n = l.length := by omega
    subst this
    simp only [impl_plainOption.l0]
    rw [if_neg (by omega), List.drop_length]
    simp
  | succ m ih =>
    intro n k acc hn hk ha
    obtain ⟨k, rfl⟩ : ∃ j, k = j + 1 := ⟨k - 1, by omega⟩
    have hw : wrap64 ((n : Int) + 1) = ((n + 1 : Nat) : Int) := by unfold wrap64; omega
    have hlt : n < l.length := by omega
    simp only [impl_plainOption.l0]
    rw [if_pos (by omega), if_pos (by omega), if_pos (by omega), if_pos (by omega), hw, ih (n + 1) k _ (by omega) (by omega) (by simp; omega), drop_rdOf hlt]
    simp
theorem plain_is (l : List ByteArray) (hl : l.length ≤ 2147483647) : impl_plainOption.f (l.length + 1) l = some l := by
  unfold impl_plainOption.f
  have h := plain_l l hl l.length 0 (l.length + 1) [] (by omega) (by omega) (by simp; omega)
  simpa using h
end Go.Proofs.YtknldfighehplaaDoor.HFnMeaningCut
