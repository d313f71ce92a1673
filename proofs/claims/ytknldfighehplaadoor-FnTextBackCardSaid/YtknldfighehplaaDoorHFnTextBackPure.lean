/- What is written of valid options is read as these options: the plain law; no conditions. -/
import Derived.Test.YtknldfighehplaaDoorHFnTextBackEvals
import Derived.Test.YtknldfighehplaaDoorHFnTextBackFields
import Derived.Test.YtknldfighehplaaDoorHBack
namespace Go.Proofs.YtknldfighehplaaDoor.HFnTextBackPure
set_option linter.unusedSimpArgs false
set_option linter.unusedVariables false
open Go.RowKit Go.Proofs.YtknldfighehplaaDoor.HSplit Go.Proofs.YtknldfighehplaaDoor.HBack Go.Proofs.YtknldfighehplaaDoor.HFnTextBackFields Go.Proofs.YtknldfighehplaaDoor.HFnTextBackList Go.Proofs.YtknldfighehplaaDoor.HFnTextBackCut Go.Proofs.YtknldfighehplaaDoor.HFnTextBackPlain Go.Proofs.YtknldfighehplaaDoor.PFnTextBack Go.Proofs.YtknldfighehplaaDoorW.PrintWords Go.Proofs.YtknldfighehplaaDoorW.PrintLast Go.Proofs.YtknldfighehplaaDoorW.PrintMore

theorem okN_at {s : ByteArray} : ∀ {m i : Nat}, okN s m i = true → ∀ j : Nat, i ≤ j → j < i + m → okc (bt s j) = true
  | 0, i, _, j, h1, h2 => by omega
  | m + 1, i, h, j, h1, h2 => by
    simp only [okN, Bool.and_eq_true] at h
    by_cases e : j = i
    · subst e; exact h.1
    · exact okN_at h.2 j (by omega) (by omega)
theorem valid_at {s : ByteArray} (h : valid s = true) (j : Nat) (hj : j < s.size) : okc (bt s j) = true ∨ bt s j = 33 := by
  unfold valid at h
  simp only [Bool.and_eq_true, decide_eq_true_eq] at h
  obtain ⟨h1, h2⟩ := h
  by_cases hc : 0 < s.size ∧ bt s 0 = 33
  · have e : nameOf s = s.extract 1 s.size := by unfold nameOf; rw [if_pos hc]
    rw [e] at h1 h2
    rw [size_extract s (by omega)] at h1
    cases j with
    | zero => exact .inr hc.2
    | succ i =>
      have := okN_at h1 i (by omega) (by omega)
      rw [bt_extract1 s i hj] at this
      exact .inl this
  · have e : nameOf s = s := by unfold nameOf; rw [if_neg hc]
    rw [e] at h1
    exact .inl (okN_at h1 j (by omega) (by omega))
theorem valid_byte {s : ByteArray} (h : valid s = true) : ∀ d ∈ bs s, isComma d = false ∧ Lib.isSp d = false := by
  intro d hd
  obtain ⟨i, hi, rfl⟩ := List.getElem_of_mem hd
  have hi2 : i < s.size := by rw [bs_length] at hi; exact hi
  have ha := valid_at h i hi2
  rw [bt_bs s i hi2] at ha
  generalize (bs s)[i] = b at *
  unfold okc at ha
  simp only [Bool.or_eq_true, decide_eq_true_eq] at ha
  have hb : b.toNat ≠ 44 ∧ ¬ (b.toNat = 32 ∨ (9 ≤ b.toNat ∧ b.toNat ≤ 13)) := by omega
  constructor
  · unfold isComma
    rw [beq_eq_false_iff_ne]
    rintro rfl
    exact hb.1 rfl
  · rw [isSp_is]
    exact decide_eq_false hb.2
theorem valid_pos {s : ByteArray} (h : valid s = true) : 0 < s.size := by
  unfold valid at h
  simp only [Bool.and_eq_true, decide_eq_true_eq] at h
  have := nameOf_size s
  omega
theorem bs_ne {s : ByteArray} (h : 0 < s.size) : bs s ≠ [] := fun e => by
  have := bs_length s
  rw [e] at this
  simp at this
  omega
theorem bs_optText (o : List ByteArray) : bs (optText o) = Lib.join (o.map bs) [44] := by simp [bs, optText]
theorem map_B_bs (o : List ByteArray) : (o.map bs).map B = o := by
  rw [List.map_map]
  conv => rhs; rw [← List.map_id o]
  exact List.map_congr_left (fun x _ => B_bs x)
/-- An option's text is read as the option. -/
theorem pieces_optText (o : List ByteArray) (hn : o ≠ []) (hv : ∀ x ∈ o, valid x = true) : pieces (optText o) = o := by
  unfold pieces
  rw [bs_optText]
  cases o with
  | nil => exact absurd rfl hn
  | cons x r =>
    rw [List.map_cons, split_join isComma 44 rfl (r.map bs) (bs x), ← List.map_cons, map_B_bs]
    intro y hy d hd
    rw [← List.map_cons] at hy
    obtain ⟨z, hz, rfl⟩ := List.mem_map.1 hy
    exact (valid_byte (hv z hz) d hd).1
theorem optText_byte (o : List ByteArray) (hv : ∀ x ∈ o, valid x = true) : ∀ d ∈ bs (optText o), Lib.isSp d = false := by
  intro d hd
  rw [bs_optText] at hd
  rcases mem_join 44 _ d hd with rfl | ⟨x, hx, hd⟩
  · rfl
  · obtain ⟨z, hz, rfl⟩ := List.mem_map.1 hx
    exact (valid_byte (hv z hz) d hd).2
theorem optText_ne (o : List ByteArray) (hn : o ≠ []) (hv : ∀ x ∈ o, valid x = true) : bs (optText o) ≠ [] := by
  rw [bs_optText]
  cases o with
  | nil => exact absurd rfl hn
  | cons x r =>
    rw [List.map_cons, Lib.join_cons]
    intro e
    exact bs_ne (valid_pos (hv x (by simp))) (List.append_eq_nil_iff.1 e).1

/-- The options' texts, a blank between two. -/
def lineOf (c : List (List ByteArray)) : ByteArray := B (Lib.join (c.map fun o => bs (optText o)) [32])
theorem lineOf_nil : lineOf [] = ⟨#[]⟩ := rfl
theorem lineOf_snoc (c : List (List ByteArray)) (o : List ByteArray) : lineOf (c ++ [o]) = if c = [] then optText o else lineOf c ++ ⟨#[32]⟩ ++ optText o := by
  unfold lineOf
  rw [List.map_append, List.map_cons, List.map_nil, join_snoc]
  cases c with
  | nil => simp [B_bs]
  | cons x r =>
    rw [if_neg (by simp), if_neg (by simp)]
    apply bs_inj
    simp [bs_append, bs_B]
theorem words_lineOf (c : List (List ByteArray)) (hn : ∀ o ∈ c, o ≠ []) (hv : ∀ o ∈ c, ∀ x ∈ o, valid x = true) : words (lineOf c) = c.map optText := by
  unfold words lineOf
  rw [bs_B, fields_join 32 rfl]
  · rw [List.map_map]
    exact List.map_congr_left (fun o _ => B_bs _)
  · intro y hy
    obtain ⟨o, ho, rfl⟩ := List.mem_map.1 hy
    exact ⟨optText_ne o (hn o ho) (hv o ho), optText_byte o (hv o ho)⟩
theorem pcs_texts : ∀ (c acc : List (List ByteArray)), (∀ o ∈ c, o ≠ []) → (∀ o ∈ c, ∀ x ∈ o, valid x = true) → pcs (c.map optText) acc = (acc ++ c, true)
  | [], acc, _, _ => by simp [pcs]
  | o :: c, acc, hn, hv => by
    have hp := pieces_optText o (hn o (by simp)) (hv o (by simp))
    have ha : o.all valid = true := List.all_eq_true.2 (hv o (by simp))
    rw [List.map_cons, pcs, hp, if_pos ha, pcs_texts c _ (fun x hx => hn x (by simp [hx])) (fun x hx => hv x (by simp [hx]))]
    simp
/-- What is written of a valid constraint is read as the constraint. -/
theorem pcs_lineOf (c : List (List ByteArray)) (hn : ∀ o ∈ c, o ≠ []) (hv : ∀ o ∈ c, ∀ x ∈ o, valid x = true) : pcs (words (lineOf c)) [] = (c, true) := by
  rw [words_lineOf c hn hv, pcs_texts c [] hn hv]
  simp
theorem body_bytes (c : List (List ByteArray)) (a : ByteArray) : bs (c.foldl (fun a o => a ++ ((⟨#[32]⟩ : ByteArray) ++ optText o)) a) = bs a ++ Lib.joinTail [32] (c.map fun o => bs (optText o)) := by
  induction c generalizing a with
  | nil => simp [Lib.joinTail]
  | cons o c ih =>
    rw [List.foldl_cons, ih]
    simp [Lib.joinTail, bs_append]
/-- A constraint's line is the line of its options. -/
theorem conText_line (c : List (List ByteArray)) (hn : c ≠ []) : conText c = ((⟨#[47, 47, 32, 43, 98, 117, 105, 108, 100, 32]⟩ : ByteArray) ++ lineOf c) ++ ⟨#[10]⟩ := by
  apply bs_inj
  unfold conText bodyText
  rw [bs_append, bs_append, bs_append, body_bytes]
  cases c with
  | nil => exact absurd rfl hn
  | cons o r =>
    unfold lineOf
    rw [bs_B]
    simp [Lib.join_cons, Lib.joinTail, bs]
theorem lineOf_size (c : List (List ByteArray)) (M : Nat) (hs : ∀ o ∈ c, ∀ x ∈ o, x.size ≤ M) : (lineOf c).size ≤ c.length + (c.map List.length).sum * (M + 1) := by
  unfold lineOf
  rw [B_size]
  have h1 := join_length_le 32 (c.map fun o => bs (optText o))
  have h2 : ((c.map fun o => bs (optText o)).map List.length).sum ≤ (c.map List.length).sum * (M + 1) := by
    clear h1
    induction c with
    | nil => simp
    | cons o c ih =>
      have h3 := ih (fun x hx => hs x (by simp [hx]))
      have h4 := optText_size M o (hs o (by simp))
      rw [← bs_length] at h4
      simp only [List.map_cons, List.sum_cons, Nat.add_mul]
      omega
  simp only [List.length_map] at h1
  omega
theorem lineOf_take (c : List (List ByteArray)) (n : Nat) (h : n < c.length) : lineOf (c.take (n + 1)) = if n = 0 then optText (rd_L5 c n) else lineOf (c.take n) ++ ⟨#[32]⟩ ++ optText (rd_L5 c n) := by
  have e : c.take (n + 1) = c.take n ++ [rd_L5 c n] := by
    rw [List.take_succ_eq_append_getElem h]
    simp [rd_L5, List.getD, h]
  rw [e, lineOf_snoc]
  by_cases h0 : n = 0
  · subst h0; simp
  · rw [if_neg h0, if_neg]
    intro e2
    have := congrArg List.length e2
    rw [List.length_take, List.length_nil] at this
    omega
end Go.Proofs.YtknldfighehplaaDoor.HFnTextBackPure
