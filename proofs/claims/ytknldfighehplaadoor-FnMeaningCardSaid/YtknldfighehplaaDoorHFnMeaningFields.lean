/- What the printed cut at white space comes to; conditions: lengths in bounds. -/
import Derived.Test.YtknldfighehplaaDoorHFnMeaningCut
import Derived.Lib.Fields
namespace Go.Proofs.YtknldfighehplaaDoor.HFnMeaningFields
set_option linter.unusedSimpArgs false
set_option linter.unusedVariables false
open Go.RowKit Go.Proofs.YtknldfighehplaaDoor.HSplit Go.Proofs.YtknldfighehplaaDoor.HFnMeaningCut Go.Proofs.YtknldfighehplaaDoor.HFnMeaningPlain Go.Proofs.YtknldfighehplaaDoor.PFnMeaning Go.Proofs.YtknldfighehplaaDoorW.PrintWords Go.Proofs.YtknldfighehplaaDoorW.PrintLast Go.Proofs.YtknldfighehplaaDoorW.PrintMore

theorem isSp_all : ∀ n : Fin 256, Lib.isSp (UInt8.ofNat n.val) = decide (n.val = 32 ∨ (9 ≤ n.val ∧ n.val ≤ 13)) := by decide +kernel
theorem isSp_is (b : UInt8) : Lib.isSp b = decide (b.toNat = 32 ∨ (9 ≤ b.toNat ∧ b.toNat ≤ 13)) := by
  have h := isSp_all ⟨b.toNat, b.toNat_lt⟩
  simpa using h
theorem sp_ways {α : Type} (b : UInt8) (j : Bool → α) : (if ((b.toNat : Int)) = 32 then j false else if (b.toNat : Int) < 9 then j true else j (decide ((b.toNat : Int) > 13))) = j (!Lib.isSp b) := by
  rw [isSp_is]
  by_cases h1 : b.toNat = 32
  · rw [if_pos (by omega)]; simp [h1]
  · rw [if_neg (by omega)]
    by_cases h2 : b.toNat < 9
    · rw [if_pos (by omega)]
      have : ¬ (b.toNat = 32 ∨ (9 ≤ b.toNat ∧ b.toNat ≤ 13)) := by omega
      simp [this]
    · rw [if_neg (by omega)]
      by_cases h3 : b.toNat > 13
      · have : ¬ (b.toNat = 32 ∨ (9 ≤ b.toNat ∧ b.toNat ≤ 13)) := by omega
        have h4 : (b.toNat : Int) > 13 := by omega
        simp [this, h4]
      · have : (b.toNat = 32 ∨ (9 ≤ b.toNat ∧ b.toNat ≤ 13)) := by omega
        have h4 : ¬ (b.toNat : Int) > 13 := by omega
        simp [this, h4]
theorem toList_bs (s : ByteArray) : s.toList = bs s := by rw [ByteArray.toList_eq]
theorem fields_l (t : ByteArray) (ht : t.size ≤ 4398046511104) : ∀ (m n k : Nat) (out : List ByteArray) (now : ByteArray), m + n = t.size → 2 * m < k → out.length + m ≤ 4398046511104 → now.size + m ≤ 8796093022208 →
    spec_tagsFields.l0 k t out now n = some (out ++ (Lib.fieldsGo (bs now) ((bs t).drop n)).map B) := by
  intro m
  induction m with
  | zero =>
    intro n k out now hn hk ho hw
    obtain ⟨k, rfl⟩ : ∃ j, k = j + 1 := ⟨k - 1, by omega⟩
    rw [List.drop_of_length_le (by rw [bs_length]; omega)]
    simp only [spec_tagsFields.l0, Lib.fieldsGo]
    rw [if_neg (by omega), toList_bs]
    cases hb : bs now with
    | nil => simp
    | cons a l =>
      rw [if_neg (by simp), if_pos (by omega), if_neg (by simp), ← hb]
      simp [B_bs]
  | succ m ih =>
    intro n k out now hn hk ho hw
    obtain ⟨k, rfl⟩ : ∃ j, k = j + 1 + 1 := ⟨k - 2, by omega⟩
    have hwr : wrap64 ((n : Int) + 1) = ((n + 1 : Nat) : Int) := by unfold wrap64; omega
    have hlt : n < t.size := by omega
    have hd : (bs t).drop n = (bs t)[n]'(by rw [bs_length]; exact hlt) :: (bs t).drop (n + 1) := List.drop_eq_getElem_cons (by rw [bs_length]; exact hlt)
    have hx : (t.extract (n : Int).toNat ((n + 1 : Nat) : Int).toNat).size = 1 := by
      simp only [Int.toNat_natCast]
      rw [ByteArray.size_extract]; omega
    have hxb : bs (t.extract (n : Int).toNat ((n + 1 : Nat) : Int).toNat) = [(bs t)[n]'(by rw [bs_length]; exact hlt)] := by
      simp only [Int.toNat_natCast]
      rw [bs_extract, List.drop_take, show n + 1 - n = 1 by omega, hd]
      simp
    rw [hd]
    simp only [spec_tagsFields.l0]
    rw [if_pos (by omega), if_pos (by omega), bt_bs t n hlt, sp_ways _ (fun b => spec_tagsFields.j1 (k + 1) t out now n b)]
    generalize (bs t)[n]'(by rw [bs_length]; exact hlt) = c at *
    simp only [spec_tagsFields.j1, hwr, Lib.fieldsGo]
    cases hc : Lib.isSp c with
    | false =>
      rw [if_pos (by rfl), if_pos (by omega), if_pos (by omega), if_pos (by omega), if_pos (by rw [hx]; omega), if_neg (by simp)]
      rw [ih (n + 1) k out _ (by omega) (by omega) (by omega) (by rw [ByteArray.size_append, hx]; omega), bs_append, hxb]
    | true =>
      rw [if_neg (by simp), if_pos rfl, toList_bs]
      cases hb : bs now with
      | nil =>
        rw [if_pos rfl, ih (n + 1) k out now (by omega) (by omega) (by omega) (by omega), hb]
        simp
      | cons a l =>
        rw [if_neg (by simp), if_pos (by omega), ih (n + 1) k (out ++ [now]) ⟨#[]⟩ (by omega) (by omega) (by simp; omega) (by show 0 + m ≤ _; omega)]
        have e3 : bs (⟨#[]⟩ : ByteArray) = [] := rfl
        rw [if_neg (by simp), e3, ← hb]
        simp [B_bs]
/-- The words of a text between its white space. -/
def words (t : ByteArray) : List ByteArray := (Lib.fields (bs t)).map B
theorem fields_is (t : ByteArray) (ht : t.size ≤ 4398046511104) (k : Nat) (hk : 2 * t.size < k) : spec_tagsFields.f k t = some (words t) := by
  unfold spec_tagsFields.f words Lib.fields
  have h := fields_l t ht t.size 0 k [] ⟨#[]⟩ (by omega) hk (by simp; omega) (by show 0 + t.size ≤ _; omega)
  have e3 : bs (⟨#[]⟩ : ByteArray) = [] := rfl
  rw [e3] at h
  simpa using h

/-- The options of some words, up to the first that is no option. -/
def pcs : List ByteArray → List (List ByteArray) → List (List ByteArray) × Bool
  | [], acc => (acc, true)
  | x :: r, acc => if (pieces x).all valid = true then pcs r (acc ++ [pieces x]) else (acc, false)
theorem parse_l (ws : List ByteArray) (hl : ws.length ≤ 2147483647) (M : Nat) (hM : M ≤ 1000000) (hs : ∀ x ∈ ws, x.size ≤ M) : ∀ (m n k : Nat) (acc : List (List ByteArray)), m + n = ws.length → m + 2 * M + 1 < k → acc.length + m ≤ 4294967296 →
    spec_ParseConstraint.l0 k acc ws ws.length n = some (pcs (ws.drop n) acc) := by
  intro m
  induction m with
  | zero =>
    intro n k acc hn hk ha
    obtain ⟨k, rfl⟩ : ∃ j, k = j + 1 := ⟨k - 1, by omega⟩
    have : n = ws.length := by omega
    subst this
    simp only [spec_ParseConstraint.l0]
    rw [if_neg (by omega), List.drop_length]
    rfl
  | succ m ih =>
    intro n k acc hn hk ha
    obtain ⟨k, rfl⟩ : ∃ j, k = j + 1 := ⟨k - 1, by omega⟩
    have hlt : n < ws.length := by omega
    have hw : wrap64 ((n : Int) + 1) = ((n + 1 : Nat) : Int) := by unfold wrap64; omega
    have hsz := hs _ (rdOf_mem hlt)
    simp only [spec_ParseConstraint.l0]
    rw [if_pos (by omega), if_pos (by omega), if_pos (by omega), hw, drop_rdOf hlt, parseOption_is _ (by omega) k (by omega)]
    simp only [Option.bind_some, pcs]
    cases hv : (pieces (rdOf ByteArray.empty ws n)).all valid with
    | true => rw [if_pos rfl, if_pos rfl, if_pos (by omega), ih (n + 1) k _ (by omega) (by omega) (by simp; omega)]
    | false => rw [if_neg (by simp), if_neg (by simp)]
theorem words_size (t : ByteArray) : (words t).length ≤ t.size + 1 ∧ ∀ x ∈ words t, x.size ≤ t.size := by
  have key : ∀ (l cur : List UInt8), ((Lib.fieldsGo cur l).length ≤ l.length + 1) ∧ ∀ x ∈ Lib.fieldsGo cur l, x.length ≤ cur.length + l.length := by
    intro l
    induction l with
    | nil => intro cur; cases cur <;> simp [Lib.fieldsGo]
    | cons b l ih =>
      intro cur
      simp only [Lib.fieldsGo]
      split
      · split
        · obtain ⟨h1, h2⟩ := ih []
          refine ⟨by simp; omega, fun x hx => ?_⟩
          have := h2 x hx
          simp at this ⊢; omega
        · obtain ⟨h1, h2⟩ := ih []
          refine ⟨by simp; omega, fun x hx => ?_⟩
          rcases List.mem_cons.1 hx with rfl | hx
          · simp
          · have := h2 x hx
            simp at this ⊢; omega
      · obtain ⟨h1, h2⟩ := ih (cur ++ [b])
        refine ⟨by simp; omega, fun x hx => ?_⟩
        have := h2 x hx
        simp at this ⊢; omega
  obtain ⟨h1, h2⟩ := key (bs t) []
  rw [bs_length] at h1
  refine ⟨by simpa [words, Lib.fields] using h1, fun x hx => ?_⟩
  obtain ⟨y, hy, rfl⟩ := List.mem_map.1 hx
  have := h2 y hy
  rw [B_size]
  simpa [bs_length] using this
theorem parse_is (t : ByteArray) (ht : t.size ≤ 1000000) (k : Nat) (hk : 3 * t.size + 2 < k) : spec_ParseConstraint.f k t = some (pcs (words t) []) := by
  obtain ⟨h1, h2⟩ := words_size t
  unfold spec_ParseConstraint.f
  rw [fields_is t (by omega) k (by omega)]
  simp only [Option.bind_some]
  have := parse_l (words t) (by omega) t.size ht h2 (words t).length 0 k [] (by omega) (by omega) (by simp; omega)
  simpa using this
end Go.Proofs.YtknldfighehplaaDoor.HFnMeaningFields
