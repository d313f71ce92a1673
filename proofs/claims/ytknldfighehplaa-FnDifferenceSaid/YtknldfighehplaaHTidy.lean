/- What the printed Tidy, SameLive, maskAdd and solid come to, as lists and their look-ups; conditions: lengths in bounds. -/
import Derived.Test.YtknldfighehplaaHMasks
namespace Go.Proofs.Ytknldfighehplaa.HTidy
set_option linter.unusedSimpArgs false
set_option linter.unusedVariables false
open Go.RowKit Go.Proofs.Ytknldfighehplaa.HMap Go.Proofs.Ytknldfighehplaa.HMasks Go.Proofs.Ytknldfighehplaa.PFnSameMasks

/-- A list of entries as pairs. -/
def prs (l : List S74) : List (Int × Int) := l.map fun e => (e.f0, e.f1)
theorem prs_inj : ∀ {l m : List S74}, prs l = prs m → l = m
  | [], [], _ => rfl
  | [], _ :: _, h => by simp [prs] at h
  | _ :: _, [], h => by simp [prs] at h
  | a :: l, b :: m, h => by
    simp only [prs, List.map_cons, List.cons.injEq, Prod.mk.injEq] at h
    obtain ⟨⟨h1, h2⟩, h3⟩ := h
    have := prs_inj (l := l) (m := m) h3
    subst this
    cases a; cases b
    simp_all

def addL (a b : Int) : Bool → List S74 → List S74
  | true, [] => []
  | false, [] => [⟨a, b⟩]
  | true, e :: es => e :: addL a b true es
  | false, e :: es => if e.f0 ≥ a then (if e.f0 = a then ⟨a, Go.bits .or .u16 e.f1 b⟩ :: addL a b true es else ⟨a, b⟩ :: e :: addL a b true es) else e :: addL a b false es
theorem addL_true (a b : Int) (l : List S74) : addL a b true l = l := by
  induction l with
  | nil => rfl
  | cons e es ih => simp [addL, ih]
theorem addL_length (a b : Int) (f : Bool) (l : List S74) : (addL a b f l).length ≤ l.length + 1 := by
  induction l generalizing f with
  | nil => cases f <;> simp [addL]
  | cons e es ih =>
    cases f with
    | true => simp [addL_true]
    | false =>
      simp only [addL]
      split
      · split <;> simp [addL_true]
      · have := ih false; simp; omega

theorem drop_rd {l : List S74} {n : Nat} (h : n < l.length) : l.drop n = rd_T74 l n :: l.drop (n + 1) := by
  rw [List.drop_eq_getElem_cons h]
  simp [rd_T74, List.getD, h]

theorem maskAdd_l0 (x0 : List S74) (a b : Int) (hx : x0.length ≤ 2147483647) : ∀ (m n k : Nat) (acc : List S74) (f : Bool), m + n = x0.length → 2 * m < k → acc.length + 2 * m + 2 ≤ 17592186044416 →
    ∃ r, r = acc ++ addL a b f (x0.drop n) ∧ spec_maskAdd.l0 k x0 a b acc f n = some r := by
  intro m
  induction m with
  | zero =>
    intro n k acc f hn hk hacc
    obtain ⟨k, rfl⟩ : ∃ j, k = j + 1 := ⟨k - 1, by omega⟩
    have : n = x0.length := by omega
    subst this
    refine ⟨_, rfl, ?_⟩
    rw [List.drop_length]
    simp only [spec_maskAdd.l0]
    rw [if_neg (by omega)]
    cases f with
    | true => simp [addL]
    | false => simp only [addL, Bool.false_eq_true, if_false]; rw [if_pos (by omega)]
  | succ m ih =>
    intro n k acc f hn hk hacc
    obtain ⟨k, rfl⟩ : ∃ j, k = j + 2 := ⟨k - 2, by omega⟩
    have hlt : n < x0.length := by omega
    have hw : wrap64 ((n : Int) + 1) = ((n + 1 : Nat) : Int) := by unfold wrap64; omega
    refine ⟨_, rfl, ?_⟩
    rw [drop_rd hlt]
    have p0 : (0 : Int) ≤ n := by omega
    have p1 : (n : Int) < x0.length := by omega
    have p2 : acc.length < 17592186044416 := by omega
    have keep : ∀ g, spec_maskAdd.l0 k x0 a b (acc ++ [⟨(rd_T74 x0 n).f0, (rd_T74 x0 n).f1⟩]) g (n + 1 : Nat) = some (acc ++ rd_T74 x0 n :: addL a b g (x0.drop (n + 1))) := by
      intro g
      obtain ⟨r, hr, hh⟩ := ih (n + 1) k (acc ++ [⟨(rd_T74 x0 n).f0, (rd_T74 x0 n).f1⟩]) g (by omega) (by omega) (by simp; omega)
      rw [hh, hr]; simp
    cases f with
    | true =>
      simp only [spec_maskAdd.l0, spec_maskAdd.j1, addL, Bool.false_eq_true, if_false, if_true]
      rw [if_pos p1, if_pos p0, if_pos p1, if_pos p2, hw]
      exact keep true
    | false =>
      simp only [spec_maskAdd.l0, spec_maskAdd.j1, addL, Bool.false_eq_true, if_false, decide_eq_true_eq]
      rw [if_pos p1, if_pos p0]
      by_cases hge : (rd_T74 x0 n).f0 ≥ a
      · rw [if_pos hge, if_pos p0, if_pos p1, if_pos hge]
        by_cases he : (rd_T74 x0 n).f0 = a
        · rw [if_pos he, if_pos he, if_pos p2, hw]
          obtain ⟨r, hr, hh⟩ := ih (n + 1) k (acc ++ [⟨a, Go.bits .or .u16 (rd_T74 x0 n).f1 b⟩]) true (by omega) (by omega) (by simp; omega)
          rw [hh, hr]; simp
        · rw [if_neg he, if_neg he, if_pos p2]
          simp only [Option.bind_some]
          rw [if_pos (by simp; omega), hw]
          obtain ⟨r, hr, hh⟩ := ih (n + 1) k ((acc ++ [⟨a, b⟩]) ++ [⟨(rd_T74 x0 n).f0, (rd_T74 x0 n).f1⟩]) true (by omega) (by omega) (by simp; omega)
          rw [hh, hr]; simp
      · rw [if_neg hge, if_neg hge, if_pos p0, if_pos p1, if_pos p2, hw]
        exact keep false

/-- An entry stored in a list in order. -/
def addM (l : List S74) (a b : Int) : List S74 := if b = 0 then l else addL a b false l
theorem addM_length (l : List S74) (a b : Int) : (addM l a b).length ≤ l.length + 1 := by
  unfold addM; split
  · omega
  · exact addL_length a b false l
theorem maskAdd_is (l : List S74) (a b : Int) (hl : l.length ≤ 2147483647) (k : Nat) (hk : 2 * l.length < k) : spec_maskAdd.f k l a b = some (addM l a b) := by
  unfold spec_maskAdd.f addM
  by_cases hb : b = 0
  · rw [if_pos hb, if_pos hb]
  · rw [if_neg hb, if_neg hb]
    obtain ⟨r, hr, hh⟩ := maskAdd_l0 l a b hl l.length 0 k [] false (by omega) hk (by simp; omega)
    have hh' : spec_maskAdd.l0 k l a b [] false 0 = some r := hh
    rw [hh', hr]
    simp

/-- In order, each number once. -/
def Asc (l : List S74) : Prop := l.Pairwise fun x y => x.f0 < y.f0
theorem addL_mem (a b : Int) (f : Bool) (l : List S74) (e : S74) (he : e ∈ addL a b f l) : e.f0 = a ∨ e ∈ l := by
  induction l generalizing f with
  | nil => cases f <;> simp [addL] at he; exact .inl (by rw [he])
  | cons x es ih =>
    cases f with
    | true => rw [addL_true] at he; exact .inr he
    | false =>
      simp only [addL, addL_true] at he
      split at he
      · split at he
        · rcases List.mem_cons.1 he with h | h
          · exact .inl (by rw [h])
          · exact .inr (List.mem_cons_of_mem _ h)
        · rcases List.mem_cons.1 he with h | h
          · exact .inl (by rw [h])
          · exact .inr h
      · rcases List.mem_cons.1 he with h | h
        · exact .inr (by rw [h]; exact List.mem_cons_self)
        · rcases ih false h with h | h
          · exact .inl h
          · exact .inr (List.mem_cons_of_mem _ h)
theorem addL_asc (a b : Int) (l : List S74) (h : Asc l) : Asc (addL a b false l) := by
  induction l with
  | nil => simp [addL, Asc]
  | cons x es ih =>
    simp only [Asc, List.pairwise_cons] at h
    simp only [addL, addL_true]
    split
    · split
      · rename_i _ he
        simp only [Asc, List.pairwise_cons]
        exact ⟨fun y hy => by have := h.1 y hy; simp; omega, h.2⟩
      · simp only [Asc, List.pairwise_cons]
        refine ⟨fun y hy => ?_, h.1, h.2⟩
        rcases List.mem_cons.1 hy with e | e
        · rw [e]; show a < x.f0; omega
        · have := h.1 y e; show a < y.f0; omega
    · simp only [Asc, List.pairwise_cons]
      refine ⟨fun y hy => ?_, ih h.2⟩
      rcases addL_mem a b false es y hy with e | e
      · omega
      · exact h.1 y e
theorem lk_prs_cons (e : S74) (l : List S74) (x : Int) : lk (prs (e :: l)) x = if x = e.f0 then some e.f1 else lk (prs l) x := rfl
theorem lk_low (l : List S74) (x : Int) (h : ∀ y ∈ l, x < y.f0) : lk (prs l) x = none := by
  induction l with
  | nil => rfl
  | cons e es ih =>
    rw [lk_prs_cons, if_neg (by have := h e List.mem_cons_self; omega)]
    exact ih (fun y hy => h y (List.mem_cons_of_mem _ hy))
theorem lk_addL (a b : Int) (l : List S74) (h : Asc l) (x : Int) :
    lk (prs (addL a b false l)) x = if x = a then some ((lk (prs l) a).elim b fun u => Go.bits .or .u16 u b) else lk (prs l) x := by
  induction l with
  | nil => simp [addL, lk_prs_cons, prs, lk]
  | cons e es ih =>
    simp only [Asc, List.pairwise_cons] at h
    simp only [addL, addL_true]
    by_cases hge : e.f0 ≥ a
    · rw [if_pos hge]
      by_cases he : e.f0 = a
      · rw [if_pos he]
        simp only [lk_prs_cons, he]
        by_cases hx : x = a <;> simp [hx]
      · rw [if_neg he]
        have hlow : lk (prs (e :: es)) a = none := lk_low _ _ (fun y hy => by
          rcases List.mem_cons.1 hy with e1 | e1
          · rw [e1]; omega
          · have := h.1 y e1; omega)
        rw [lk_prs_cons, hlow]
        rfl
    · rw [if_neg hge, lk_prs_cons, ih h.2]
      have hne : a ≠ e.f0 := by omega
      rw [lk_prs_cons e es a, if_neg hne, lk_prs_cons e es x]
      by_cases hx : x = a
      · subst hx; simp [hne]
      · simp [hx]

/-- The mask of the last entry of a number. -/
def lastv : List S74 → Int → Option Int
  | [], _ => none
  | e :: es, x => (lastv es x).or (if x = e.f0 then some e.f1 else none)
theorem lastv_isSome (l : List S74) (x : Int) : (lastv l x).isSome = l.any (fun e => decide (e.f0 = x)) := by
  induction l with
  | nil => rfl
  | cons e es ih =>
    simp only [lastv, Option.isSome_or, ih, List.any_cons]
    by_cases h : x = e.f0
    · subst h; simp
    · have h' : ¬ e.f0 = x := fun q => h q.symm
      simp [h, h']
theorem lk_foldl (l : List S74) (m : List (Int × Int)) (x : Int) : lk (l.foldl (fun m p => put m p.f0 p.f1) m) x = (lastv l x).or (lk m x) := by
  induction l generalizing m with
  | nil => simp [lastv]
  | cons e es ih =>
    simp only [List.foldl_cons, lastv]
    rw [ih, lk_put, Option.or_assoc]
    congr 1
    by_cases h : x = e.f0 <;> simp [h]
theorem lk_mapOf (l : List S74) (x : Int) : lk (mapOf l) x = lastv l x := by
  unfold mapOf
  rw [lk_foldl]
  simp [lk]
theorem nodup_mapOf (l : List S74) : (keys (mapOf l)).Nodup := by
  have : ∀ (l : List S74) (m : List (Int × Int)), (keys m).Nodup → (keys (l.foldl (fun m p => put m p.f0 p.f1) m)).Nodup := by
    intro l
    induction l with
    | nil => intro m h; exact h
    | cons e es ih => intro m h; exact ih _ (nodup_put h _ _)
  exact this l [] (by simp [keys])

/-- The list put in order. -/
def tidyL : List S74 → List S74 → List S74
  | acc, [] => acc
  | acc, e :: es => tidyL (if es.any (fun y => decide (y.f0 = e.f0)) then acc else addM acc e.f0 e.f1) es
theorem tidyL_length (l acc : List S74) : (tidyL acc l).length ≤ acc.length + l.length := by
  induction l generalizing acc with
  | nil => simp [tidyL]
  | cons e es ih =>
    simp only [tidyL]
    refine Nat.le_trans (ih _) ?_
    split
    · simp
    · have := addM_length acc e.f0 e.f1
      simp; omega
theorem tidyL_asc (l acc : List S74) (h : Asc acc) : Asc (tidyL acc l) := by
  induction l generalizing acc with
  | nil => exact h
  | cons e es ih =>
    simp only [tidyL]
    refine ih _ ?_
    split
    · exact h
    · unfold addM; split
      · exact h
      · exact addL_asc _ _ _ h
/-- What is in order has at each number the last mask of that number; where no mask is empty. -/
theorem lk_tidyL (l acc : List S74) (h : Asc acc) (hd : ∀ y ∈ l, lk (prs acc) y.f0 = none) (hz : ∀ y ∈ l, y.f1 ≠ 0) (x : Int) :
    lk (prs (tidyL acc l)) x = (lastv l x).or (lk (prs acc) x) := by
  induction l generalizing acc with
  | nil => simp [tidyL, lastv]
  | cons e es ih =>
    simp only [tidyL, lastv]
    by_cases ha : es.any (fun y => decide (y.f0 = e.f0)) = true
    · rw [if_pos ha, ih acc h (fun y hy => hd y (List.mem_cons_of_mem _ hy)) (fun y hy => hz y (List.mem_cons_of_mem _ hy))]
      by_cases hx : x = e.f0
      · subst hx
        have := lastv_isSome es e.f0
        rw [ha] at this
        obtain ⟨u, hu⟩ := Option.isSome_iff_exists.1 this
        simp [hu]
      · simp [hx]
    · rw [if_neg ha]
      have hze := hz e List.mem_cons_self
      have hde := hd e List.mem_cons_self
      simp only [addM, if_neg hze]
      have hall : ∀ y ∈ es, y.f0 ≠ e.f0 := fun y hy he => ha (List.any_eq_true.2 ⟨y, hy, by simp [he]⟩)
      rw [ih _ (addL_asc _ _ _ h) (fun y hy => by
        rw [lk_addL _ _ _ h, if_neg (hall y hy)]
        exact hd y (List.mem_cons_of_mem _ hy)) (fun y hy => hz y (List.mem_cons_of_mem _ hy))]
      rw [lk_addL _ _ _ h, hde, Option.or_assoc]
      by_cases hx : x = e.f0
      · subst hx; simp
      · simp [hx]

theorem wrap_nat (n : Nat) (h : n ≤ 2147483647) : wrap64 ((n : Int) + 1) = ((n + 1 : Nat) : Int) := by unfold wrap64; omega

theorem tidy_l (x0 : List S74) (hx : x0.length ≤ 2147483647) : ∀ (m n k : Nat) (acc : List S74), m + n = x0.length → (m + 1) * (x0.length + 2) + 2 * x0.length < k → acc.length ≤ n →
    spec_Tidy.l0 k x0 acc n = some (tidyL acc (x0.drop n)) := by
  intro m
  induction m with
  | zero =>
    intro n k acc hn hk hacc
    obtain ⟨k, rfl⟩ : ∃ j, k = j + 1 := ⟨k - 1, by omega⟩
    have : n = x0.length := by omega
    subst this
    rw [List.drop_length]
    simp only [spec_Tidy.l0]
    rw [if_neg (by omega)]
    rfl
  | succ m ih =>
    intro n k acc hn hk hacc
    rw [Nat.succ_mul] at hk
    have hP : x0.length + 2 ≤ (m + 1) * (x0.length + 2) := Nat.le_mul_of_pos_left (x0.length + 2) (show 0 < m + 1 by omega)
    generalize (m + 1) * (x0.length + 2) = P at *
    obtain ⟨k, rfl⟩ : ∃ j, k = j + 1 := ⟨k - 1, by omega⟩
    have hlt : n < x0.length := by omega
    have hw := Lib.hid (wrap_nat n (by omega))
    have p0 : (0 : Int) ≤ n := by omega
    have p1 : (n : Int) < x0.length := by omega
    simp only [spec_Tidy.l0]
    rw [if_pos p1, hw.out, drop_rd hlt]
    simp only [tidyL]
    have inner : ∀ (q j k : Nat) (g : Bool), q + j = x0.length → q + 1 + P + 2 * x0.length < k →
        spec_Tidy.l1 k x0 acc n g j = some (tidyL (if g = true ∧ (x0.drop j).any (fun y => decide (y.f0 = (rd_T74 x0 n).f0)) = false then addM acc (rd_T74 x0 n).f0 (rd_T74 x0 n).f1 else acc) (x0.drop (n + 1))) := by
      intro q
      induction q with
      | zero =>
        intro j k g hj hk
        obtain ⟨k, rfl⟩ : ∃ i, k = i + 1 := ⟨k - 1, by omega⟩
        have : j = x0.length := by omega
        subst this
        rw [List.drop_length]
        simp only [spec_Tidy.l1, List.any_nil, and_true]
        rw [if_neg (by omega), hw.out]
        cases g with
        | true =>
          simp only [if_true]
          rw [if_pos p0, if_pos p1, maskAdd_is acc _ _ (by omega) k (by omega)]
          simp only [Option.bind_some]
          exact ih (n + 1) k _ (by omega) (by omega) (by have := addM_length acc (rd_T74 x0 n).f0 (rd_T74 x0 n).f1; omega)
        | false =>
          simp only [Bool.false_eq_true, if_false]
          exact ih (n + 1) k _ (by omega) (by omega) (by omega)
      | succ q ihq =>
        intro j k g hj hk
        obtain ⟨k, rfl⟩ : ∃ i, k = i + 1 := ⟨k - 1, by omega⟩
        have hjl : j < x0.length := by omega
        have hwj := Lib.hid (wrap_nat j (by omega))
        have q0 : (0 : Int) ≤ j := by omega
        have q1 : (j : Int) < x0.length := by omega
        cases g with
        | true =>
          have step : spec_Tidy.l1 (k + 1) x0 acc n true j = spec_Tidy.l1 k x0 acc n (((rd_T74 x0 j).f0) != ((rd_T74 x0 n).f0)) ((j + 1 : Nat) : Int) := by
            simp only [spec_Tidy.l1, if_true, if_pos q0, if_pos q1, if_pos p0, if_pos p1, hwj.out]
          rw [step, ihq (j + 1) k _ (by omega) (by omega), drop_rd hjl]
          congr 2
          simp only [List.any_cons, true_and, Bool.or_eq_false_iff, decide_eq_false_iff_not, bne_iff_ne, ne_eq]
        | false =>
          have step : spec_Tidy.l1 (k + 1) x0 acc n false j = spec_Tidy.l1 k x0 acc n false ((j + 1 : Nat) : Int) := by
            simp only [spec_Tidy.l1, if_pos q1, hwj.out, Bool.false_eq_true, if_false]
          rw [step, ihq (j + 1) k _ (by omega) (by omega)]
          congr 2
    rw [inner m (n + 1) k true (by omega) (by omega)]
    congr 2
    cases (x0.drop (n + 1)).any (fun y => decide (y.f0 = (rd_T74 x0 n).f0)) with
    | true => simp only [true_and, if_true]; rfl
    | false => simp only [true_and, if_true]; rfl

def tidy (l : List S74) : List S74 := tidyL [] l
def tidyK (n : Nat) : Nat := (n + 1) * (n + 2) + 2 * n + 1
theorem tidy_is (l : List S74) (hl : l.length ≤ 2147483647) : spec_Tidy.f (tidyK l.length) l = some (tidy l) := by
  unfold spec_Tidy.f
  have := tidy_l l hl l.length 0 (tidyK l.length) [] (by omega) (by unfold tidyK; omega) (by simp)
  simpa [tidy] using this
theorem tidy_length (l : List S74) : (tidy l).length ≤ l.length := by
  have := tidyL_length l []
  simpa [tidy] using this
theorem tidy_asc (l : List S74) : Asc (tidy l) := tidyL_asc l [] List.Pairwise.nil
theorem lk_tidy (l : List S74) (hz : ∀ y ∈ l, y.f1 ≠ 0) (x : Int) : lk (prs (tidy l)) x = lk (mapOf l) x := by
  rw [lk_mapOf, tidy, lk_tidyL l [] List.Pairwise.nil (fun y _ => rfl) hz x]
  simp [prs, lk]

theorem asc_ext : ∀ (l m : List S74), Asc l → Asc m → (∀ x, lk (prs l) x = lk (prs m) x) → l = m := by
  intro l
  induction l with
  | nil =>
    intro m _ _ h
    cases m with
    | nil => rfl
    | cons e es => have := h e.f0; rw [lk_prs_cons] at this; simp [prs, lk] at this
  | cons e es ih =>
    intro m hl hm h
    cases m with
    | nil => have := h e.f0; rw [lk_prs_cons] at this; simp [prs, lk] at this
    | cons f fs =>
      simp only [Asc, List.pairwise_cons] at hl hm
      have h0 : e.f0 = f.f0 := by
        rcases Int.lt_trichotomy e.f0 f.f0 with h1 | h1 | h1
        · have h2 := h e.f0
          rw [lk_prs_cons, if_pos rfl, lk_low (f :: fs) e.f0 (fun y hy => by
            rcases List.mem_cons.1 hy with e1 | e1
            · rw [e1]; exact h1
            · have := hm.1 y e1; omega)] at h2
          cases h2
        · exact h1
        · have h2 := h f.f0
          rw [lk_prs_cons f fs, if_pos rfl, lk_low (e :: es) f.f0 (fun y hy => by
            rcases List.mem_cons.1 hy with e1 | e1
            · rw [e1]; exact h1
            · have := hl.1 y e1; omega)] at h2
          cases h2
      have h1 : e.f1 = f.f1 := by
        have h2 := h e.f0
        rw [lk_prs_cons, if_pos rfl, lk_prs_cons, if_pos h0] at h2
        exact Option.some.inj h2
      have hef : e = f := by cases e; cases f; simp_all
      subst hef
      congr 1
      refine ih fs hl.2 hm.2 (fun x => ?_)
      by_cases hx : x = e.f0
      · subst hx
        rw [lk_low es _ hl.1, lk_low fs _ hm.1]
      · have := h x
        rwa [lk_prs_cons, if_neg hx, lk_prs_cons, if_neg hx] at this

theorem len_del : ∀ {l : List (Int × Int)} {k : Int} {v : Int}, lk l k = some v → (del l k).length + 1 = l.length := by
  intro l
  induction l with
  | nil => intro k v h; cases h
  | cons p l ih =>
    obtain ⟨a, b⟩ := p
    intro k v h
    by_cases hk : k = a
    · subst hk; simp [del]
    · simp only [lk, if_neg hk] at h
      have := ih h
      simp only [del, if_neg hk, List.length_cons]
      omega
theorem same_iff : ∀ (m1 m2 : List (Int × Int)), (keys m1).Nodup → (keys m2).Nodup → (sameMaps m1 m2 = true ↔ ∀ x, lk m1 x = lk m2 x) := by
  intro m1
  induction m1 with
  | nil =>
    intro m2 _ _
    cases m2 with
    | nil => simp [sameMaps]
    | cons p l =>
      simp only [sameMaps, List.length_nil, List.length_cons]
      refine ⟨fun h => by simp at h, fun h => ?_⟩
      have := h p.1
      obtain ⟨a, b⟩ := p
      simp [lk] at this
  | cons p l ih =>
    obtain ⟨a, b⟩ := p
    intro m2 h1 h2
    have h1' := h1
    simp only [keys, List.map_cons, List.nodup_cons] at h1'
    have IH := ih (del m2 a) h1'.2 (nodup_del h2 a)
    have hla : lk l a = none := lk_none.2 h1'.1
    have hne : ∀ q ∈ l, q.1 ≠ a := fun q hq e => h1'.1 (by rw [← e]; exact List.mem_map_of_mem hq)
    constructor
    · intro hs
      simp only [sameMaps, Bool.and_eq_true, beq_iff_eq, List.all_eq_true, List.length_cons, List.mem_cons] at hs
      have hab : lk m2 a = some b := hs.2 (a, b) (.inl rfl)
      have hs' : sameMaps l (del m2 a) = true := by
        simp only [sameMaps, Bool.and_eq_true, beq_iff_eq, List.all_eq_true]
        refine ⟨by have := len_del hab; omega, fun q hq => ?_⟩
        rw [lk_del h2, if_neg (hne q hq)]
        exact hs.2 q (.inr hq)
      have hx := IH.1 hs'
      intro x
      simp only [lk]
      by_cases e : x = a
      · subst e; rw [if_pos rfl, hab]
      · rw [if_neg e, hx x, lk_del h2, if_neg e]
    · intro h
      have hab : lk m2 a = some b := by rw [← h a]; simp [lk]
      have hs' := IH.2 (fun x => by
        rw [lk_del h2]
        by_cases e : x = a
        · subst e; rw [if_pos rfl, hla]
        · rw [if_neg e, ← h x]; simp [lk, e])
      simp only [sameMaps, Bool.and_eq_true, beq_iff_eq, List.all_eq_true] at hs'
      simp only [sameMaps, Bool.and_eq_true, beq_iff_eq, List.all_eq_true, List.length_cons, List.mem_cons]
      refine ⟨by have := len_del hab; omega, fun q hq => ?_⟩
      rcases hq with e | hq
      · subst e; exact hab
      · have := hs'.2 q hq
        rwa [lk_del h2, if_neg (hne q hq)] at this

theorem same_l (s t : List S74) (hs : s.length ≤ 2147483647) (he : s.length = t.length) : ∀ (m n k : Nat), m + n = s.length → m < k →
    spec_SameLive.l0 k s t n = some (decide (prs (s.drop n) = prs (t.drop n))) := by
  intro m
  induction m with
  | zero =>
    intro n k hn hk
    obtain ⟨k, rfl⟩ : ∃ j, k = j + 1 := ⟨k - 1, by omega⟩
    have : n = s.length := by omega
    subst this
    simp only [spec_SameLive.l0]
    rw [if_neg (by omega), List.drop_length, he, List.drop_length]
    simp
  | succ m ih =>
    intro n k hn hk
    obtain ⟨k, rfl⟩ : ∃ j, k = j + 1 := ⟨k - 1, by omega⟩
    have hlt : n < s.length := by omega
    have hw : wrap64 ((n : Int) + 1) = ((n + 1 : Nat) : Int) := by unfold wrap64; omega
    simp only [spec_SameLive.l0]
    rw [if_pos (by omega), if_pos (by omega), if_pos (by omega), hw, drop_rd hlt, drop_rd (by omega : n < t.length), ih (n + 1) k (by omega) (by omega)]
    simp only [prs, List.map_cons, List.cons.injEq, Prod.mk.injEq]
    by_cases h0 : (rd_T74 s n).f0 = (rd_T74 t n).f0 <;> by_cases h1 : (rd_T74 s n).f1 = (rd_T74 t n).f1 <;> simp [h0, h1]
theorem same_is (s t : List S74) (hs : s.length ≤ 2147483647) : spec_SameLive.f (s.length + 1) s t = some (decide (prs s = prs t)) := by
  unfold spec_SameLive.f
  by_cases he : s.length = t.length
  · rw [if_pos (by omega)]
    have := same_l s t hs he s.length 0 (s.length + 1) (by omega) (by omega)
    simpa using this
  · rw [if_neg (by omega)]
    congr 1
    symm
    rw [decide_eq_false_iff_not]
    intro h
    exact he (by rw [prs_inj h])

/-- THE PLAIN LAW: lists without empty masks make equal sets just where, put in order, they are equal. -/
theorem law (s t : List S74) (hs : ∀ y ∈ s, y.f1 ≠ 0) (ht : ∀ y ∈ t, y.f1 ≠ 0) : sameMaps (mapOf s) (mapOf t) = decide (prs (tidy s) = prs (tidy t)) := by
  rw [Bool.eq_iff_iff, decide_eq_true_eq, same_iff _ _ (nodup_mapOf s) (nodup_mapOf t)]
  constructor
  · intro h
    rw [asc_ext (tidy s) (tidy t) (tidy_asc s) (tidy_asc t) (fun x => by rw [lk_tidy s hs, lk_tidy t ht, h])]
  · intro h x
    rw [← lk_tidy s hs, ← lk_tidy t ht, h]

/-- Without empty masks, and not too long. -/
def solid (l : List S74) : Bool := l.all (fun y => y.f1 != 0) && decide ((l.length : Int) ≤ 2000)
theorem solid_l (x0 : List S74) (hx : x0.length ≤ 2147483647) : ∀ (m n k : Nat), m + n = x0.length → m < k →
    laws_solid.l0 k x0 x0 x0.length n = some ((x0.drop n).all (fun y => y.f1 != 0) && decide ((x0.length : Int) ≤ 2000)) := by
  intro m
  induction m with
  | zero =>
    intro n k hn hk
    obtain ⟨k, rfl⟩ : ∃ j, k = j + 1 := ⟨k - 1, by omega⟩
    have : n = x0.length := by omega
    subst this
    simp only [laws_solid.l0]
    rw [if_neg (by omega), List.drop_length]
    simp
  | succ m ih =>
    intro n k hn hk
    obtain ⟨k, rfl⟩ : ∃ j, k = j + 1 := ⟨k - 1, by omega⟩
    have hlt : n < x0.length := by omega
    have hw : wrap64 ((n : Int) + 1) = ((n + 1 : Nat) : Int) := by unfold wrap64; omega
    simp only [laws_solid.l0]
    rw [if_pos (by omega), if_pos (by omega), if_pos (by omega), hw, drop_rd hlt, ih (n + 1) k (by omega) (by omega)]
    by_cases h0 : (rd_T74 x0 n).f1 = 0
    · simp [h0]
    · have h1 : ((rd_T74 x0 n).f1 != 0) = true := by simpa using h0
      rw [if_neg h0]
      simp only [List.all_cons, h1, Bool.true_and]
theorem solid_is (l : List S74) (hl : l.length ≤ 2147483647) : laws_solid.f (l.length + 1) l = some (solid l) := by
  unfold laws_solid.f solid
  have := solid_l l hl l.length 0 (l.length + 1) (by omega) (by omega)
  simpa using this
end Go.Proofs.Ytknldfighehplaa.HTidy
