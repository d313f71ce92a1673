/- Lists of entries and their sets, empty masks among them: what Tidy comes to, what a copy and a difference have; conditions: the masks' range. -/
import Derived.Test.YtknldfighehplaaHTidy
import Derived.Laws.BitsAllLaws
namespace Go.Proofs.Ytknldfighehplaa.HSet
set_option linter.unusedSimpArgs false
set_option linter.unusedVariables false
open Go.RowKit Go.Proofs.Ytknldfighehplaa.HMap Go.Proofs.Ytknldfighehplaa.HMasks Go.Proofs.Ytknldfighehplaa.HTidy Go.Proofs.Ytknldfighehplaa.PFnSameMasks

/-- A mask that is not empty. -/
def nz : Option Int → Option Int
  | some v => if v = 0 then none else some v
  | none => none
theorem nz_nz (o : Option Int) : nz (nz o) = nz o := by
  cases o with
  | none => rfl
  | some v => by_cases h : v = 0 <;> simp [nz, h]
theorem nz_some {o : Option Int} {v : Int} (h : nz o = some v) : o = some v ∧ v ≠ 0 := by
  cases o with
  | none => cases h
  | some u =>
    by_cases hu : u = 0
    · simp [nz, hu] at h
    · simp only [nz, if_neg hu, Option.some.injEq] at h
      subst h; exact ⟨rfl, hu⟩

theorem lk_addM (acc : List S74) (a b : Int) (h : Asc acc) (hn : lk (prs acc) a = none) (x : Int) : lk (prs (addM acc a b)) x = if x = a then nz (some b) else lk (prs acc) x := by
  unfold addM
  by_cases hb : b = 0
  · rw [if_pos hb]
    by_cases hx : x = a
    · rw [if_pos hx, hx, hn]; simp [nz, hb]
    · rw [if_neg hx]
  · rw [if_neg hb, lk_addL _ _ _ h, hn]
    simp [nz, hb]
theorem addM_asc (acc : List S74) (a b : Int) (h : Asc acc) : Asc (addM acc a b) := by
  unfold addM; split
  · exact h
  · exact addL_asc _ _ _ h
theorem lk_tidyZ (l acc : List S74) (h : Asc acc) (hd : ∀ y ∈ l, lk (prs acc) y.f0 = none) (x : Int) :
    lk (prs (tidyL acc l)) x = if (lastv l x).isSome = true then nz (lastv l x) else lk (prs acc) x := by
  induction l generalizing acc with
  | nil => simp [tidyL, lastv]
  | cons e es ih =>
    simp only [tidyL, lastv]
    by_cases ha : es.any (fun y => decide (y.f0 = e.f0)) = true
    · rw [if_pos ha, ih acc h (fun y hy => hd y (List.mem_cons_of_mem _ hy))]
      by_cases hx : x = e.f0
      · subst hx
        have := lastv_isSome es e.f0
        rw [ha] at this
        obtain ⟨u, hu⟩ := Option.isSome_iff_exists.1 this
        simp [hu]
      · simp [hx]
    · rw [if_neg ha]
      have hde := hd e List.mem_cons_self
      have hall : ∀ y ∈ es, y.f0 ≠ e.f0 := fun y hy he => ha (List.any_eq_true.2 ⟨y, hy, by simp [he]⟩)
      rw [ih _ (addM_asc _ _ _ h) (fun y hy => by
        rw [lk_addM _ _ _ h hde, if_neg (hall y hy)]
        exact hd y (List.mem_cons_of_mem _ hy))]
      rw [lk_addM _ _ _ h hde]
      by_cases hx : x = e.f0
      · subst hx
        have hno : lastv es e.f0 = none := by
          have := lastv_isSome es e.f0
          rw [Bool.eq_false_iff.2 ha] at this
          simpa using this
        simp [hno]
      · simp [hx]
theorem lk_tidy0 (l : List S74) (x : Int) : lk (prs (tidy l)) x = nz (lastv l x) := by
  rw [tidy, lk_tidyZ l [] List.Pairwise.nil (fun y _ => rfl) x]
  cases h : lastv l x with
  | none => simp [nz, prs, lk]
  | some v => simp

theorem mem_of_lk {l : List (Int × Int)} {k v : Int} (h : lk l k = some v) : (k, v) ∈ l := by
  induction l with
  | nil => cases h
  | cons p l ih =>
    obtain ⟨a, b⟩ := p
    by_cases hk : k = a
    · simp only [lk, if_pos hk, Option.some.injEq] at h
      subst hk; subst h; exact List.mem_cons_self
    · simp only [lk, if_neg hk] at h
      exact List.mem_cons_of_mem _ (ih h)
theorem lk_of_mem {l : List (Int × Int)} (hn : (keys l).Nodup) {k v : Int} (h : (k, v) ∈ l) : lk l k = some v := by
  induction l with
  | nil => cases h
  | cons p l ih =>
    obtain ⟨a, b⟩ := p
    simp only [keys, List.map_cons, List.nodup_cons] at hn
    rcases List.mem_cons.1 h with h1 | h1
    · cases h1; simp [lk]
    · have hk : k ≠ a := fun e => hn.1 (by rw [← e]; exact List.mem_map_of_mem (f := fun q : Int × Int => q.1) h1)
      simp only [lk, if_neg hk]
      exact ih hn.2 h1
theorem lk_perm {l m : List (Int × Int)} (hp : l.Perm m) (hn : (keys m).Nodup) (x : Int) : lk l x = lk m x := by
  have hl : (keys l).Nodup := (List.Perm.nodup_iff (hp.map _)).2 hn
  cases h : lk m x with
  | none =>
    rw [lk_none] at h ⊢
    exact fun hx => h ((hp.map (fun q : Int × Int => q.1)).mem_iff.1 hx)
  | some v => exact lk_of_mem hl (hp.mem_iff.2 (mem_of_lk h))
theorem lastv_lk (l : List S74) (hn : (keys (prs l)).Nodup) (x : Int) : lastv l x = lk (prs l) x := by
  induction l with
  | nil => rfl
  | cons e es ih =>
    simp only [prs, keys, List.map_cons, List.nodup_cons] at hn
    rw [lk_prs_cons]
    simp only [lastv]
    rw [ih (by simpa [prs, keys] using hn.2)]
    by_cases hx : x = e.f0
    · subst hx
      have : lk (prs es) e.f0 = none := lk_none.2 (by simpa [prs, keys] using hn.1)
      simp [this]
    · simp [hx]
theorem lk_snoc (l : List (Int × Int)) (k v x : Int) (hk : lk l k = none) : lk (l ++ [(k, v)]) x = if x = k then some v else lk l x := by
  induction l with
  | nil => simp [lk]
  | cons p l ih =>
    obtain ⟨a, b⟩ := p
    have hka : k ≠ a := fun e => by simp [lk, e] at hk
    simp only [lk, if_neg hka] at hk
    simp only [List.cons_append, lk, ih hk]
    by_cases hx : x = a
    · subst hx; simp [fun e : x = k => hka e.symm]; exact fun e => absurd e.symm hka
    · simp [hx]
/-- Entries in order, of any set with the same masks, are the set put in order. -/
theorem tidy_of (l m : List S74) (c : List (Int × Int)) (hn : (keys c).Nodup) (hp : (prs l).Perm c) (hc : ∀ x, nz (lk c x) = lk (prs m) x) (hm : Asc m) : tidy l = m := by
  refine asc_ext _ _ (tidy_asc l) hm fun x => ?_
  have hl : (keys (prs l)).Nodup := (List.Perm.nodup_iff (hp.map _)).2 hn
  rw [lk_tidy0, lastv_lk l hl, lk_perm hp hn, hc]

/-- A set as Add leaves it. -/
def addE (m : List (Int × Int)) (k b : Int) : List (Int × Int) := if Go.bits .and .u16 ((lk m k).getD 0) b = b then m else put m k (Go.bits .or .u16 ((lk m k).getD 0) b)
def u16ok (b : Int) : Prop := 0 ≤ b ∧ b < 65536
theorem and0 (b : Int) (h : u16ok b) : Go.bits .and .u16 0 b = 0 := by
  rw [u16_and 0 b (by omega) (by omega) h.1 h.2]; simp
theorem or0 (b : Int) (h : u16ok b) : Go.bits .or .u16 0 b = b := by
  rw [u16_or 0 b (by omega) (by omega) h.1 h.2]; simp; have := h.1; omega
theorem addE_new (m : List (Int × Int)) (k b : Int) (hb : u16ok b) (hk : lk m k = none) : addE m k b = if b = 0 then m else put m k b := by
  unfold addE
  rw [hk]
  simp only [Option.getD_none, and0 b hb, or0 b hb]
  by_cases h : b = 0
  · rw [if_pos h, if_pos h.symm]
  · rw [if_neg h, if_neg (fun e => h e.symm)]
theorem lk_addE (m : List (Int × Int)) (k b : Int) (hb : u16ok b) (hk : lk m k = none) (x : Int) : lk (addE m k b) x = if x = k then nz (some b) else lk m x := by
  rw [addE_new m k b hb hk]
  by_cases h : b = 0
  · rw [if_pos h]
    by_cases hx : x = k
    · subst hx; simp [hk, nz, h]
    · simp [hx]
  · rw [if_neg h, lk_put]
    simp [nz, h]
theorem addE_length (m : List (Int × Int)) (k b : Int) : (addE m k b).length ≤ m.length + 1 := by
  unfold addE; split
  · omega
  · exact length_put _ _ _

theorem tb (b i : Nat) (hb : b < 65536) : (65535 - b).testBit i = (decide (i < 16) && !b.testBit i) := by
  have := Nat.testBit_two_pow_sub_succ (x := b) (n := 16) (by simpa using hb) i
  rw [show 2 ^ 16 - (b + 1) = 65535 - b by omega] at this
  exact this
theorem low (a i : Nat) (ha : a < 65536) (hi : a.testBit i = true) : i < 16 := by
  rcases Nat.lt_or_ge i 16 with h | h
  · exact h
  · have : a.testBit i = false := Nat.testBit_lt_two_pow (Nat.lt_of_lt_of_le ha (by have := Nat.pow_le_pow_right (n := 2) (by omega) h; simpa using this))
    rw [this] at hi; cases hi
theorem andNot_apart (a b : Int) (ha : u16ok a) (hb : u16ok b) (h : Go.bits .and .u16 a b = 0) : Go.bits .andNot .u16 a b = a := by
  rw [u16_and a b ha.1 ha.2 hb.1 hb.2] at h
  rw [u16_andNot a b ha.1 ha.2 hb.1 hb.2]
  have ha2 := ha.2
  have hb2 := hb.2
  have h0 : a.toNat &&& b.toNat = 0 := by omega
  have h1 : a.toNat &&& (65535 - b.toNat) = a.toNat := by
    refine Nat.eq_of_testBit_eq fun i => ?_
    rw [Nat.testBit_and, tb _ _ (by omega)]
    cases hi : a.toNat.testBit i with
    | false => simp
    | true =>
      have h2 : (a.toNat &&& b.toNat).testBit i = false := by rw [h0]; simp
      rw [Nat.testBit_and, hi] at h2
      simp only [Bool.true_and] at h2
      simp [h2, low _ _ (by omega : a.toNat < 65536) hi]
  rw [h1]
  exact Int.toNat_of_nonneg ha.1
theorem andNot_zero (a : Int) (ha : u16ok a) : Go.bits .andNot .u16 a 0 = a := by
  refine andNot_apart a 0 ha ⟨by omega, by omega⟩ ?_
  rw [u16_and a 0 ha.1 ha.2 (by omega) (by omega)]; simp
theorem andNot_ok (a b : Int) : u16ok (Go.bits .andNot .u16 a b) := by
  have h1 := bits_lo_u16 .andNot a b
  have h2 := bits_hi_u16 .andNot a b
  exact ⟨h1, by omega⟩

/-- What a mask becomes that has another one taken away. -/
def mns : Option Int → Option Int → Option Int
  | some c, some b => nz (some (Go.bits .andNot .u16 c b))
  | some c, none => some c
  | none, _ => none
/-- A set as Discard leaves it. -/
def disE (m : List (Int × Int)) (k b : Int) : List (Int × Int) :=
  match lk m k with
  | none => m
  | some c => if Go.bits .and .u16 c b = 0 then m else if Go.bits .andNot .u16 c b = 0 then del (put m k (Go.bits .andNot .u16 c b)) k else put m k (Go.bits .andNot .u16 c b)
theorem lk_disE (m : List (Int × Int)) (hn : (keys m).Nodup) (k b : Int) (hb : u16ok b) (hm : ∀ y v, lk m y = some v → u16ok v ∧ v ≠ 0) (x : Int) : lk (disE m k b) x = if x = k then mns (lk m k) (some b) else lk m x := by
  unfold disE
  cases hk : lk m k with
  | none =>
    by_cases hx : x = k
    · subst hx; simp [hk, mns]
    · simp [hx]
  | some c =>
    obtain ⟨hc, hc0⟩ := hm k c hk
    simp only
    by_cases ha : Go.bits .and .u16 c b = 0
    · rw [if_pos ha]
      by_cases hx : x = k
      · subst hx; simp [hk, mns, andNot_apart c b hc hb ha, nz, hc0]
      · simp [hx]
    · rw [if_neg ha]
      by_cases hz : Go.bits .andNot .u16 c b = 0
      · rw [if_pos hz, lk_del (nodup_put hn _ _), lk_put]
        by_cases hx : x = k
        · simp [hx, mns, nz, hz]
        · simp [hx]
      · rw [if_neg hz, lk_put]
        by_cases hx : x = k
        · simp [hx, mns, nz, hz]
        · simp [hx]
theorem length_put_old {m : List (Int × Int)} {k c : Int} (h : lk m k = some c) (v : Int) : (put m k v).length = m.length := by
  induction m with
  | nil => cases h
  | cons p m ih =>
    obtain ⟨a, b⟩ := p
    by_cases hk : k = a
    · simp [put, hk]
    · simp only [lk, if_neg hk] at h
      simp [put, hk, ih h]
theorem length_del (m : List (Int × Int)) (k : Int) : (del m k).length ≤ m.length := by
  induction m with
  | nil => simp [del]
  | cons p m ih =>
    obtain ⟨a, b⟩ := p
    by_cases hk : k = a
    · simp [del, hk]
    · simp only [del, if_neg hk, List.length_cons]; omega
theorem disE_length (m : List (Int × Int)) (k b : Int) : (disE m k b).length ≤ m.length := by
  unfold disE
  cases hk : lk m k with
  | none => simp
  | some c =>
    simp only
    split
    · omega
    · split
      · have h1 := length_del (put m k (Go.bits .andNot .u16 c b)) k
        rw [length_put_old hk] at h1; exact h1
      · rw [length_put_old hk]; exact Nat.le_refl _
theorem mns_nz (o : Option Int) (q : Option Int) (ho : ∀ v, o = some v → u16ok v ∧ v ≠ 0) (hq : ∀ v, q = some v → u16ok v) : mns o (nz q) = mns o q := by
  cases o with
  | none => rfl
  | some c =>
    cases q with
    | none => rfl
    | some b =>
      by_cases hb : b = 0
      · subst hb
        obtain ⟨h1, h2⟩ := ho c rfl
        simp [nz, mns, andNot_zero c h1, h2]
      · simp [nz, hb]
theorem nz_mns (o q : Option Int) (ho : nz o = o) : nz (mns o q) = mns o q := by
  cases o with
  | none => rfl
  | some c => cases q with
    | none => exact ho
    | some b => exact nz_nz (some (Go.bits .andNot .u16 c b))

/-- A list in order without parts of a number. -/
def disL (l : List S74) (a b : Int) : List S74 := (l.map fun e => if e.f0 = a then ⟨e.f0, Go.bits .andNot .u16 e.f1 b⟩ else e).filter fun e => e.f1 != 0
theorem disL_asc (l : List S74) (a b : Int) (h : Asc l) : Asc (disL l a b) := by
  unfold disL Asc
  refine List.Pairwise.filter _ ?_
  rw [List.pairwise_map]
  refine List.Pairwise.imp ?_ h
  intro x y hxy
  split <;> split <;> simpa using hxy
theorem disL_mem {l : List S74} {a b : Int} {e : S74} (he : e ∈ disL l a b) : ∃ e' ∈ l, e'.f0 = e.f0 := by
  simp only [disL, List.mem_filter, List.mem_map] at he
  obtain ⟨⟨e', h1, h2⟩, _⟩ := he
  refine ⟨e', h1, ?_⟩
  split at h2 <;> rw [← h2]
theorem lk_disL (l : List S74) (a b : Int) (h : Asc l) (x : Int) : lk (prs (disL l a b)) x = if x = a then nz ((lk (prs l) a).map fun c => Go.bits .andNot .u16 c b) else nz (lk (prs l) x) := by
  induction l with
  | nil => simp [disL, prs, lk, nz]
  | cons e es ih =>
    have h' := h
    simp only [Asc, List.pairwise_cons] at h
    have IH := ih h.2
    have hc : disL (e :: es) a b = if (if e.f0 = a then Go.bits .andNot .u16 e.f1 b else e.f1) ≠ 0 then (if e.f0 = a then ⟨e.f0, Go.bits .andNot .u16 e.f1 b⟩ else e) :: disL es a b else disL es a b := by
      simp only [disL, List.map_cons, List.filter_cons]
      by_cases h1 : e.f0 = a <;> simp [h1]
    have hlow : lk (prs (disL es a b)) e.f0 = none := lk_low _ _ fun y hy => by
      obtain ⟨e', h1, h2⟩ := disL_mem hy
      have := h.1 e' h1; omega
    rw [hc]
    by_cases h1 : e.f0 = a
    · rw [if_pos h1, if_pos h1]
      have hlo : lk (prs es) a = none := lk_low _ _ fun y hy => by have := h.1 y hy; omega
      by_cases h2 : Go.bits .andNot .u16 e.f1 b = 0
      · rw [if_neg (by simpa using h2), IH, lk_prs_cons, lk_prs_cons]
        by_cases hx : x = a
        · simp [hx, h1, hlo, nz, h2]
        · simp [hx, h1]
      · rw [if_pos h2, lk_prs_cons, lk_prs_cons, lk_prs_cons, IH]
        by_cases hx : x = a
        · simp [hx, h1, nz, h2]
        · simp [hx, h1]
    · rw [if_neg h1, if_neg h1]
      have hae : a ≠ e.f0 := fun q => h1 q.symm
      by_cases h2 : e.f1 = 0
      · rw [if_neg (by simpa using h2), IH, lk_prs_cons, lk_prs_cons]
        by_cases hx : x = a
        · simp [hx, hae]
        · by_cases hxe : x = e.f0
          · subst hxe
            have hlo : lk (prs es) e.f0 = none := lk_low _ _ h.1
            simp [hx, h2, nz, hlo]
          · simp [hx, hxe]
      · rw [if_pos h2, lk_prs_cons, lk_prs_cons, lk_prs_cons, IH]
        by_cases hx : x = a
        · simp [hx, hae]
        · by_cases hxe : x = e.f0
          · subst hxe; simp [hx, h2, nz]
          · simp [hx, hxe]
/-- Taken away one behind the other. -/
def minL (s t : List S74) : List S74 := t.foldl (fun s e => disL s e.f0 e.f1) s
theorem disL_length (l : List S74) (a b : Int) : (disL l a b).length ≤ l.length := by
  unfold disL
  refine Nat.le_trans (List.length_filter_le _ _) ?_
  simp
theorem minL_asc (s t : List S74) (h : Asc s) : Asc (minL s t) := by
  unfold minL
  induction t generalizing s with
  | nil => exact h
  | cons e es ih => exact ih _ (disL_asc _ _ _ h)
theorem lk_minL (s t : List S74) (h : Asc s) (hs : ∀ x, nz (lk (prs s) x) = lk (prs s) x) (ht : (keys (prs t)).Nodup) (x : Int) :
    lk (prs (minL s t)) x = mns (lk (prs s) x) (lk (prs t) x) := by
  unfold minL
  induction t generalizing s with
  | nil =>
    simp only [List.foldl_nil]
    cases hk : lk (prs s) x with
    | none => rfl
    | some c => simp [mns, prs, lk]
  | cons e es ih =>
    simp only [prs, keys, List.map_cons, List.nodup_cons] at ht
    simp only [List.foldl_cons]
    have hd : ∀ x, lk (prs (disL s e.f0 e.f1)) x = if x = e.f0 then nz ((lk (prs s) e.f0).map fun c => Go.bits .andNot .u16 c e.f1) else lk (prs s) x := fun x => by rw [lk_disL s _ _ h]; simp only [hs]
    rw [ih _ (disL_asc _ _ _ h) (fun y => by
      rw [hd]
      split
      · exact nz_nz _
      · exact hs y) (by simpa [prs, keys] using ht.2), hd, lk_prs_cons]
    by_cases hx : x = e.f0
    · subst hx
      have hno : lk (prs es) e.f0 = none := lk_none.2 (by simpa [prs, keys] using ht.1)
      rw [hno]
      simp only [if_true]
      cases hk : lk (prs s) e.f0 with
      | none => rfl
      | some c =>
        simp only [Option.map_some, mns]
        cases hz : nz (some (Go.bits .andNot .u16 c e.f1)) with
        | none => rfl
        | some v => rfl
    · simp [hx]
theorem asc_nodup (l : List S74) (h : Asc l) : (keys (prs l)).Nodup := by
  unfold prs keys
  rw [List.map_map]
  unfold List.Nodup
  rw [List.pairwise_map]
  exact List.Pairwise.imp (fun {a b} hab => by simp; omega) h
end Go.Proofs.Ytknldfighehplaa.HSet
