/- The walk of FnTerm: it returns true for every term and every list of tags; conditions: the slice's cells as they were read, the first cells of the table of properties. -/
import Derived.Test.YtknldfighehplaaDoorHFnTermEval
namespace Go.Proofs.YtknldfighehplaaDoor.HFnTerm
set_option linter.unusedSimpArgs false
set_option linter.unusedVariables false
open Go.RowKit Go.Proofs.YtknldfighehplaaDoor.HTabP Go.Proofs.YtknldfighehplaaDoor.HFnTermPlain Go.Proofs.YtknldfighehplaaDoor.HFnTermValid Go.Proofs.YtknldfighehplaaDoor.HFnTermEval Go.Proofs.YtknldfighehplaaDoor.PFnTerm Go.Proofs.YtknldfighehplaaDoorW.PrintWords Go.Proofs.YtknldfighehplaaDoorW.PrintLast Go.Proofs.YtknldfighehplaaDoorW.PrintMore

theorem implValid (s : ByteArray) (w : World) (ha : ascii s = true) (hs : s.size ≤ 2147483647) (hT : TabP w) :
    Calls Tryd.prog 12 #[.string s] w fun e w' => e = .returned (.bool (valid s)) ∧ Below w.heap.size w w' := by
  have H := Lib.hid (validate s w ha hs hT)
  clear ha hs hT
  cases hv : valid s with
  | true =>
    rw [hv] at H
    simp only [ErrIs] at H
    clear hv
    go_enter Tryd.func12, Tryd.ntmps12
    go_wp2_with (go_at_call 36; refine H.out.mono ?_; rintro e w1 ⟨rfl, hb⟩)
    go_ret
    exact ⟨rfl, hb⟩
  | false =>
    rw [hv] at H
    simp only [ErrIs] at H
    clear hv
    go_enter Tryd.func12, Tryd.ntmps12
    go_wp2_with (go_at_call 36; refine H.out.mono ?_; rintro e w1 ⟨⟨T, v, rfl⟩, hb⟩)
    go_ret
    exact ⟨rfl, hb⟩

theorem eval_eq (s : ByteArray) (l : List ByteArray) : (valid s && ((HMap.lk (mapT l) (nameOf s)).getD false == !negOf s)) = evalT s l := by
  unfold evalT
  rw [lk_mapT]
  generalize (l.any fun y => decide (y = nameOf s)) = b
  generalize negOf s = g
  cases valid s <;> cases b <;> cases g <;> rfl
theorem implEvaluate (s : ByteArray) (A : Option Addr) (c : Nat) (l : List ByteArray) (w : World) (ha : ascii s = true) (hs : s.size ≤ 2147483647) (hT : TabP w) (hr : Kd.C Kd.string w A l.length l) (hc : l.length ≤ c) (hl : l.length ≤ 9223372036854775807) :
    Calls Tryd.prog 14 #[.string s, .slice A l.length c] w fun e w' => e = .returned (.bool (evalT s l)) ∧ Below w.heap.size w w' := by
  have H1 := Lib.hid (setTags A c l w hr hc hl)
  have H2 := Lib.hid (fun (W : World) (r : Nat) (hb : Below w.heap.size w W) (hm : HMap.MapIs ks vb W r (mapT l)) => evaluate s r (mapT l) W ha hs (hT.below hb) hm)
  rw [eval_eq] at H2
  clear ha hs hT hr
  go_enter Tryd.func14, Tryd.ntmps14
  go_wp2_with (first
    | (go_at_call 38; refine H1.out.mono ?_; rintro e w1 ⟨r, rfl, hr, hm, hb⟩; have HM := Aside0.mk hm; clear hm)
    | (go_at_call 37; refine (H2.out _ r hb HM.out).mono ?_; rintro e w2 ⟨rfl, hb2⟩))
  go_ret
  exact ⟨rfl, below_step hb hb2⟩

theorem fits_l (l : List ByteArray) (hl : l.length ≤ 2147483647) : ∀ (m n k : Nat), m + n = l.length → m < k →
    laws_zzFits7.l0 k l l.length n = some ((l.drop n).all fun y => decide (y.size ≤ 2147483647)) := by
  intro m
  induction m with
  | zero =>
    intro n k hn hk
    obtain ⟨k, rfl⟩ : ∃ j, k = j + 1 := ⟨k - 1, by omega⟩
    have : n = l.length := by omega
    subst this
    simp only [laws_zzFits7.l0]
    rw [if_neg (by omega), List.drop_length]
    rfl
  | succ m ih =>
    intro n k hn hk
    obtain ⟨k, rfl⟩ : ∃ j, k = j + 1 := ⟨k - 1, by omega⟩
    have hw : wrap64 ((n : Int) + 1) = ((n + 1 : Nat) : Int) := by unfold wrap64; omega
    have hlt : n < l.length := by omega
    have hd : l.drop n = rdOf ByteArray.empty l n :: l.drop (n + 1) := by
      rw [List.drop_eq_getElem_cons hlt]
      simp [rdOf, List.getD, hlt]
    simp only [laws_zzFits7.l0]
    rw [if_pos (by omega), if_pos (by omega), if_pos (by omega), hw, ih (n + 1) k (by omega) (by omega), hd, List.all_cons]
    generalize rdOf ByteArray.empty l n = y
    by_cases h : y.size ≤ 2147483647
    · rw [if_neg (by omega)]; simp [h]
    · rw [if_pos (by omega)]; simp [h]
def fits7 (l : List ByteArray) : Bool := decide (l.length ≤ 2147483647) && l.all fun y => decide (y.size ≤ 2147483647)
theorem fits_is (l : List ByteArray) : laws_zzFits7.f (l.length + 1) l = some (fits7 l) := by
  unfold laws_zzFits7.f fits7
  by_cases h : l.length ≤ 2147483647
  · rw [if_neg (by omega)]
    have h1 : laws_zzFits7.l0 (l.length + 1) l (l.length : Int) 0 = _ := fits_l l h l.length 0 (l.length + 1) (by omega) (by omega)
    rw [h1]; simp [h]
  · rw [if_pos (by omega)]; simp [h]
theorem implParts_is (s : ByteArray) : impl_TermParts.f s = some (negOf s, nameOf s) := by
  unfold impl_TermParts.f
  rw [isNegated_is, name_is]
  rfl

set_option maxHeartbeats 400000 in
theorem law_big (s : ByteArray) (A : Option Addr) (c : Nat) (l : List ByteArray) (w : World) (h : 2147483647 < s.size) (hs : s.size ≤ 9223372036854775807) :
    Calls Tryd.prog 3 #[.string s, .slice A l.length c] w fun e w' => e = .returned (.bool true) ∧ Below w.heap.size w w' := by
  go_enter Tryd.func3, Tryd.ntmps3
  go_wp2
  go_ret
  exact ⟨rfl, Below.refl _ _⟩
set_option maxHeartbeats 400000 in
theorem law_fits (s : ByteArray) (A : Option Addr) (c : Nat) (l : List ByteArray) (w : World) (hr : Kd.C Kd.string w A l.length l) (hc : l.length ≤ c) (h : ¬ 2147483647 < s.size) (hf : fits7 l = false) :
    Calls Tryd.prog 3 #[.string s, .slice A l.length c] w fun e w' => e = .returned (.bool true) ∧ Below w.heap.size w w' := by
  have H := Lib.hid (fun (W : World) (hb : Below w.heap.size w W) => laws_zzFits7.calls (l.length + 1) A c l false W (Kd.C_below hr hb) hc (by rw [fits_is, hf]))
  clear hr hf
  go_enter Tryd.func3, Tryd.ntmps3
  go_wp2_with (go_at_call 8; refine (H.out _ (Below.refl _ _)).mono ?_; rintro e w1 ⟨rfl, hd⟩)
  go_ret
  exact ⟨rfl, hd.below⟩
set_option maxHeartbeats 400000 in
theorem law_ascii (s : ByteArray) (A : Option Addr) (c : Nat) (l : List ByteArray) (w : World) (hr : Kd.C Kd.string w A l.length l) (hc : l.length ≤ c) (h : ¬ 2147483647 < s.size) (hf : fits7 l = true) (ha : ascii s = false) :
    Calls Tryd.prog 3 #[.string s, .slice A l.length c] w fun e w' => e = .returned (.bool true) ∧ Below w.heap.size w w' := by
  have H := Lib.hid (fun (W : World) (hb : Below w.heap.size w W) => laws_zzFits7.calls (l.length + 1) A c l true W (Kd.C_below hr hb) hc (by rw [fits_is, hf]))
  have H1 := Lib.hid (fun (W : World) => spec_Ascii.calls (s.size + 1) s false W (by rw [ascii_is s (by omega) _ (by omega), ha]))
  clear hr hf ha
  go_enter Tryd.func3, Tryd.ntmps3
  go_wp2_with (first
    | (go_at_call 8; refine (H.out _ (Below.refl _ _)).mono ?_; rintro e w1 ⟨rfl, hd⟩)
    | (go_at_call 9; refine (H1.out _).mono ?_; rintro e w2 ⟨rfl, hd2⟩))
  go_ret
  exact ⟨rfl, below_step hd.below hd2.below⟩
set_option maxHeartbeats 400000 in
theorem law_many (s : ByteArray) (A : Option Addr) (c : Nat) (l : List ByteArray) (w : World) (hr : Kd.C Kd.string w A l.length l) (hc : l.length ≤ c) (h : ¬ 2147483647 < s.size) (hf : fits7 l = true) (ha : ascii s = true) (hm : 2000 < l.length) (hm2 : l.length ≤ 9223372036854775807) :
    Calls Tryd.prog 3 #[.string s, .slice A l.length c] w fun e w' => e = .returned (.bool true) ∧ Below w.heap.size w w' := by
  have H := Lib.hid (fun (W : World) (hb : Below w.heap.size w W) => laws_zzFits7.calls (l.length + 1) A c l true W (Kd.C_below hr hb) hc (by rw [fits_is, hf]))
  have H1 := Lib.hid (fun (W : World) => spec_Ascii.calls (s.size + 1) s true W (by rw [ascii_is s (by omega) _ (by omega), ha]))
  clear hr hf ha
  go_enter Tryd.func3, Tryd.ntmps3
  go_wp2_with (first
    | (go_at_call 8; refine (H.out _ (Below.refl _ _)).mono ?_; rintro e w1 ⟨rfl, hd⟩)
    | (go_at_call 9; refine (H1.out _).mono ?_; rintro e w2 ⟨rfl, hd2⟩))
  go_ret
  exact ⟨rfl, below_step hd.below hd2.below⟩
set_option maxHeartbeats 1600000 in
theorem hard (s : ByteArray) (A : Option Addr) (c : Nat) (l : List ByteArray) (w : World) (hr : Kd.C Kd.string w A l.length l) (hc : l.length ≤ c) (h : ¬ 2147483647 < s.size) (hf : fits7 l = true) (ha : ascii s = true) (hm : ¬ 2000 < l.length) (hT : TabP w) :
    Calls Tryd.prog 3 #[.string s, .slice A l.length c] w fun e w' => e = .returned (.bool true) ∧ Below w.heap.size w w' := by
  have H := Lib.hid (fun (W : World) (hb : Below w.heap.size w W) => laws_zzFits7.calls (l.length + 1) A c l true W (Kd.C_below hr hb) hc (by rw [fits_is, hf]))
  have H1 := Lib.hid (fun (W : World) => spec_Ascii.calls (s.size + 1) s true W (by rw [ascii_is s (by omega) _ (by omega), ha]))
  have H2 := Lib.hid (fun (W : World) => impl_TermParts.calls s (negOf s) (nameOf s) W (implParts_is s))
  have H3 := Lib.hid (fun (W : World) => spec_TermParts.calls s (negOf s) (nameOf s) W (termParts_is s))
  have H4 := Lib.hid (fun (W : World) (hb : Below w.heap.size w W) => implValid s W ha (by omega) (hT.below hb))
  have H5 := Lib.hid (fun (W : World) => spec_TermValid.calls (s.size + 1) s (valid s) W (termValid_is s (by omega) _ (by omega)))
  have H6 := Lib.hid (fun (W : World) (hb : Below w.heap.size w W) => implEvaluate s A c l W ha (by omega) (hT.below hb) (Kd.C_below hr hb) hc (by omega))
  have H7 := Lib.hid (fun (W : World) (hb : Below w.heap.size w W) => spec_TermEvaluate.calls (s.size + l.length + 1) s A c l (evalT s l) W (Kd.C_below hr hb) hc (termEvaluate_is s (by omega) l (by omega) _ (by omega) (by omega)))
  clear hr hf ha hT
  generalize valid s = b1 at *
  generalize evalT s l = b2 at *
  generalize negOf s = g at *
  generalize nameOf s = n at *
  have e1 : (b1 == b1) = true := by cases b1 <;> rfl
  have e2 : (b2 == b2) = true := by cases b2 <;> rfl
  have e3 : (g == g) = true := by cases g <;> rfl
  go_enter Tryd.func3, Tryd.ntmps3
  go_wp2_with (first
    | (go_at_call 8; refine (H.out _ (Below.refl _ _)).mono ?_; rintro e w1 ⟨rfl, hd⟩)
    | (go_at_call 9; refine (H1.out _).mono ?_; rintro e w2 ⟨rfl, hd2⟩; have hb2 := below_step hd.below hd2.below)
    | (go_at_call 10; refine (H2.out _).mono ?_; rintro e w3 ⟨rfl, hd3⟩; have hb3 := below_step hb2 hd3.below)
    | (go_at_call 11; refine (H3.out _).mono ?_; rintro e w4 ⟨rfl, hd4⟩; have hb4 := below_step hb3 hd4.below)
    | (go_at_call 12; refine (H4.out _ hb4).mono ?_; rintro e w5 ⟨rfl, hd5⟩; have hb5 := below_step hb4 hd5)
    | (go_at_call 13; refine (H5.out _).mono ?_; rintro e w6 ⟨rfl, hd6⟩; have hb6 := below_step hb5 hd6.below)
    | (go_at_call 14; refine (H6.out _ hb6).mono ?_; rintro e w7 ⟨rfl, hd7⟩; have hb7 := below_step hb6 hd7)
    | (go_at_call 15; refine (H7.out _ hb7).mono ?_; rintro e w8 ⟨rfl, hd8⟩; have hb8 := below_step hb7 hd8.below))
  go_ret
  exact ⟨rfl, hb8⟩
/-- THE WALK: whatever the term and the tags, FnTerm returns true and what was there stands. -/
theorem walk (s : ByteArray) (A : Option Addr) (c : Nat) (l : List ByteArray) (w : World) (hr : Kd.C Kd.string w A l.length l) (hc : l.length ≤ c) (hs : s.size ≤ 9223372036854775807) (hl : l.length ≤ 9223372036854775807) (hT : TabP w) :
    Calls Tryd.prog 3 #[.string s, .slice A l.length c] w fun e w' => e = .returned (.bool true) ∧ Below w.heap.size w w' := by
  by_cases h : 2147483647 < s.size
  · exact law_big s A c l w h hs
  · cases hf : fits7 l with
    | false => exact law_fits s A c l w hr hc h hf
    | true =>
      cases ha : ascii s with
      | false => exact law_ascii s A c l w hr hc h hf ha
      | true =>
        by_cases hm : 2000 < l.length
        · exact law_many s A c l w hr hc h hf ha hm hl
        · exact hard s A c l w hr hc h hf ha hm hT
end Go.Proofs.YtknldfighehplaaDoor.HFnTerm
