/- The walk of FnParseOption: it returns true for every text; conditions: the first cells of the table of properties. -/
import Derived.Test.YtknldfighehplaaDoorHFnParseOptionRead
import Derived.Test.YtknldfighehplaaDoorPFnParseOptionx3
namespace Go.Proofs.YtknldfighehplaaDoor.HFnParseOption
set_option linter.unusedSimpArgs false
set_option linter.unusedVariables false
open Go.RowKit Go.Proofs.YtknldfighehplaaDoor.HTabP Go.Proofs.YtknldfighehplaaDoor.HSplit Go.Proofs.YtknldfighehplaaDoor.HFnParseOptionPlain Go.Proofs.YtknldfighehplaaDoor.HFnParseOptionCut Go.Proofs.YtknldfighehplaaDoor.HFnParseOptionRead Go.Proofs.YtknldfighehplaaDoor.PFnParseOption Go.Proofs.YtknldfighehplaaDoorW.PrintWords Go.Proofs.YtknldfighehplaaDoorW.PrintLast Go.Proofs.YtknldfighehplaaDoorW.PrintMore

theorem texts_l (l : List ByteArray) (hl : l.length ≤ 2147483647) : ∀ (m n k : Nat), m + n = l.length → m < k → laws_texts.l0 k l l l.length n = some true := by
  intro m
  induction m with
  | zero =>
    intro n k hn hk
    obtain ⟨k, rfl⟩ : ∃ j, k = j + 1 := ⟨k - 1, by omega⟩
    simp only [laws_texts.l0]
    rw [if_neg (by omega)]
  | succ m ih =>
    intro n k hn hk
    obtain ⟨k, rfl⟩ : ∃ j, k = j + 1 := ⟨k - 1, by omega⟩
    have hw : wrap64 ((n : Int) + 1) = ((n + 1 : Nat) : Int) := by unfold wrap64; omega
    simp only [laws_texts.l0]
    rw [if_pos (by omega), if_pos (by omega), if_pos (by omega), if_pos (by omega), if_pos trivial, hw, ih (n + 1) k (by omega) (by omega)]
theorem texts_is (l : List ByteArray) (hl : l.length ≤ 2147483647) : laws_texts.f (l.length + 1) l l = some true := by
  unfold laws_texts.f
  rw [if_pos rfl]
  exact texts_l l hl l.length 0 (l.length + 1) (by omega) (by omega)

set_option maxHeartbeats 400000 in
theorem law_big (s : ByteArray) (w : World) (h : 2147483647 < s.size) (hs : s.size ≤ 9223372036854775807) :
    Calls Tryd.prog 4 #[.string s] w fun e w' => e = .returned (.bool true) ∧ Below w.heap.size w w' := by
  go_enter Tryd.func4, Tryd.ntmps4
  go_wp2
  go_ret
  exact ⟨rfl, Below.refl _ _⟩
set_option maxHeartbeats 400000 in
theorem law_ascii (s : ByteArray) (w : World) (h : ¬ 2147483647 < s.size) (ha : ascii s = false) :
    Calls Tryd.prog 4 #[.string s] w fun e w' => e = .returned (.bool true) ∧ Below w.heap.size w w' := by
  have H1 := Lib.hid (fun (W : World) => spec_Ascii.calls (s.size + 1) s false W (by rw [ascii_is s (by omega) _ (by omega), ha]))
  clear ha
  go_enter Tryd.func4, Tryd.ntmps4
  go_wp2_with (go_at_call 9; refine (H1.out _).mono ?_; rintro e w2 ⟨rfl, hd2⟩)
  go_ret
  exact ⟨rfl, hd2.below⟩
set_option maxHeartbeats 400000 in
theorem law_many (s : ByteArray) (w : World) (h : ¬ 2147483647 < s.size) (ha : ascii s = true) (hm : 2000 < s.size) :
    Calls Tryd.prog 4 #[.string s] w fun e w' => e = .returned (.bool true) ∧ Below w.heap.size w w' := by
  have H1 := Lib.hid (fun (W : World) => spec_Ascii.calls (s.size + 1) s true W (by rw [ascii_is s (by omega) _ (by omega), ha]))
  clear ha
  go_enter Tryd.func4, Tryd.ntmps4
  go_wp2_with (go_at_call 9; refine (H1.out _).mono ?_; rintro e w2 ⟨rfl, hd2⟩)
  go_ret
  exact ⟨rfl, hd2.below⟩
set_option maxHeartbeats 800000 in
theorem hard (s : ByteArray) (w : World) (h : ¬ 2147483647 < s.size) (ha : ascii s = true) (hm : ¬ 2000 < s.size) (hT : TabP w) :
    Calls Tryd.prog 4 #[.string s] w fun e w' => e = .returned (.bool true) ∧ Below w.heap.size w w' := by
  have H1 := Lib.hid (fun (W : World) => spec_Ascii.calls (s.size + 1) s true W (by rw [ascii_is s (by omega) _ (by omega), ha]))
  have H2 := Lib.hid (fun (W : World) (hb : Below w.heap.size w W) => implParse s W (by omega) ha (hT.below hb))
  have H3 := Lib.hid (fun (W : World) => spec_ParseOption.calls (2 * s.size + 2) s (pieces s) ((pieces s).all valid) W (parseOption_is s (by omega) _ (by omega)))
  have hpl := pieces_length s
  have H4 := Lib.hid (fun (W : World) (A : Option Addr) (c : Nat) (A1 : Option Addr) (c1 : Nat) (hr : Kd.C Kd.string W A (pieces s).length (pieces s)) (hc : (pieces s).length ≤ c) (hr1 : Kd.C Kd.string W A1 (pieces s).length (pieces s)) (hc1 : (pieces s).length ≤ c1) =>
    laws_texts.calls ((pieces s).length + 1) A c (pieces s) A1 c1 (pieces s) true W hr hc hr1 hc1 (texts_is _ (by omega)))
  clear ha hT hpl
  generalize (pieces s).all valid = b at *
  generalize pieces s = l at *
  have e0 : (b == b) = true := by cases b <;> rfl
  cases b with
  | true =>
    go_enter Tryd.func4, Tryd.ntmps4
    go_wp2_with (first
      | (go_at_call 9; refine (H1.out _).mono ?_; rintro e w2 ⟨rfl, hd2⟩; have hb2 := hd2.below)
      | (go_at_call 16; refine (H2.out _ hb2).mono ?_; rintro e w3 ⟨A, c, rfl, hc, hC, hb⟩; have hb3 := below_step hb2 hb; have HC := Aside0.mk hC; clear hC)
      | (go_at_call 17; refine (H3.out _).mono ?_; rintro e w4 ⟨v4, rfl, hR4, hbb⟩; have hb4 := below_step hb3 hbb; obtain ⟨A4, c4, rfl, hc4, hC4⟩ := Kd.R_reads hR4; have HC4 := Aside0.mk hC4; have HCC := Aside0.mk (Kd.C_below HC.out hbb); clear hC4 hR4)
      | (go_at_call 18; refine (H4.out _ A c A4 c4 HCC.out hc HC4.out hc4).mono ?_; rintro e w5 ⟨rfl, hd5⟩; have hb5 := below_step hb4 hd5.below))
    go_ret
    exact ⟨rfl, hb5⟩
  | false =>
    go_enter Tryd.func4, Tryd.ntmps4
    go_wp2_with (first
      | (go_at_call 9; refine (H1.out _).mono ?_; rintro e w2 ⟨rfl, hd2⟩; have hb2 := hd2.below)
      | (go_at_call 16; refine (H2.out _ hb2).mono ?_; rintro e w3 ⟨A, c, rfl, hc, hC, hb⟩; have hb3 := below_step hb2 hb; have HC := Aside0.mk hC; clear hC)
      | (go_at_call 17; refine (H3.out _).mono ?_; rintro e w4 ⟨v4, rfl, hR4, hbb⟩; have hb4 := below_step hb3 hbb; obtain ⟨A4, c4, rfl, hc4, hC4⟩ := Kd.R_reads hR4; have HC4 := Aside0.mk hC4; have HCC := Aside0.mk (Kd.C_below HC.out hbb); clear hC4 hR4))
    go_ret
    exact ⟨rfl, hb4⟩
/-- THE WALK: whatever the text, FnParseOption returns true and what was there stands. -/
theorem walk (s : ByteArray) (w : World) (hs : s.size ≤ 9223372036854775807) (hT : TabP w) :
    Calls Tryd.prog 4 #[.string s] w fun e w' => e = .returned (.bool true) ∧ Below w.heap.size w w' := by
  by_cases h : 2147483647 < s.size
  · exact law_big s w h hs
  · cases ha : ascii s with
    | false => exact law_ascii s w h ha
    | true =>
      by_cases hm : 2000 < s.size
      · exact law_many s w h ha hm
      · exact hard s w h ha hm hT
end Go.Proofs.YtknldfighehplaaDoor.HFnParseOption
