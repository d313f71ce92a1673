/- The walk of FnSameMasks: it returns true for every two lists of entries; conditions: the slices' cells as they were read. -/
import Derived.Test.YtknldfighehplaaHTidy
namespace Go.Proofs.Ytknldfighehplaa.HFnSameMasks
set_option linter.unusedSimpArgs false
set_option linter.unusedVariables false
open Go.RowKit Go.Proofs.Ytknldfighehplaa.HMap Go.Proofs.Ytknldfighehplaa.HMasks Go.Proofs.Ytknldfighehplaa.HTidy Go.Proofs.Ytknldfighehplaa.PFnSameMasks Go.Proofs.YtknldfighehplaaW.PrintWords Go.Proofs.YtknldfighehplaaW.PrintLast Go.Proofs.YtknldfighehplaaW.PrintMore

theorem law_long (A : Option Addr) (c : Nat) (s : List S74) (A1 : Option Addr) (c1 : Nat) (t : List S74) (w : World) (h : 2147483647 < s.length ∨ 2147483647 < t.length) (hs : s.length ≤ 9223372036854775807) (ht : t.length ≤ 9223372036854775807) :
    Calls Try.prog 6 #[.slice A s.length c, .slice A1 t.length c1] w fun e w' => e = .returned (.bool true) ∧ Below w.heap.size w w' := by
  by_cases h1 : 2147483647 < s.length
  · go_enter Try.func6, Try.ntmps6
    go_wp2
    go_ret
    exact ⟨rfl, Below.refl _ _⟩
  · have h2 : 2147483647 < t.length := by omega
    clear h
    go_enter Try.func6, Try.ntmps6
    go_wp2
    go_ret
    exact ⟨rfl, Below.refl _ _⟩

theorem soft1 (A : Option Addr) (c : Nat) (s : List S74) (A1 : Option Addr) (c1 : Nat) (t : List S74) (w : World) (hr : Kd.C k74 w A s.length s) (hc : s.length ≤ c) (hs : s.length ≤ 2147483647) (ht : t.length ≤ 2147483647) (h : solid s = false) :
    Calls Try.prog 6 #[.slice A s.length c, .slice A1 t.length c1] w fun e w' => e = .returned (.bool true) ∧ Below w.heap.size w w' := by
  have H1 := Lib.hid (fun (w1 : World) (hb : Below w.heap.size w w1) => laws_solid.calls (s.length + 1) A c s false w1 (Kd.C_below hr hb) hc (by rw [solid_is s hs, h]))
  clear hr h
  go_enter Try.func6, Try.ntmps6
  go_wp2_with (go_at_call 19; refine (H1.out _ (Below.refl _ _)).mono ?_; rintro e w1 ⟨rfl, hb1⟩)
  go_ret
  exact ⟨rfl, hb1⟩

theorem soft2 (A : Option Addr) (c : Nat) (s : List S74) (A1 : Option Addr) (c1 : Nat) (t : List S74) (w : World) (hr : Kd.C k74 w A s.length s) (hc : s.length ≤ c) (hr1 : Kd.C k74 w A1 t.length t) (hc1 : t.length ≤ c1) (hs : s.length ≤ 2147483647) (ht : t.length ≤ 2147483647) (h : solid s = true) (h1 : solid t = false) :
    Calls Try.prog 6 #[.slice A s.length c, .slice A1 t.length c1] w fun e w' => e = .returned (.bool true) ∧ Below w.heap.size w w' := by
  have H1 := Lib.hid (laws_solid.calls (s.length + 1) A c s true w hr hc (by rw [solid_is s hs, h]))
  have H2 := Lib.hid (fun (w1 : World) (hb : Below w.heap.size w w1) => laws_solid.calls (t.length + 1) A1 c1 t false w1 (Kd.C_below hr1 hb) hc1 (by rw [solid_is t ht, h1]))
  clear hr hr1 h h1
  go_enter Try.func6, Try.ntmps6
  go_wp2_with (first
    | (go_at_call_of 19 (Value.slice A s.length c); refine H1.out.mono ?_; rintro e w1 ⟨rfl, hb1⟩)
    | (go_at_call 19; refine (H2.out _ hb1).mono ?_; rintro e w2 ⟨rfl, hb2⟩))
  go_ret
  exact ⟨rfl, below_step hb1 hb2⟩

set_option maxHeartbeats 400000 in
theorem hard (A : Option Addr) (c : Nat) (s : List S74) (A1 : Option Addr) (c1 : Nat) (t : List S74) (w : World) (hr : Kd.C k74 w A s.length s) (hc : s.length ≤ c) (hr1 : Kd.C k74 w A1 t.length t) (hc1 : t.length ≤ c1) (hs : s.length ≤ 2147483647) (ht : t.length ≤ 2147483647) (h : solid s = true) (h1 : solid t = true) :
    Calls Try.prog 6 #[.slice A s.length c, .slice A1 t.length c1] w fun e w' => e = .returned (.bool true) ∧ Below w.heap.size w w' := by
  have hlaw : sameMaps (mapOf s) (mapOf t) = decide (prs (tidy s) = prs (tidy t)) := by
    simp only [solid, Bool.and_eq_true, List.all_eq_true, bne_iff_ne, ne_eq] at h h1
    exact law s t h.1 h1.1
  have H1 := Lib.hid (laws_solid.calls (s.length + 1) A c s true w hr hc (by rw [solid_is s hs, h]))
  have H2 := Lib.hid (fun (w1 : World) (hb : Below w.heap.size w w1) => laws_solid.calls (t.length + 1) A1 c1 t true w1 (Kd.C_below hr1 hb) hc1 (by rw [solid_is t ht, h1]))
  have H3 := Lib.hid (fun (w1 : World) (hb : Below w.heap.size w w1) => implSameMasks A c s A1 c1 t w1 (Kd.C_below hr hb) hc (by omega) (Kd.C_below hr1 hb) hc1 (by omega))
  have H4 := Lib.hid (fun (w1 : World) (hb : Below w.heap.size w w1) => spec_Tidy.calls (tidyK s.length) A c s (tidy s) w1 (Kd.C_below hr hb) hc (tidy_is s hs))
  have H5 := Lib.hid (fun (w1 : World) (hb : Below w.heap.size w w1) => spec_Tidy.calls (tidyK t.length) A1 c1 t (tidy t) w1 (Kd.C_below hr1 hb) hc1 (tidy_is t ht))
  have H6 := Lib.hid (fun (w1 : World) (B : Option Addr) (d : Nat) (B1 : Option Addr) (d1 : Nat) (hb : Kd.C k74 w1 B (tidy s).length (tidy s)) (hd : (tidy s).length ≤ d) (hb1 : Kd.C k74 w1 B1 (tidy t).length (tidy t)) (hd1 : (tidy t).length ≤ d1) =>
    spec_SameLive.calls ((tidy s).length + 1) B d (tidy s) B1 d1 (tidy t) _ w1 hb hd hb1 hd1 (same_is (tidy s) (tidy t) (Nat.le_trans (tidy_length s) hs)))
  rw [hlaw] at H3
  clear hlaw hr hr1 h h1
  generalize decide (prs (tidy s) = prs (tidy t)) = b at H3 H6
  generalize tidy s = s' at H4 H6
  generalize tidy t = t' at H5 H6
  go_enter Try.func6, Try.ntmps6
  go_wp2_with (first
    | (go_at_call_of 19 (Value.slice A s.length c); refine H1.out.mono ?_; rintro e w1 ⟨rfl, hb1⟩)
    | (go_at_call 19; refine (H2.out _ hb1).mono ?_; rintro e w2 ⟨rfl, hb2⟩; have hb2' := below_step hb1 hb2)
    | (go_at_call 20; refine (H3.out _ hb2').mono ?_; rintro e w3 ⟨rfl, hb3⟩; have hb3' := below_step hb2' hb3)
    | (go_at_call_of 22 (Value.slice A s.length c); refine (H4.out _ hb3').mono ?_; rintro e w4 ⟨v4, rfl, hR4, hb4⟩; have hb4' := below_step hb3' hb4; obtain ⟨B4, d4, rfl, hd4, hC4⟩ := Kd.R_reads hR4; clear hR4)
    | (go_at_call 22; refine (H5.out _ hb4').mono ?_; rintro e w5 ⟨v5, rfl, hR5, hb5⟩; have hb5' := below_step hb4' hb5; obtain ⟨B5, d5, rfl, hd5, hC5⟩ := Kd.R_reads hR5; clear hR5)
    | (go_at_call 21; refine (H6.out _ B4 d4 B5 d5 (Kd.C_below hC4 hb5) hd4 hC5 hd5).mono ?_; rintro e w6 ⟨rfl, hd6⟩; have hb6' := below_step hb5' hd6.below))
  go_ret
  refine ⟨?_, hb6'⟩
  cases b <;> rfl

/-- THE WALK: whatever the two lists of entries, FnSameMasks returns true and what was there stands. -/
theorem walk (A : Option Addr) (c : Nat) (s : List S74) (A1 : Option Addr) (c1 : Nat) (t : List S74) (w : World) (hr : Kd.C k74 w A s.length s) (hc : s.length ≤ c) (hr1 : Kd.C k74 w A1 t.length t) (hc1 : t.length ≤ c1) (hs : s.length ≤ 9223372036854775807) (ht : t.length ≤ 9223372036854775807) :
    Calls Try.prog 6 #[.slice A s.length c, .slice A1 t.length c1] w fun e w' => e = .returned (.bool true) ∧ Below w.heap.size w w' := by
  by_cases hl : 2147483647 < s.length ∨ 2147483647 < t.length
  · exact law_long A c s A1 c1 t w hl hs ht
  · have h1 : s.length ≤ 2147483647 := by omega
    have h2 : t.length ≤ 2147483647 := by omega
    cases e : solid s with
    | false => exact soft1 A c s A1 c1 t w hr hc h1 h2 e
    | true =>
      cases e1 : solid t with
      | false => exact soft2 A c s A1 c1 t w hr hc hr1 hc1 h1 h2 e e1
      | true => exact hard A c s A1 c1 t w hr hc hr1 hc1 h1 h2 e e1
end Go.Proofs.Ytknldfighehplaa.HFnSameMasks
