/- The walk of FnCloned: it returns true for every list of entries; conditions: the slice's cells as they were read, masks of sixteen bits. -/
import Derived.Test.YtknldfighehplaaHClone
namespace Go.Proofs.Ytknldfighehplaa.HFnCloned
set_option linter.unusedSimpArgs false
set_option linter.unusedVariables false
open Go.RowKit Go.Proofs.Ytknldfighehplaa.HMap Go.Proofs.Ytknldfighehplaa.HMasks Go.Proofs.Ytknldfighehplaa.HTidy Go.Proofs.Ytknldfighehplaa.HSet Go.Proofs.Ytknldfighehplaa.HClone Go.Proofs.Ytknldfighehplaa.PFnSameMasks Go.Proofs.YtknldfighehplaaW.PrintWords Go.Proofs.YtknldfighehplaaW.PrintLast Go.Proofs.YtknldfighehplaaW.PrintMore

theorem law_long (A : Option Addr) (c : Nat) (s : List S74) (w : World) (h : 2000 < s.length) (hs : s.length ≤ 9223372036854775807) :
    Calls Try.prog 10 #[.slice A s.length c] w fun e w' => e = .returned (.bool true) ∧ Below w.heap.size w w' := by
  by_cases h1 : 2147483647 < s.length
  · go_enter Try.func10, Try.ntmps10
    go_wp2
    go_ret
    exact ⟨rfl, Below.refl _ _⟩
  · go_enter Try.func10, Try.ntmps10
    go_wp2
    go_ret
    exact ⟨rfl, Below.refl _ _⟩

set_option maxHeartbeats 400000 in
theorem hard (A : Option Addr) (c : Nat) (s : List S74) (w : World) (hr : Kd.C k74 w A s.length s) (hc : s.length ≤ c) (hs : s.length ≤ 2000) (hg : ∀ e ∈ s, u16ok e.f1) :
    Calls Try.prog 10 #[.slice A s.length c] w fun e w' => e = .returned (.bool true) ∧ Below w.heap.size w w' := by
  have H1 := Lib.hid (implCloned A c s w hr hc (by omega) hg)
  have H2 := Lib.hid (fun (W : World) (B : Option Addr) (d : Nat) (zs : List S74) (hb : Kd.C k74 W B zs.length zs) (hd : zs.length ≤ d) (hz : zs.length ≤ s.length) => spec_Tidy.calls (tidyK zs.length) B d zs (tidy zs) W hb hd (tidy_is zs (by omega)))
  have H4 := Lib.hid (fun (W : World) (hb : Below w.heap.size w W) => spec_Tidy.calls (tidyK s.length) A c s (tidy s) W (Kd.C_below hr hb) hc (tidy_is s (by omega)))
  have hsame : spec_SameLive.f ((tidy s).length + 1) (tidy s) (tidy s) = some true := by
    rw [same_is (tidy s) (tidy s) (by have := tidy_length s; omega)]; simp
  have H6 := Lib.hid (fun (W : World) (B : Option Addr) (d : Nat) (B1 : Option Addr) (d1 : Nat) (hb : Kd.C k74 W B (tidy s).length (tidy s)) (hd : (tidy s).length ≤ d) (hb1 : Kd.C k74 W B1 (tidy s).length (tidy s)) (hd1 : (tidy s).length ≤ d1) =>
    spec_SameLive.calls ((tidy s).length + 1) B d (tidy s) B1 d1 (tidy s) true W hb hd hb1 hd1 hsame)
  clear hsame hr hg
  go_enter Try.func10, Try.ntmps10
  go_wp2_with (first
    | (go_at_call 35; refine H1.out.mono ?_; rintro e w1 ⟨B, d, zs, rfl, hd, hC, hzl, hzt, hb1⟩; have HZ := Lib.hid hzt; clear hzt)
    | (go_at_call_of 22 (Value.slice B zs.length d); refine (H2.out _ B d zs hC hd hzl).mono ?_; rintro e w2 ⟨v2, rfl, hR2, hb2⟩; have hb2' := below_step hb1 hb2; rw [HZ.out] at hR2; obtain ⟨B2, d2, rfl, hd2, hC2⟩ := Kd.R_reads hR2; clear hR2)
    | (go_at_call 22; refine (H4.out _ hb2').mono ?_; rintro e w4 ⟨v4, rfl, hR4, hb4⟩; have hb4' := below_step hb2' hb4; obtain ⟨B4, d4, rfl, hd4, hC4⟩ := Kd.R_reads hR4; clear hR4)
    | (go_at_call 21; refine (H6.out _ B2 d2 B4 d4 (Kd.C_below hC2 hb4) hd2 hC4 hd4).mono ?_; rintro e w6 ⟨rfl, hd6⟩; have hb6' := below_step hb4' hd6.below))
  go_ret
  exact ⟨rfl, hb6'⟩

/-- THE WALK: whatever the list of entries, FnCloned returns true and what was there stands. -/
theorem walk (A : Option Addr) (c : Nat) (s : List S74) (w : World) (hr : Kd.C k74 w A s.length s) (hc : s.length ≤ c) (hs : s.length ≤ 9223372036854775807) (hg : ∀ e ∈ s, u16ok e.f1) :
    Calls Try.prog 10 #[.slice A s.length c] w fun e w' => e = .returned (.bool true) ∧ Below w.heap.size w w' := by
  by_cases hl : 2000 < s.length
  · exact law_long A c s w hl hs
  · exact hard A c s w hr hc (by omega) hg
end Go.Proofs.Ytknldfighehplaa.HFnCloned
