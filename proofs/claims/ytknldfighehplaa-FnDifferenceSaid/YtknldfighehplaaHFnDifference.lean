/- The walk of FnDifference: it returns true for every two lists of entries; conditions: the slices' cells as they were read, masks of sixteen bits. -/
import Derived.Test.YtknldfighehplaaHDiff
namespace Go.Proofs.Ytknldfighehplaa.HFnDifference
set_option linter.unusedSimpArgs false
set_option linter.unusedVariables false
open Go.RowKit Go.Proofs.Ytknldfighehplaa.HMap Go.Proofs.Ytknldfighehplaa.HMasks Go.Proofs.Ytknldfighehplaa.HTidy Go.Proofs.Ytknldfighehplaa.HSet Go.Proofs.Ytknldfighehplaa.HDiff Go.Proofs.Ytknldfighehplaa.PFnSameMasks Go.Proofs.YtknldfighehplaaW.PrintWords Go.Proofs.YtknldfighehplaaW.PrintLast Go.Proofs.YtknldfighehplaaW.PrintMore

theorem law_long (A : Option Addr) (c : Nat) (s : List S74) (A1 : Option Addr) (c1 : Nat) (t : List S74) (w : World) (h : 2000 < s.length ∨ 2000 < t.length) (hs : s.length ≤ 9223372036854775807) (ht : t.length ≤ 9223372036854775807) :
    Calls Try.prog 11 #[.slice A s.length c, .slice A1 t.length c1] w fun e w' => e = .returned (.bool true) ∧ Below w.heap.size w w' := by
  by_cases h1 : 2147483647 < s.length
  · clear h
    go_enter Try.func11, Try.ntmps11
    go_wp2
    go_ret
    exact ⟨rfl, Below.refl _ _⟩
  · by_cases h2 : 2147483647 < t.length
    · clear h
      go_enter Try.func11, Try.ntmps11
      go_wp2
      go_ret
      exact ⟨rfl, Below.refl _ _⟩
    · by_cases h3 : 2000 < s.length
      · clear h
        go_enter Try.func11, Try.ntmps11
        go_wp2
        go_ret
        exact ⟨rfl, Below.refl _ _⟩
      · have h4 : 2000 < t.length := by omega
        clear h
        go_enter Try.func11, Try.ntmps11
        go_wp2
        go_ret
        exact ⟨rfl, Below.refl _ _⟩

theorem lastv_ok (l : List S74) (h : ∀ e ∈ l, u16ok e.f1) (x v : Int) (hv : lastv l x = some v) : u16ok v := by
  induction l with
  | nil => cases hv
  | cons e es ih =>
    simp only [lastv] at hv
    cases hl : lastv es x with
    | some u =>
      rw [hl] at hv
      simp only [Option.some_or, Option.some.injEq] at hv
      subst hv
      exact ih (fun y hy => h y (List.mem_cons_of_mem _ hy)) hl
    | none =>
      rw [hl] at hv
      simp only [Option.none_or] at hv
      by_cases hx : x = e.f0
      · rw [if_pos hx] at hv
        injection hv with hv
        subst hv
        exact h e List.mem_cons_self
      · rw [if_neg hx] at hv; cases hv

set_option maxHeartbeats 400000 in
theorem hard (A : Option Addr) (c : Nat) (s : List S74) (A1 : Option Addr) (c1 : Nat) (t : List S74) (w : World) (hr : Kd.C k74 w A s.length s) (hc : s.length ≤ c) (hr1 : Kd.C k74 w A1 t.length t) (hc1 : t.length ≤ c1) (hs : s.length ≤ 2000) (ht : t.length ≤ 2000)
    (hg : ∀ e ∈ s, u16ok e.f1) (hg1 : ∀ e ∈ t, u16ok e.f1) :
    Calls Try.prog 11 #[.slice A s.length c, .slice A1 t.length c1] w fun e w' => e = .returned (.bool true) ∧ Below w.heap.size w w' := by
  have hx : ∀ x, lk (prs (minL (tidy s) (tidy t))) x = mns (nz (lastv s x)) (lastv t x) := fun x => by
    rw [lk_minL (tidy s) (tidy t) (tidy_asc s) (fun y => by rw [lk_tidy0, nz_nz]) (asc_nodup _ (tidy_asc t)), lk_tidy0, lk_tidy0]
    exact mns_nz _ _ (fun v hv => by
      obtain ⟨e1, e2⟩ := nz_some hv
      exact ⟨lastv_ok s hg x v e1, e2⟩) (fun v hv => lastv_ok t hg1 x v hv)
  have hma : Asc (minL (tidy s) (tidy t)) := minL_asc _ _ (tidy_asc s)
  have hml : (minL (tidy s) (tidy t)).length ≤ 2000 := by
    have h1 := minL_length (tidy s) (tidy t)
    have h2 := tidy_length s
    omega
  have H1 := Lib.hid (implDifference A c s A1 c1 t w hr hc (by omega) hg hr1 hc1 (by omega) hg1 (minL (tidy s) (tidy t)) hma hx)
  have H2 := Lib.hid (fun (W : World) (B : Option Addr) (d : Nat) (zs : List S74) (hb : Kd.C k74 W B zs.length zs) (hd : zs.length ≤ d) (hz : zs.length ≤ s.length) => spec_Tidy.calls (tidyK zs.length) B d zs (tidy zs) W hb hd (tidy_is zs (by omega)))
  have H3 := Lib.hid (fun (W : World) (hb : Below w.heap.size w W) => specDifference A c s A1 c1 t W (Kd.C_below hr hb) hc (by omega) (Kd.C_below hr1 hb) hc1 (by omega))
  clear hr hr1 hg hg1 hx hma
  generalize minL (tidy s) (tidy t) = m at *
  have hsame : spec_SameLive.f (m.length + 1) m m = some true := by
    rw [same_is m m (by omega)]; simp
  have H6 := Lib.hid (fun (W : World) (B : Option Addr) (d : Nat) (B1 : Option Addr) (d1 : Nat) (hb : Kd.C k74 W B m.length m) (hd : m.length ≤ d) (hb1 : Kd.C k74 W B1 m.length m) (hd1 : m.length ≤ d1) =>
    spec_SameLive.calls (m.length + 1) B d m B1 d1 m true W hb hd hb1 hd1 hsame)
  clear hsame hml
  go_enter Try.func11, Try.ntmps11
  go_wp2_with (first
    | (go_at_call 36; refine H1.out.mono ?_; rintro e w1 ⟨B, d, zs, rfl, hd, hC, hzl, hzt, hb1⟩; have HZ := Lib.hid hzt; clear hzt)
    | (go_at_call 22; refine (H2.out _ B d zs hC hd hzl).mono ?_; rintro e w2 ⟨v2, rfl, hR2, hb2⟩; have hb2' := below_step hb1 hb2; rw [HZ.out] at hR2; obtain ⟨B2, d2, rfl, hd2, hC2⟩ := Kd.R_reads hR2; clear hR2)
    | (go_at_call 37; refine (H3.out _ hb2').mono ?_; rintro e w4 ⟨B4, d4, rfl, hd4, hC4, hb4⟩; have hb4' := below_step hb2' hb4)
    | (go_at_call 21; refine (H6.out _ B2 d2 B4 d4 (Kd.C_below hC2 hb4) hd2 hC4 hd4).mono ?_; rintro e w6 ⟨rfl, hd6⟩; have hb6' := below_step hb4' hd6.below))
  go_ret
  exact ⟨rfl, hb6'⟩

/-- THE WALK: whatever the two lists of entries, FnDifference returns true and what was there stands. -/
theorem walk (A : Option Addr) (c : Nat) (s : List S74) (A1 : Option Addr) (c1 : Nat) (t : List S74) (w : World) (hr : Kd.C k74 w A s.length s) (hc : s.length ≤ c) (hr1 : Kd.C k74 w A1 t.length t) (hc1 : t.length ≤ c1) (hs : s.length ≤ 9223372036854775807) (ht : t.length ≤ 9223372036854775807)
    (hg : ∀ e ∈ s, u16ok e.f1) (hg1 : ∀ e ∈ t, u16ok e.f1) :
    Calls Try.prog 11 #[.slice A s.length c, .slice A1 t.length c1] w fun e w' => e = .returned (.bool true) ∧ Below w.heap.size w w' := by
  by_cases hl : 2000 < s.length ∨ 2000 < t.length
  · exact law_long A c s A1 c1 t w hl hs ht
  · exact hard A c s A1 c1 t w hr hc hr1 hc1 (by omega) (by omega) hg hg1
end Go.Proofs.Ytknldfighehplaa.HFnDifference
