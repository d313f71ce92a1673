/- Contracts of functions that FnConstraint reaches, as its print has them; conditions: lengths, and the slices' cells as they were read. -/
import Derived.Test.YtknldfighehplaaDoorPFnConstraintx0
import Derived.Test.YtknldfighehplaaDoorPFnConstraintx2
import Derived.Test.YtknldfighehplaaDoorQFnConstraintx3
namespace Go.Proofs.YtknldfighehplaaDoor.PFnConstraint
open Go.RowKit Go.Proofs.YtknldfighehplaaDoorW.PrintWords Go.Proofs.YtknldfighehplaaDoorW.PrintLast Go.Proofs.YtknldfighehplaaDoorW.PrintMore
attribute [local go_sem] max2_int min2_int max_two min_two max_three min_three max_four min_four
set_option linter.unusedVariables false
set_option linter.unusedSimpArgs false

/-! ### buildtags_Term_IsNegated: function 34 -/
def buildtags_Term_IsNegated.f (a0 : ByteArray) : Option (Bool) := (strings_HasPrefix.f a0 (⟨#[33]⟩ : ByteArray)).bind fun t142 => (some t142)
set_option maxHeartbeats 8000000 in
set_option maxRecDepth 100000 in
theorem buildtags_Term_IsNegated.calls (a0 : ByteArray) (r : Bool) (w : World) (h : buildtags_Term_IsNegated.f a0 = some r) :
    Calls Tryd.prog 34 #[.string a0] w fun e w' => e = .returned (.bool r) ∧ Drawn0 w w' := by
  have H : ((strings_HasPrefix.f a0 (⟨#[33]⟩ : ByteArray)).bind fun t142 => (some t142)) = some r := h
  clear h
  replace H := Option.bind_eq_some_iff.mp H
  obtain ⟨t142, A20, H⟩ := H
  replace H : (some t142) = some r := H
  have A2 := Aside0.mk A20
  clear A20
  obtain rfl := Option.some.inj H
  go_enter Tryd.func34, Tryd.ntmps34
  go_wp2_with (first | ((with_reducible refine gate_callee (f := 57) rfl ?_); refine goesL_ (some 4) rfl rfl Tryd.func57 (by kernel_rfl) rfl #[.string a0, .string (⟨#[33]⟩ : ByteArray)] rfl (by (try simp only [List.map_toArray, List.map_cons, List.map_nil]); first | done | rfl | (simp only [List.length_drop, List.length_take]; rfl)) ?_; (with_reducible refine (strings_HasPrefix.calls a0 (⟨#[33]⟩ : ByteArray) t142 _ A2.out).mono ?_); rintro e w' ⟨rfl, ⟨nd, rfl⟩⟩; refine ⟨_, rfl, ?_⟩))
  go_ret
  exact ⟨by first | rfl | (simp; done) | (simp [*]; done), by repeat (first | exact Drawn0.refl _ | apply Drawn0.step)⟩





/-! ### spec_tagsListed: function 39 -/
def spec_tagsListed.l0 : Nat → ByteArray → List ByteArray → Int → Int → Option (Bool)
  | 0, _, _, _, _ => none
  | k + 1, x1, x7, x8, x9 => if x9 < x8 then (if 0 ≤ x9 then (if x9 < (x7.length : Int) then (if (rdOf ByteArray.empty x7 x9).toList = x1.toList then (some true) else (spec_tagsListed.l0 k x1 x7 x8 (wrap64 (x9 + 1)))) else (none)) else (none)) else (some false)
def spec_tagsListed.f (k : Nat) (l0 : List ByteArray) (a1 : ByteArray) : Option (Bool) := spec_tagsListed.l0 k a1 l0 (l0.length : Int) 0
theorem spec_tagsListed.mono_l : ∀ k, (∀ y0 y1 y2 y3, LeO (spec_tagsListed.l0 k y0 y1 y2 y3) (spec_tagsListed.l0 (k + 1) y0 y1 y2 y3))
  | 0 => fun _ _ _ _ r h => by simp [spec_tagsListed.l0] at h
  | k + 1 => by
    have ih0 := spec_tagsListed.mono_l k
    · intro y0 y1 y2 y3
      unfold spec_tagsListed.l0
      repeat' first
      | (with_reducible exact ih0 _ _ _ _)
      | (with_reducible exact LeO.refl _)
      | (with_reducible exact LeO.none _)
      | (with_reducible refine LeO.ite ?_ ?_)
      | (with_reducible refine LeO.bind ?_ (fun _ => ?_))
      | exact ih0 _ _ _ _
      | exact LeO.none _
      | refine LeO.ite ?_ ?_
      | refine LeO.bind ?_ (fun _ => ?_)
theorem spec_tagsListed.mono : ∀ a0 a1 k, LeO (spec_tagsListed.f k a0 a1) (spec_tagsListed.f (k + 1) a0 a1) := by
  intro a0 a1 k
  have ih0 := spec_tagsListed.mono_l k
  unfold spec_tagsListed.f
  repeat' first
      | (with_reducible exact ih0 _ _ _ _)
      | (with_reducible exact LeO.refl _)
      | (with_reducible exact LeO.none _)
      | (with_reducible refine LeO.ite ?_ ?_)
      | (with_reducible refine LeO.bind ?_ (fun _ => ?_))
      | exact ih0 _ _ _ _
      | exact LeO.none _
      | refine LeO.ite ?_ ?_
      | refine LeO.bind ?_ (fun _ => ?_)
set_option maxHeartbeats 8000000 in
set_option maxRecDepth 100000 in
theorem spec_tagsListed.calls (k : Nat) (A0 : Option Addr) (c0 : Nat) (l0 : List ByteArray) (a1 : ByteArray) (r : Bool) (w : World) (hr0 : Kd.C Kd.string w A0 l0.length l0) (hc0 : l0.length ≤ c0) (h : spec_tagsListed.f k l0 a1 = some r) :
    Calls Tryd.prog 39 #[.slice A0 l0.length c0, .string a1] w fun e w' => e = .returned (.bool r) ∧ Drawn0 w w' := by
  have HR0 := Aside0.mk hr0
  have HC0 := Aside0.mk hc0
  clear hr0 hc0
  have H : (spec_tagsListed.l0 k a1 l0 (l0.length : Int) 0) = some r := h
  clear h
  have H' := Aside0.mk H
  clear H
  go_enter Tryd.func39, Tryd.ntmps39
  go_wp2
  go_loopg [9] k (fun kq v9 w' => ∃ (x9_1 : Int), v9 = .int .i64 x9_1 ∧ Aside0 (spec_tagsListed.l0 kq a1 l0 (l0.length : Int) x9_1 = some r) ∧ Aside0 (kq ≤ k) ∧ Drawn0 w w')
  case atStart => exact ⟨(0), (by first | rfl | (simp; done) | (simp [*]; done)), H', ⟨Nat.le_refl _⟩, by repeat (first | exact Drawn0.refl _ | apply Drawn0.step)⟩
  case round =>
    clear H'
    try clear p2
    obtain ⟨x9_1, rfl, HA, HK1, ⟨m1, rfl⟩⟩ := hrel
    cases gk with
    | zero => exact absurd HA.out (by simp [spec_tagsListed.l0])
    | succ k1 =>
      have H := HA.out
      clear HA
      simp only [spec_tagsListed.l0] at H
      by_cases c3 : x9_1 < (l0.length : Int)
      · rw [if_pos c3] at H
        have c3b0 : decide (x9_1 < (l0.length : Int)) = true := decide_eq_true c3
        clear c3
        by_cases c4 : 0 ≤ x9_1
        · rw [if_pos c4] at H
          have c4b0 : decide (0 ≤ x9_1) = true := decide_eq_true c4
          clear c4
          by_cases c5 : x9_1 < (l0.length : Int)
          · rw [if_pos c5] at H
            have c5b0 : decide (x9_1 < (l0.length : Int)) = true := decide_eq_true c5
            clear c5
            by_cases c6 : (rdOf ByteArray.empty l0 x9_1).toList = a1.toList
            · rw [if_pos c6] at H
              have c6b0 : ((rdOf ByteArray.empty l0 x9_1).toList == a1.toList) = true := beq_iff_eq.mpr c6
              have c6b1 : ((rdOf ByteArray.empty l0 x9_1).toList != a1.toList) = false := bne_eq_false_iff_eq.mpr c6
              clear c6
              obtain rfl := Option.some.inj H
              have p146 : 0 ≤ (x9_1 : Int) := of_decide_eq_true (by first | (with_reducible assumption) | assumption)
              have q146 : x9_1 < (l0.length : Int) := of_decide_eq_true (by first | (with_reducible assumption) | assumption)
              obtain ⟨ad146, e146, hx146_0⟩ := Kd.at_string HR0.out x9_1 p146 q146
              cases e146
              replace p146 := eq_true p146
              replace q146 := eq_true q146
              go_wp2
              go_ret
              exact ⟨by first | rfl | (simp; done) | (simp [*]; done), by repeat (first | exact Drawn0.refl _ | apply Drawn0.step)⟩
            · rw [if_neg c6] at H
              have c6b0 : ((rdOf ByteArray.empty l0 x9_1).toList == a1.toList) = false := beq_eq_false_iff_ne.mpr c6
              have c6b1 : ((rdOf ByteArray.empty l0 x9_1).toList != a1.toList) = true := bne_iff_ne.mpr c6
              have H' := Aside0.mk H
              clear H
              have p146 : 0 ≤ (x9_1 : Int) := of_decide_eq_true (by first | (with_reducible assumption) | assumption)
              have q146 : x9_1 < (l0.length : Int) := of_decide_eq_true (by first | (with_reducible assumption) | assumption)
              obtain ⟨ad146, e146, hx146_0⟩ := Kd.at_string HR0.out x9_1 p146 q146
              cases e146
              replace p146 := eq_true p146
              replace q146 := eq_true q146
              go_wp2
              go_roundg k1
              case measure => have := HK1.out; omega
              case rel => exact ⟨(wrap64 (x9_1 + 1)), (by first | rfl | (simp; done) | (simp [*]; done)), H', ⟨by have := HK1.out; omega⟩, by repeat (first | exact Drawn0.refl _ | apply Drawn0.step)⟩
          · rw [if_neg c5] at H
            exact absurd H (by simp)
        · rw [if_neg c4] at H
          exact absurd H (by simp)
      · rw [if_neg c3] at H
        have c3b0 : decide (x9_1 < (l0.length : Int)) = false := decide_eq_false c3
        clear c3
        obtain rfl := Option.some.inj H
        go_wp2
        go_ret
        exact ⟨by first | rfl | (simp; done) | (simp [*]; done), by repeat (first | exact Drawn0.refl _ | apply Drawn0.step)⟩

/-! ### spec_TermEvaluate: function 15 -/
def spec_TermEvaluate.f (k : Nat) (a0 : ByteArray) (l1 : List ByteArray) : Option (Bool) := (spec_TermParts.f a0).bind fun bt147 => ((spec_TermValid.f k a0).bind fun t149 => (if t149 = true then ((spec_tagsListed.f k l1 bt147.2).bind fun t150 => (some (t150 != bt147.1))) else (some false)))
theorem spec_TermEvaluate.mono : ∀ a0 a1 k, LeO (spec_TermEvaluate.f k a0 a1) (spec_TermEvaluate.f (k + 1) a0 a1) := by
  intro a0 a1 k
  unfold spec_TermEvaluate.f
  repeat' first
      | (with_reducible exact spec_TermValid.mono _ _)
      | (with_reducible exact spec_tagsListed.mono _ _ _)
      | (with_reducible exact LeO.refl _)
      | (with_reducible exact LeO.none _)
      | (with_reducible refine LeO.ite ?_ ?_)
      | (with_reducible refine LeO.bind ?_ (fun _ => ?_))
      | exact spec_TermValid.mono _ _
      | exact spec_tagsListed.mono _ _ _
      | exact LeO.none _
      | refine LeO.ite ?_ ?_
      | refine LeO.bind ?_ (fun _ => ?_)
set_option maxHeartbeats 8000000 in
set_option maxRecDepth 100000 in
theorem spec_TermEvaluate.calls (k : Nat) (a0 : ByteArray) (A1 : Option Addr) (c1 : Nat) (l1 : List ByteArray) (r : Bool) (w : World) (hr1 : Kd.C Kd.string w A1 l1.length l1) (hc1 : l1.length ≤ c1) (h : spec_TermEvaluate.f k a0 l1 = some r) :
    Calls Tryd.prog 15 #[.string a0, .slice A1 l1.length c1] w fun e w' => e = .returned (.bool r) ∧ Drawn0 w w' := by
  have HR1 := Aside0.mk hr1
  have HC1 := Aside0.mk hc1
  clear hr1 hc1
  have H : ((spec_TermParts.f a0).bind fun bt147 => ((spec_TermValid.f k a0).bind fun t149 => (if t149 = true then ((spec_tagsListed.f k l1 bt147.2).bind fun t150 => (some (t150 != bt147.1))) else (some false)))) = some r := h
  clear h
  replace H := Option.bind_eq_some_iff.mp H
  obtain ⟨⟨t147, t148⟩, A30, H⟩ := H
  replace H : ((spec_TermValid.f k a0).bind fun t149 => (if t149 = true then ((spec_tagsListed.f k l1 t148).bind fun t150 => (some (t150 != t147))) else (some false))) = some r := H
  have A3 := Aside0.mk A30
  clear A30
  replace H := Option.bind_eq_some_iff.mp H
  obtain ⟨t149, A40, H⟩ := H
  replace H : (if t149 = true then ((spec_tagsListed.f k l1 t148).bind fun t150 => (some (t150 != t147))) else (some false)) = some r := H
  have A4 := Aside0.mk A40
  clear A40
  by_cases c5 : t149 = true
  · subst c5
    have H1 : ((spec_tagsListed.f k l1 t148).bind fun t150 => (some (t150 != t147))) = some r := by rw [if_pos rfl] at H; exact H
    clear H
    have H := H1
    clear H1
    replace H := Option.bind_eq_some_iff.mp H
    obtain ⟨t150, A60, H⟩ := H
    replace H : (some (t150 != t147)) = some r := H
    have A6 := Aside0.mk A60
    clear A60
    obtain rfl := Option.some.inj H
    go_enter Tryd.func15, Tryd.ntmps15
    go_wp2_with (first | ((with_reducible refine gate_callee (f := 11) rfl ?_); refine goesL_ (some 9) rfl rfl Tryd.func11 (by kernel_rfl) rfl #[.string a0] rfl (by (try simp only [List.map_toArray, List.map_cons, List.map_nil]); first | done | rfl | (simp only [List.length_drop, List.length_take]; rfl)) ?_; (with_reducible refine (spec_TermParts.calls a0 t147 t148 _ A3.out).mono ?_); rintro e w' ⟨rfl, ⟨nd, rfl⟩⟩; refine ⟨_, rfl, ?_⟩) | ((with_reducible refine gate_callee (f := 13) rfl ?_); refine goesL_ (some 13) rfl rfl Tryd.func13 (by kernel_rfl) rfl #[.string a0] rfl (by (try simp only [List.map_toArray, List.map_cons, List.map_nil]); first | done | rfl | (simp only [List.length_drop, List.length_take]; rfl)) ?_; (with_reducible refine (spec_TermValid.calls k a0 true _ A4.out).mono ?_); rintro e w' ⟨rfl, ⟨nd, rfl⟩⟩; refine ⟨_, rfl, ?_⟩) | (go_at_call 39; (with_reducible refine (spec_tagsListed.calls k _ _ l1 t148 t150 _ ?side1 ?side2 A6.out).mono ?_); (case side1 => repeat (first | exact HR1.out | (with_reducible refine Kd.C_alloc ?_ _) | (with_reducible refine Kd.C_drewN ?_ _) | (with_reducible refine Kd.C_drew ?_))); (case side2 => exact HC1.out); rintro e w' ⟨rfl, ⟨nd, rfl⟩⟩))
    go_ret
    exact ⟨by first | rfl | (simp; done) | (simp [*]; done), by repeat (first | exact Drawn0.refl _ | apply Drawn0.step)⟩
  · replace c5 := Bool.eq_false_iff.mpr c5
    subst c5
    have H1 : (some false) = some r := by rw [if_neg (show ¬ (false = true) by decide)] at H; exact H
    clear H
    have H := H1
    clear H1
    obtain rfl := Option.some.inj H
    go_enter Tryd.func15, Tryd.ntmps15
    go_wp2_with (first | ((with_reducible refine gate_callee (f := 11) rfl ?_); refine goesL_ (some 9) rfl rfl Tryd.func11 (by kernel_rfl) rfl #[.string a0] rfl (by (try simp only [List.map_toArray, List.map_cons, List.map_nil]); first | done | rfl | (simp only [List.length_drop, List.length_take]; rfl)) ?_; (with_reducible refine (spec_TermParts.calls a0 t147 t148 _ A3.out).mono ?_); rintro e w' ⟨rfl, ⟨nd, rfl⟩⟩; refine ⟨_, rfl, ?_⟩) | ((with_reducible refine gate_callee (f := 13) rfl ?_); refine goesL_ (some 13) rfl rfl Tryd.func13 (by kernel_rfl) rfl #[.string a0] rfl (by (try simp only [List.map_toArray, List.map_cons, List.map_nil]); first | done | rfl | (simp only [List.length_drop, List.length_take]; rfl)) ?_; (with_reducible refine (spec_TermValid.calls k a0 false _ A4.out).mono ?_); rintro e w' ⟨rfl, ⟨nd, rfl⟩⟩; refine ⟨_, rfl, ?_⟩))
    go_ret
    exact ⟨by first | rfl | (simp; done) | (simp [*]; done), by repeat (first | exact Drawn0.refl _ | apply Drawn0.step)⟩

/-! ### spec_OptionEvaluate: function 48 -/
def spec_OptionEvaluate.l0 : Nat → List ByteArray → List ByteArray → Int → Int → Option (Bool)
  | 0, _, _, _, _ => none
  | k + 1, x1, x7, x8, x9 => if x9 < x8 then (if 0 ≤ x9 then (if x9 < (x7.length : Int) then ((spec_TermEvaluate.f k (rdOf ByteArray.empty x7 x9) x1).bind fun t152 => (if t152 = true then (spec_OptionEvaluate.l0 k x1 x7 x8 (wrap64 (x9 + 1))) else (some false))) else (none)) else (none)) else (some true)
def spec_OptionEvaluate.f (k : Nat) (l0 : List ByteArray) (l1 : List ByteArray) : Option (Bool) := spec_OptionEvaluate.l0 k l1 l0 (l0.length : Int) 0
theorem spec_OptionEvaluate.mono_l : ∀ k, (∀ y0 y1 y2 y3, LeO (spec_OptionEvaluate.l0 k y0 y1 y2 y3) (spec_OptionEvaluate.l0 (k + 1) y0 y1 y2 y3))
  | 0 => fun _ _ _ _ r h => by simp [spec_OptionEvaluate.l0] at h
  | k + 1 => by
    have ih0 := spec_OptionEvaluate.mono_l k
    · intro y0 y1 y2 y3
      unfold spec_OptionEvaluate.l0
      repeat' first
      | (with_reducible exact ih0 _ _ _ _)
      | (with_reducible exact spec_TermEvaluate.mono _ _ _)
      | (with_reducible exact LeO.refl _)
      | (with_reducible exact LeO.none _)
      | (with_reducible refine LeO.ite ?_ ?_)
      | (with_reducible refine LeO.bind ?_ (fun _ => ?_))
      | exact ih0 _ _ _ _
      | exact spec_TermEvaluate.mono _ _ _
      | exact LeO.none _
      | refine LeO.ite ?_ ?_
      | refine LeO.bind ?_ (fun _ => ?_)
theorem spec_OptionEvaluate.mono : ∀ a0 a1 k, LeO (spec_OptionEvaluate.f k a0 a1) (spec_OptionEvaluate.f (k + 1) a0 a1) := by
  intro a0 a1 k
  have ih0 := spec_OptionEvaluate.mono_l k
  unfold spec_OptionEvaluate.f
  repeat' first
      | (with_reducible exact ih0 _ _ _ _)
      | (with_reducible exact spec_TermEvaluate.mono _ _ _)
      | (with_reducible exact LeO.refl _)
      | (with_reducible exact LeO.none _)
      | (with_reducible refine LeO.ite ?_ ?_)
      | (with_reducible refine LeO.bind ?_ (fun _ => ?_))
      | exact ih0 _ _ _ _
      | exact spec_TermEvaluate.mono _ _ _
      | exact LeO.none _
      | refine LeO.ite ?_ ?_
      | refine LeO.bind ?_ (fun _ => ?_)
set_option maxHeartbeats 8000000 in
set_option maxRecDepth 100000 in
theorem spec_OptionEvaluate.calls (k : Nat) (A0 : Option Addr) (c0 : Nat) (l0 : List ByteArray) (A1 : Option Addr) (c1 : Nat) (l1 : List ByteArray) (r : Bool) (w : World) (hr0 : Kd.C Kd.string w A0 l0.length l0) (hc0 : l0.length ≤ c0) (hr1 : Kd.C Kd.string w A1 l1.length l1) (hc1 : l1.length ≤ c1) (h : spec_OptionEvaluate.f k l0 l1 = some r) :
    Calls Tryd.prog 48 #[.slice A0 l0.length c0, .slice A1 l1.length c1] w fun e w' => e = .returned (.bool r) ∧ Drawn0 w w' := by
  have HR0 := Aside0.mk hr0
  have HC0 := Aside0.mk hc0
  clear hr0 hc0
  have HR1 := Aside0.mk hr1
  have HC1 := Aside0.mk hc1
  clear hr1 hc1
  have H : (spec_OptionEvaluate.l0 k l1 l0 (l0.length : Int) 0) = some r := h
  clear h
  have H' := Aside0.mk H
  clear H
  go_enter Tryd.func48, Tryd.ntmps48
  go_wp2
  go_loopg [9] k (fun kq v9 w' => ∃ (x9_1 : Int), v9 = .int .i64 x9_1 ∧ Aside0 (spec_OptionEvaluate.l0 kq l1 l0 (l0.length : Int) x9_1 = some r) ∧ Aside0 (kq ≤ k) ∧ Drawn0 w w')
  case atStart => exact ⟨(0), (by first | rfl | (simp; done) | (simp [*]; done)), H', ⟨Nat.le_refl _⟩, by repeat (first | exact Drawn0.refl _ | apply Drawn0.step)⟩
  case round =>
    clear H'
    try clear c1
    try clear p2
    obtain ⟨x9_1, rfl, HA, HK1, ⟨m1, rfl⟩⟩ := hrel
    cases gk with
    | zero => exact absurd HA.out (by simp [spec_OptionEvaluate.l0])
    | succ k1 =>
      have H := HA.out
      clear HA
      simp only [spec_OptionEvaluate.l0] at H
      by_cases c3 : x9_1 < (l0.length : Int)
      · rw [if_pos c3] at H
        have c3b0 : decide (x9_1 < (l0.length : Int)) = true := decide_eq_true c3
        clear c3
        by_cases c4 : 0 ≤ x9_1
        · rw [if_pos c4] at H
          have c4b0 : decide (0 ≤ x9_1) = true := decide_eq_true c4
          clear c4
          by_cases c5 : x9_1 < (l0.length : Int)
          · rw [if_pos c5] at H
            have c5b0 : decide (x9_1 < (l0.length : Int)) = true := decide_eq_true c5
            clear c5
            replace H := Option.bind_eq_some_iff.mp H
            obtain ⟨t152, A60, H⟩ := H
            replace H : (if t152 = true then (spec_OptionEvaluate.l0 k1 l1 l0 (l0.length : Int) (wrap64 (x9_1 + 1))) else (some false)) = some r := H
            have A6 := Aside0.mk A60
            clear A60
            by_cases c7 : t152 = true
            · subst c7
              have H1 : (spec_OptionEvaluate.l0 k1 l1 l0 (l0.length : Int) (wrap64 (x9_1 + 1))) = some r := by rw [if_pos rfl] at H; exact H
              clear H
              have H := H1
              clear H1
              have H' := Aside0.mk H
              clear H
              have p151 : 0 ≤ (x9_1 : Int) := of_decide_eq_true (by first | (with_reducible assumption) | assumption)
              have q151 : x9_1 < (l0.length : Int) := of_decide_eq_true (by first | (with_reducible assumption) | assumption)
              obtain ⟨ad151, e151, hx151_0⟩ := Kd.at_string HR0.out x9_1 p151 q151
              cases e151
              replace p151 := eq_true p151
              replace q151 := eq_true q151
              go_wp2_with (first | ((with_reducible refine gate_callee (f := 15) rfl ?_); refine goesL_ (some 15) rfl rfl Tryd.func15 (by kernel_rfl) rfl #[.string (rdOf ByteArray.empty l0 x9_1), .slice A1 l1.length c1] rfl (by (try simp only [List.map_toArray, List.map_cons, List.map_nil]); first | done | rfl | (simp only [List.length_drop, List.length_take]; rfl)) ?_; (with_reducible refine (spec_TermEvaluate.calls k1 (rdOf ByteArray.empty l0 x9_1) _ _ l1 true _ ?side1 ?side2 A6.out).mono ?_); (case side1 => repeat (first | exact HR1.out | (with_reducible refine Kd.C_alloc ?_ _) | (with_reducible refine Kd.C_drewN ?_ _) | (with_reducible refine Kd.C_drew ?_))); (case side2 => exact HC1.out); rintro e w' ⟨rfl, ⟨nd, rfl⟩⟩; refine ⟨_, rfl, ?_⟩))
              go_roundg k1
              case measure => have := HK1.out; omega
              case rel => exact ⟨(wrap64 (x9_1 + 1)), (by first | rfl | (simp; done) | (simp [*]; done)), H', ⟨by have := HK1.out; omega⟩, by repeat (first | exact Drawn0.refl _ | apply Drawn0.step)⟩
            · replace c7 := Bool.eq_false_iff.mpr c7
              subst c7
              have H1 : (some false) = some r := by rw [if_neg (show ¬ (false = true) by decide)] at H; exact H
              clear H
              have H := H1
              clear H1
              obtain rfl := Option.some.inj H
              have p151 : 0 ≤ (x9_1 : Int) := of_decide_eq_true (by first | (with_reducible assumption) | assumption)
              have q151 : x9_1 < (l0.length : Int) := of_decide_eq_true (by first | (with_reducible assumption) | assumption)
              obtain ⟨ad151, e151, hx151_0⟩ := Kd.at_string HR0.out x9_1 p151 q151
              cases e151
              replace p151 := eq_true p151
              replace q151 := eq_true q151
              go_wp2_with (first | ((with_reducible refine gate_callee (f := 15) rfl ?_); refine goesL_ (some 15) rfl rfl Tryd.func15 (by kernel_rfl) rfl #[.string (rdOf ByteArray.empty l0 x9_1), .slice A1 l1.length c1] rfl (by (try simp only [List.map_toArray, List.map_cons, List.map_nil]); first | done | rfl | (simp only [List.length_drop, List.length_take]; rfl)) ?_; (with_reducible refine (spec_TermEvaluate.calls k1 (rdOf ByteArray.empty l0 x9_1) _ _ l1 false _ ?side1 ?side2 A6.out).mono ?_); (case side1 => repeat (first | exact HR1.out | (with_reducible refine Kd.C_alloc ?_ _) | (with_reducible refine Kd.C_drewN ?_ _) | (with_reducible refine Kd.C_drew ?_))); (case side2 => exact HC1.out); rintro e w' ⟨rfl, ⟨nd, rfl⟩⟩; refine ⟨_, rfl, ?_⟩))
              go_ret
              exact ⟨by first | rfl | (simp; done) | (simp [*]; done), by repeat (first | exact Drawn0.refl _ | apply Drawn0.step)⟩
          · rw [if_neg c5] at H
            exact absurd H (by simp)
        · rw [if_neg c4] at H
          exact absurd H (by simp)
      · rw [if_neg c3] at H
        have c3b0 : decide (x9_1 < (l0.length : Int)) = false := decide_eq_false c3
        clear c3
        obtain rfl := Option.some.inj H
        go_wp2
        go_ret
        exact ⟨by first | rfl | (simp; done) | (simp [*]; done), by repeat (first | exact Drawn0.refl _ | apply Drawn0.step)⟩

/-! ### spec_ConstraintEvaluate: function 24 -/
def spec_ConstraintEvaluate.l0 : Nat → List ByteArray → List (List ByteArray) → Int → Int → Option (Bool)
  | 0, _, _, _, _ => none
  | k + 1, x1, x7, x8, x9 => if x9 < x8 then (if 0 ≤ x9 then (if x9 < (x7.length : Int) then ((spec_OptionEvaluate.f k (rd_L1 x7 x9) x1).bind fun t154 => (if t154 = true then (some true) else (spec_ConstraintEvaluate.l0 k x1 x7 x8 (wrap64 (x9 + 1))))) else (none)) else (none)) else (some false)
def spec_ConstraintEvaluate.f (k : Nat) (l0 : List (List ByteArray)) (l1 : List ByteArray) : Option (Bool) := spec_ConstraintEvaluate.l0 k l1 l0 (l0.length : Int) 0
theorem spec_ConstraintEvaluate.mono_l : ∀ k, (∀ y0 y1 y2 y3, LeO (spec_ConstraintEvaluate.l0 k y0 y1 y2 y3) (spec_ConstraintEvaluate.l0 (k + 1) y0 y1 y2 y3))
  | 0 => fun _ _ _ _ r h => by simp [spec_ConstraintEvaluate.l0] at h
  | k + 1 => by
    have ih0 := spec_ConstraintEvaluate.mono_l k
    · intro y0 y1 y2 y3
      unfold spec_ConstraintEvaluate.l0
      repeat' first
      | (with_reducible exact ih0 _ _ _ _)
      | (with_reducible exact spec_OptionEvaluate.mono _ _ _)
      | (with_reducible exact LeO.refl _)
      | (with_reducible exact LeO.none _)
      | (with_reducible refine LeO.ite ?_ ?_)
      | (with_reducible refine LeO.bind ?_ (fun _ => ?_))
      | exact ih0 _ _ _ _
      | exact spec_OptionEvaluate.mono _ _ _
      | exact LeO.none _
      | refine LeO.ite ?_ ?_
      | refine LeO.bind ?_ (fun _ => ?_)
theorem spec_ConstraintEvaluate.mono : ∀ a0 a1 k, LeO (spec_ConstraintEvaluate.f k a0 a1) (spec_ConstraintEvaluate.f (k + 1) a0 a1) := by
  intro a0 a1 k
  have ih0 := spec_ConstraintEvaluate.mono_l k
  unfold spec_ConstraintEvaluate.f
  repeat' first
      | (with_reducible exact ih0 _ _ _ _)
      | (with_reducible exact spec_OptionEvaluate.mono _ _ _)
      | (with_reducible exact LeO.refl _)
      | (with_reducible exact LeO.none _)
      | (with_reducible refine LeO.ite ?_ ?_)
      | (with_reducible refine LeO.bind ?_ (fun _ => ?_))
      | exact ih0 _ _ _ _
      | exact spec_OptionEvaluate.mono _ _ _
      | exact LeO.none _
      | refine LeO.ite ?_ ?_
      | refine LeO.bind ?_ (fun _ => ?_)
set_option maxHeartbeats 8000000 in
set_option maxRecDepth 100000 in
theorem spec_ConstraintEvaluate.calls (k : Nat) (A0 : Option Addr) (c0 : Nat) (l0 : List (List ByteArray)) (A1 : Option Addr) (c1 : Nat) (l1 : List ByteArray) (r : Bool) (w : World) (hr0 : Kd.C (Kd.slice 9 Kd.string) w A0 l0.length l0) (hc0 : l0.length ≤ c0) (hr1 : Kd.C Kd.string w A1 l1.length l1) (hc1 : l1.length ≤ c1) (h : spec_ConstraintEvaluate.f k l0 l1 = some r) :
    Calls Tryd.prog 24 #[.slice A0 l0.length c0, .slice A1 l1.length c1] w fun e w' => e = .returned (.bool r) ∧ Drawn0 w w' := by
  have HR0 := Aside0.mk hr0
  have HC0 := Aside0.mk hc0
  clear hr0 hc0
  have HR1 := Aside0.mk hr1
  have HC1 := Aside0.mk hc1
  clear hr1 hc1
  have H : (spec_ConstraintEvaluate.l0 k l1 l0 (l0.length : Int) 0) = some r := h
  clear h
  have H' := Aside0.mk H
  clear H
  go_enter Tryd.func24, Tryd.ntmps24
  go_wp2
  go_loopg [9] k (fun kq v9 w' => ∃ (x9_1 : Int), v9 = .int .i64 x9_1 ∧ Aside0 (spec_ConstraintEvaluate.l0 kq l1 l0 (l0.length : Int) x9_1 = some r) ∧ Aside0 (kq ≤ k) ∧ Drawn0 w w')
  case atStart => exact ⟨(0), (by first | rfl | (simp; done) | (simp [*]; done)), H', ⟨Nat.le_refl _⟩, by repeat (first | exact Drawn0.refl _ | apply Drawn0.step)⟩
  case round =>
    clear H'
    try clear c1
    try clear c2
    try clear p2
    obtain ⟨x9_1, rfl, HA, HK1, ⟨m1, rfl⟩⟩ := hrel
    cases gk with
    | zero => exact absurd HA.out (by simp [spec_ConstraintEvaluate.l0])
    | succ k1 =>
      have H := HA.out
      clear HA
      simp only [spec_ConstraintEvaluate.l0] at H
      by_cases c3 : x9_1 < (l0.length : Int)
      · rw [if_pos c3] at H
        have c3b0 : decide (x9_1 < (l0.length : Int)) = true := decide_eq_true c3
        clear c3
        by_cases c4 : 0 ≤ x9_1
        · rw [if_pos c4] at H
          have c4b0 : decide (0 ≤ x9_1) = true := decide_eq_true c4
          clear c4
          by_cases c5 : x9_1 < (l0.length : Int)
          · rw [if_pos c5] at H
            have c5b0 : decide (x9_1 < (l0.length : Int)) = true := decide_eq_true c5
            clear c5
            replace H := Option.bind_eq_some_iff.mp H
            obtain ⟨t154, A60, H⟩ := H
            replace H : (if t154 = true then (some true) else (spec_ConstraintEvaluate.l0 k1 l1 l0 (l0.length : Int) (wrap64 (x9_1 + 1)))) = some r := H
            have A6 := Aside0.mk A60
            clear A60
            by_cases c7 : t154 = true
            · subst c7
              have H1 : (some true) = some r := by rw [if_pos rfl] at H; exact H
              clear H
              have H := H1
              clear H1
              obtain rfl := Option.some.inj H
              have p153 : 0 ≤ (x9_1 : Int) := of_decide_eq_true (by first | (with_reducible assumption) | assumption)
              have q153 : x9_1 < (l0.length : Int) := of_decide_eq_true (by first | (with_reducible assumption) | assumption)
              obtain ⟨ad153, A153_0, c153_0, e153, hx153_0, hl153_0, hi153_0⟩ := at_L1 HR0.out x9_1 p153 q153
              cases e153
              have HR153_0 := Aside0.mk hi153_0
              have HC153_0 := Aside0.mk hl153_0
              clear hi153_0 hl153_0
              replace p153 := eq_true p153
              replace q153 := eq_true q153
              go_wp2_with (first | ((with_reducible refine gate_callee (f := 48) rfl ?_); refine goesL_ (some 15) rfl rfl Tryd.func48 (by kernel_rfl) rfl #[.slice A153_0 (rd_L1 l0 x9_1).length c153_0, .slice A1 l1.length c1] rfl (by (try simp only [List.map_toArray, List.map_cons, List.map_nil]); first | done | rfl | (simp only [List.length_drop, List.length_take]; rfl)) ?_; (with_reducible refine (spec_OptionEvaluate.calls k1 _ _ (rd_L1 l0 x9_1) _ _ l1 true _ ?side1 ?side2 ?side3 ?side4 A6.out).mono ?_); (case side1 => repeat (first | exact HR153_0.out | (with_reducible refine Kd.C_alloc ?_ _) | (with_reducible refine Kd.C_drewN ?_ _) | (with_reducible refine Kd.C_drew ?_))); (case side2 => exact HC153_0.out); (case side3 => repeat (first | exact HR1.out | (with_reducible refine Kd.C_alloc ?_ _) | (with_reducible refine Kd.C_drewN ?_ _) | (with_reducible refine Kd.C_drew ?_))); (case side4 => exact HC1.out); rintro e w' ⟨rfl, ⟨nd, rfl⟩⟩; refine ⟨_, rfl, ?_⟩))
              go_ret
              exact ⟨by first | rfl | (simp; done) | (simp [*]; done), by repeat (first | exact Drawn0.refl _ | apply Drawn0.step)⟩
            · replace c7 := Bool.eq_false_iff.mpr c7
              subst c7
              have H1 : (spec_ConstraintEvaluate.l0 k1 l1 l0 (l0.length : Int) (wrap64 (x9_1 + 1))) = some r := by rw [if_neg (show ¬ (false = true) by decide)] at H; exact H
              clear H
              have H := H1
              clear H1
              have H' := Aside0.mk H
              clear H
              have p153 : 0 ≤ (x9_1 : Int) := of_decide_eq_true (by first | (with_reducible assumption) | assumption)
              have q153 : x9_1 < (l0.length : Int) := of_decide_eq_true (by first | (with_reducible assumption) | assumption)
              obtain ⟨ad153, A153_0, c153_0, e153, hx153_0, hl153_0, hi153_0⟩ := at_L1 HR0.out x9_1 p153 q153
              cases e153
              have HR153_0 := Aside0.mk hi153_0
              have HC153_0 := Aside0.mk hl153_0
              clear hi153_0 hl153_0
              replace p153 := eq_true p153
              replace q153 := eq_true q153
              go_wp2_with (first | ((with_reducible refine gate_callee (f := 48) rfl ?_); refine goesL_ (some 15) rfl rfl Tryd.func48 (by kernel_rfl) rfl #[.slice A153_0 (rd_L1 l0 x9_1).length c153_0, .slice A1 l1.length c1] rfl (by (try simp only [List.map_toArray, List.map_cons, List.map_nil]); first | done | rfl | (simp only [List.length_drop, List.length_take]; rfl)) ?_; (with_reducible refine (spec_OptionEvaluate.calls k1 _ _ (rd_L1 l0 x9_1) _ _ l1 false _ ?side1 ?side2 ?side3 ?side4 A6.out).mono ?_); (case side1 => repeat (first | exact HR153_0.out | (with_reducible refine Kd.C_alloc ?_ _) | (with_reducible refine Kd.C_drewN ?_ _) | (with_reducible refine Kd.C_drew ?_))); (case side2 => exact HC153_0.out); (case side3 => repeat (first | exact HR1.out | (with_reducible refine Kd.C_alloc ?_ _) | (with_reducible refine Kd.C_drewN ?_ _) | (with_reducible refine Kd.C_drew ?_))); (case side4 => exact HC1.out); rintro e w' ⟨rfl, ⟨nd, rfl⟩⟩; refine ⟨_, rfl, ?_⟩))
              go_roundg k1
              case measure => have := HK1.out; omega
              case rel => exact ⟨(wrap64 (x9_1 + 1)), (by first | rfl | (simp; done) | (simp [*]; done)), H', ⟨by have := HK1.out; omega⟩, by repeat (first | exact Drawn0.refl _ | apply Drawn0.step)⟩
          · rw [if_neg c5] at H
            exact absurd H (by simp)
        · rw [if_neg c4] at H
          exact absurd H (by simp)
      · rw [if_neg c3] at H
        have c3b0 : decide (x9_1 < (l0.length : Int)) = false := decide_eq_false c3
        clear c3
        obtain rfl := Option.some.inj H
        go_wp2
        go_ret
        exact ⟨by first | rfl | (simp; done) | (simp [*]; done), by repeat (first | exact Drawn0.refl _ | apply Drawn0.step)⟩

/-! ### buildtags_Term_GoString: function 66 -/
def buildtags_Term_GoString.f (a0 : ByteArray) : Option (ByteArray) := some a0
set_option maxHeartbeats 8000000 in
set_option maxRecDepth 100000 in
theorem buildtags_Term_GoString.calls (a0 : ByteArray) (r : ByteArray) (w : World) (h : buildtags_Term_GoString.f a0 = some r) :
    Calls Tryd.prog 66 #[.string a0] w fun e w' => e = .returned (.string r) ∧ Drawn0 w w' := by
  have H : (some a0) = some r := h
  clear h
  obtain rfl := Option.some.inj H
  go_enter Tryd.func66, Tryd.ntmps66
  go_wp2
  go_ret
  exact ⟨by first | rfl | (simp; done) | (simp [*]; done), by repeat (first | exact Drawn0.refl _ | apply Drawn0.step)⟩












/-! ### spec_OptionText: function 50 -/
def spec_OptionText.l0 : Nat → ByteArray → List ByteArray → Int → Int → Option (ByteArray)
  | 0, _, _, _, _ => none
  | k + 1, x3, x6, x7, x8 => if x8 < x7 then (if 0 ≤ x8 then (if x8 < (x6.length : Int) then (if x8 > 0 then (if x3.size + 1 ≤ 9223372036854775807 then (if (x3 ++ (⟨#[44]⟩ : ByteArray)).size + (rdOf ByteArray.empty x6 x8).size ≤ 9223372036854775807 then (spec_OptionText.l0 k ((x3 ++ (⟨#[44]⟩ : ByteArray)) ++ (rdOf ByteArray.empty x6 x8)) x6 x7 (wrap64 (x8 + 1))) else (none)) else (none)) else (if x3.size + (rdOf ByteArray.empty x6 x8).size ≤ 9223372036854775807 then (spec_OptionText.l0 k (x3 ++ (rdOf ByteArray.empty x6 x8)) x6 x7 (wrap64 (x8 + 1))) else (none))) else (none)) else (none)) else (some x3)
def spec_OptionText.f (k : Nat) (l0 : List ByteArray) : Option (ByteArray) := spec_OptionText.l0 k (⟨#[]⟩ : ByteArray) l0 (l0.length : Int) 0
theorem spec_OptionText.mono_l : ∀ k, (∀ y0 y1 y2 y3, LeO (spec_OptionText.l0 k y0 y1 y2 y3) (spec_OptionText.l0 (k + 1) y0 y1 y2 y3))
  | 0 => fun _ _ _ _ r h => by simp [spec_OptionText.l0] at h
  | k + 1 => by
    have ih0 := spec_OptionText.mono_l k
    · intro y0 y1 y2 y3
      unfold spec_OptionText.l0
      repeat' first
      | (with_reducible exact ih0 _ _ _ _)
      | (with_reducible exact LeO.refl _)
      | (with_reducible exact LeO.none _)
      | (with_reducible refine LeO.ite ?_ ?_)
      | (with_reducible refine LeO.bind ?_ (fun _ => ?_))
      | exact ih0 _ _ _ _
      | exact LeO.none _
      | refine LeO.ite ?_ ?_
      | refine LeO.bind ?_ (fun _ => ?_)
theorem spec_OptionText.mono : ∀ a0 k, LeO (spec_OptionText.f k a0) (spec_OptionText.f (k + 1) a0) := by
  intro a0 k
  have ih0 := spec_OptionText.mono_l k
  unfold spec_OptionText.f
  repeat' first
      | (with_reducible exact ih0 _ _ _ _)
      | (with_reducible exact LeO.refl _)
      | (with_reducible exact LeO.none _)
      | (with_reducible refine LeO.ite ?_ ?_)
      | (with_reducible refine LeO.bind ?_ (fun _ => ?_))
      | exact ih0 _ _ _ _
      | exact LeO.none _
      | refine LeO.ite ?_ ?_
      | refine LeO.bind ?_ (fun _ => ?_)
set_option maxHeartbeats 8000000 in
set_option maxRecDepth 100000 in
theorem spec_OptionText.calls (k : Nat) (A0 : Option Addr) (c0 : Nat) (l0 : List ByteArray) (r : ByteArray) (w : World) (hr0 : Kd.C Kd.string w A0 l0.length l0) (hc0 : l0.length ≤ c0) (h : spec_OptionText.f k l0 = some r) :
    Calls Tryd.prog 50 #[.slice A0 l0.length c0] w fun e w' => e = .returned (.string r) ∧ Drawn0 w w' := by
  have HR0 := Aside0.mk hr0
  have HC0 := Aside0.mk hc0
  clear hr0 hc0
  have H : (spec_OptionText.l0 k (⟨#[]⟩ : ByteArray) l0 (l0.length : Int) 0) = some r := h
  clear h
  have H' := Aside0.mk H
  clear H
  go_enter Tryd.func50, Tryd.ntmps50
  go_wp2
  go_loopg [3, 8] k (fun kq v3 v8 w' => ∃ (x3_1 : ByteArray) (x8_1 : Int), v3 = .string x3_1 ∧ v8 = .int .i64 x8_1 ∧ Aside0 (spec_OptionText.l0 kq x3_1 l0 (l0.length : Int) x8_1 = some r) ∧ Aside0 (kq ≤ k) ∧ Drawn0 w w')
  case atStart => exact ⟨((⟨#[]⟩ : ByteArray)), (0), (by first | rfl | (simp; done) | (simp [*]; done)), (by first | rfl | (simp; done) | (simp [*]; done)), H', ⟨Nat.le_refl _⟩, by repeat (first | exact Drawn0.refl _ | apply Drawn0.step)⟩
  case round =>
    clear H'
    obtain ⟨x3_1, x8_1, rfl, rfl, HA, HK1, ⟨m1, rfl⟩⟩ := hrel
    cases gk with
    | zero => exact absurd HA.out (by simp [spec_OptionText.l0])
    | succ k1 =>
      have H := HA.out
      clear HA
      simp only [spec_OptionText.l0] at H
      by_cases c2 : x8_1 < (l0.length : Int)
      · rw [if_pos c2] at H
        have c2b0 : decide (x8_1 < (l0.length : Int)) = true := decide_eq_true c2
        clear c2
        by_cases c3 : 0 ≤ x8_1
        · rw [if_pos c3] at H
          have c3b0 : decide (0 ≤ x8_1) = true := decide_eq_true c3
          clear c3
          by_cases c4 : x8_1 < (l0.length : Int)
          · rw [if_pos c4] at H
            have c4b0 : decide (x8_1 < (l0.length : Int)) = true := decide_eq_true c4
            clear c4
            by_cases c5 : x8_1 > 0
            · rw [if_pos c5] at H
              have c5b0 : decide (0 < x8_1) = true := decide_eq_true c5
              clear c5
              by_cases c6 : x3_1.size + 1 ≤ 9223372036854775807
              · rw [if_pos c6] at H
                have c6b0 := eq_true c6
                have c6b1 : decide (x3_1.size + 1 ≤ 9223372036854775807) = true := decide_eq_true c6
                try have c6b2 : (9223372036854775807 < x3_1.size + 1) = False := eq_false (Nat.not_lt.2 c6)
                by_cases c7 : (x3_1 ++ (⟨#[44]⟩ : ByteArray)).size + (rdOf ByteArray.empty l0 x8_1).size ≤ 9223372036854775807
                · rw [if_pos c7] at H
                  have c7b0 := eq_true c7
                  have c7b1 : decide ((x3_1 ++ (⟨#[44]⟩ : ByteArray)).size + (rdOf ByteArray.empty l0 x8_1).size ≤ 9223372036854775807) = true := decide_eq_true c7
                  try have c7b2 : (9223372036854775807 < (x3_1 ++ (⟨#[44]⟩ : ByteArray)).size + (rdOf ByteArray.empty l0 x8_1).size) = False := eq_false (Nat.not_lt.2 c7)
                  have H' := Aside0.mk H
                  clear H
                  have p165 : 0 ≤ (x8_1 : Int) := of_decide_eq_true (by first | (with_reducible assumption) | assumption)
                  have q165 : x8_1 < (l0.length : Int) := of_decide_eq_true (by first | (with_reducible assumption) | assumption)
                  obtain ⟨ad165, e165, hx165_0⟩ := Kd.at_string HR0.out x8_1 p165 q165
                  cases e165
                  replace p165 := eq_true p165
                  replace q165 := eq_true q165
                  go_wp2
                  go_roundg k1
                  case measure => have := HK1.out; omega
                  case rel => exact ⟨((x3_1 ++ (⟨#[44]⟩ : ByteArray)) ++ (rdOf ByteArray.empty l0 x8_1)), (wrap64 (x8_1 + 1)), (by first | rfl | (simp; done) | (simp [*]; done)), (by first | rfl | (simp; done) | (simp [*]; done)), H', ⟨by have := HK1.out; omega⟩, by repeat (first | exact Drawn0.refl _ | apply Drawn0.step)⟩
                · rw [if_neg c7] at H
                  exact absurd H (by simp)
              · rw [if_neg c6] at H
                exact absurd H (by simp)
            · rw [if_neg c5] at H
              have c5b0 : decide (0 < x8_1) = false := decide_eq_false c5
              clear c5
              by_cases c8 : x3_1.size + (rdOf ByteArray.empty l0 x8_1).size ≤ 9223372036854775807
              · rw [if_pos c8] at H
                have c8b0 := eq_true c8
                have c8b1 : decide (x3_1.size + (rdOf ByteArray.empty l0 x8_1).size ≤ 9223372036854775807) = true := decide_eq_true c8
                try have c8b2 : (9223372036854775807 < x3_1.size + (rdOf ByteArray.empty l0 x8_1).size) = False := eq_false (Nat.not_lt.2 c8)
                have H' := Aside0.mk H
                clear H
                have p165 : 0 ≤ (x8_1 : Int) := of_decide_eq_true (by first | (with_reducible assumption) | assumption)
                have q165 : x8_1 < (l0.length : Int) := of_decide_eq_true (by first | (with_reducible assumption) | assumption)
                obtain ⟨ad165, e165, hx165_0⟩ := Kd.at_string HR0.out x8_1 p165 q165
                cases e165
                replace p165 := eq_true p165
                replace q165 := eq_true q165
                go_wp2
                go_roundg k1
                case measure => have := HK1.out; omega
                case rel => exact ⟨(x3_1 ++ (rdOf ByteArray.empty l0 x8_1)), (wrap64 (x8_1 + 1)), (by first | rfl | (simp; done) | (simp [*]; done)), (by first | rfl | (simp; done) | (simp [*]; done)), H', ⟨by have := HK1.out; omega⟩, by repeat (first | exact Drawn0.refl _ | apply Drawn0.step)⟩
              · rw [if_neg c8] at H
                exact absurd H (by simp)
          · rw [if_neg c4] at H
            exact absurd H (by simp)
        · rw [if_neg c3] at H
          exact absurd H (by simp)
      · rw [if_neg c2] at H
        have c2b0 : decide (x8_1 < (l0.length : Int)) = false := decide_eq_false c2
        clear c2
        obtain rfl := Option.some.inj H
        go_wp2
        go_ret
        exact ⟨by first | rfl | (simp; done) | (simp [*]; done), by repeat (first | exact Drawn0.refl _ | apply Drawn0.step)⟩

/-! ### spec_ConstraintText: function 26 -/
def spec_ConstraintText.l0 : Nat → ByteArray → List (List ByteArray) → Int → Int → Option (ByteArray)
  | 0, _, _, _, _ => none
  | k + 1, x3, x6, x7, x8 => if x8 < x7 then (if 0 ≤ x8 then (if x8 < (x6.length : Int) then ((spec_OptionText.f k (rd_L1 x6 x8)).bind fun t167 => (if 1 + t167.size ≤ 9223372036854775807 then (if x3.size + ((⟨#[32]⟩ : ByteArray) ++ t167).size ≤ 9223372036854775807 then (spec_ConstraintText.l0 k (x3 ++ ((⟨#[32]⟩ : ByteArray) ++ t167)) x6 x7 (wrap64 (x8 + 1))) else (none)) else (none))) else (none)) else (none)) else (if x3.size + 1 ≤ 9223372036854775807 then (some (x3 ++ (⟨#[10]⟩ : ByteArray))) else (none))
def spec_ConstraintText.f (k : Nat) (l0 : List (List ByteArray)) : Option (ByteArray) := spec_ConstraintText.l0 k (⟨#[47, 47, 32, 43, 98, 117, 105, 108, 100]⟩ : ByteArray) l0 (l0.length : Int) 0
theorem spec_ConstraintText.mono_l : ∀ k, (∀ y0 y1 y2 y3, LeO (spec_ConstraintText.l0 k y0 y1 y2 y3) (spec_ConstraintText.l0 (k + 1) y0 y1 y2 y3))
  | 0 => fun _ _ _ _ r h => by simp [spec_ConstraintText.l0] at h
  | k + 1 => by
    have ih0 := spec_ConstraintText.mono_l k
    · intro y0 y1 y2 y3
      unfold spec_ConstraintText.l0
      repeat' first
      | (with_reducible exact ih0 _ _ _ _)
      | (with_reducible exact spec_OptionText.mono _ _)
      | (with_reducible exact LeO.refl _)
      | (with_reducible exact LeO.none _)
      | (with_reducible refine LeO.ite ?_ ?_)
      | (with_reducible refine LeO.bind ?_ (fun _ => ?_))
      | exact ih0 _ _ _ _
      | exact spec_OptionText.mono _ _
      | exact LeO.none _
      | refine LeO.ite ?_ ?_
      | refine LeO.bind ?_ (fun _ => ?_)
theorem spec_ConstraintText.mono : ∀ a0 k, LeO (spec_ConstraintText.f k a0) (spec_ConstraintText.f (k + 1) a0) := by
  intro a0 k
  have ih0 := spec_ConstraintText.mono_l k
  unfold spec_ConstraintText.f
  repeat' first
      | (with_reducible exact ih0 _ _ _ _)
      | (with_reducible exact spec_OptionText.mono _ _)
      | (with_reducible exact LeO.refl _)
      | (with_reducible exact LeO.none _)
      | (with_reducible refine LeO.ite ?_ ?_)
      | (with_reducible refine LeO.bind ?_ (fun _ => ?_))
      | exact ih0 _ _ _ _
      | exact spec_OptionText.mono _ _
      | exact LeO.none _
      | refine LeO.ite ?_ ?_
      | refine LeO.bind ?_ (fun _ => ?_)
set_option maxHeartbeats 8000000 in
set_option maxRecDepth 100000 in
theorem spec_ConstraintText.calls (k : Nat) (A0 : Option Addr) (c0 : Nat) (l0 : List (List ByteArray)) (r : ByteArray) (w : World) (hr0 : Kd.C (Kd.slice 9 Kd.string) w A0 l0.length l0) (hc0 : l0.length ≤ c0) (h : spec_ConstraintText.f k l0 = some r) :
    Calls Tryd.prog 26 #[.slice A0 l0.length c0] w fun e w' => e = .returned (.string r) ∧ Drawn0 w w' := by
  have HR0 := Aside0.mk hr0
  have HC0 := Aside0.mk hc0
  clear hr0 hc0
  have H : (spec_ConstraintText.l0 k (⟨#[47, 47, 32, 43, 98, 117, 105, 108, 100]⟩ : ByteArray) l0 (l0.length : Int) 0) = some r := h
  clear h
  have H' := Aside0.mk H
  clear H
  go_enter Tryd.func26, Tryd.ntmps26
  go_wp2
  go_loopg [3, 8] k (fun kq v3 v8 w' => ∃ (x3_1 : ByteArray) (x8_1 : Int), v3 = .string x3_1 ∧ v8 = .int .i64 x8_1 ∧ Aside0 (spec_ConstraintText.l0 kq x3_1 l0 (l0.length : Int) x8_1 = some r) ∧ Aside0 (kq ≤ k) ∧ Drawn0 w w')
  case atStart => exact ⟨((⟨#[47, 47, 32, 43, 98, 117, 105, 108, 100]⟩ : ByteArray)), (0), (by first | rfl | (simp; done) | (simp [*]; done)), (by first | rfl | (simp; done) | (simp [*]; done)), H', ⟨Nat.le_refl _⟩, by repeat (first | exact Drawn0.refl _ | apply Drawn0.step)⟩
  case round =>
    clear H'
    obtain ⟨x3_1, x8_1, rfl, rfl, HA, HK1, ⟨m1, rfl⟩⟩ := hrel
    cases gk with
    | zero => exact absurd HA.out (by simp [spec_ConstraintText.l0])
    | succ k1 =>
      have H := HA.out
      clear HA
      simp only [spec_ConstraintText.l0] at H
      by_cases c2 : x8_1 < (l0.length : Int)
      · rw [if_pos c2] at H
        have c2b0 : decide (x8_1 < (l0.length : Int)) = true := decide_eq_true c2
        clear c2
        by_cases c3 : 0 ≤ x8_1
        · rw [if_pos c3] at H
          have c3b0 : decide (0 ≤ x8_1) = true := decide_eq_true c3
          clear c3
          by_cases c4 : x8_1 < (l0.length : Int)
          · rw [if_pos c4] at H
            have c4b0 : decide (x8_1 < (l0.length : Int)) = true := decide_eq_true c4
            clear c4
            replace H := Option.bind_eq_some_iff.mp H
            obtain ⟨t167, A50, H⟩ := H
            replace H : (if 1 + t167.size ≤ 9223372036854775807 then (if x3_1.size + ((⟨#[32]⟩ : ByteArray) ++ t167).size ≤ 9223372036854775807 then (spec_ConstraintText.l0 k1 (x3_1 ++ ((⟨#[32]⟩ : ByteArray) ++ t167)) l0 (l0.length : Int) (wrap64 (x8_1 + 1))) else (none)) else (none)) = some r := H
            have A5 := Aside0.mk A50
            clear A50
            by_cases c6 : 1 + t167.size ≤ 9223372036854775807
            · rw [if_pos c6] at H
              have c6b0 := eq_true c6
              have c6b1 : decide (1 + t167.size ≤ 9223372036854775807) = true := decide_eq_true c6
              try have c6b2 : (9223372036854775807 < 1 + t167.size) = False := eq_false (Nat.not_lt.2 c6)
              by_cases c7 : x3_1.size + ((⟨#[32]⟩ : ByteArray) ++ t167).size ≤ 9223372036854775807
              · rw [if_pos c7] at H
                have c7b0 := eq_true c7
                have c7b1 : decide (x3_1.size + ((⟨#[32]⟩ : ByteArray) ++ t167).size ≤ 9223372036854775807) = true := decide_eq_true c7
                try have c7b2 : (9223372036854775807 < x3_1.size + ((⟨#[32]⟩ : ByteArray) ++ t167).size) = False := eq_false (Nat.not_lt.2 c7)
                have H' := Aside0.mk H
                clear H
                have p166 : 0 ≤ (x8_1 : Int) := of_decide_eq_true (by first | (with_reducible assumption) | assumption)
                have q166 : x8_1 < (l0.length : Int) := of_decide_eq_true (by first | (with_reducible assumption) | assumption)
                obtain ⟨ad166, A166_0, c166_0, e166, hx166_0, hl166_0, hi166_0⟩ := at_L1 HR0.out x8_1 p166 q166
                cases e166
                have HR166_0 := Aside0.mk hi166_0
                have HC166_0 := Aside0.mk hl166_0
                clear hi166_0 hl166_0
                replace p166 := eq_true p166
                replace q166 := eq_true q166
                go_wp2_with (first | ((with_reducible refine gate_callee (f := 50) rfl ?_); refine goesL_ (some 14) rfl rfl Tryd.func50 (by kernel_rfl) rfl #[.slice A166_0 (rd_L1 l0 x8_1).length c166_0] rfl (by (try simp only [List.map_toArray, List.map_cons, List.map_nil]); first | done | rfl | (simp only [List.length_drop, List.length_take]; rfl)) ?_; (with_reducible refine (spec_OptionText.calls k1 _ _ (rd_L1 l0 x8_1) t167 _ ?side1 ?side2 A5.out).mono ?_); (case side1 => repeat (first | exact HR166_0.out | (with_reducible refine Kd.C_alloc ?_ _) | (with_reducible refine Kd.C_drewN ?_ _) | (with_reducible refine Kd.C_drew ?_))); (case side2 => exact HC166_0.out); rintro e w' ⟨rfl, ⟨nd, rfl⟩⟩; refine ⟨_, rfl, ?_⟩))
                go_roundg k1
                case measure => have := HK1.out; omega
                case rel => exact ⟨(x3_1 ++ ((⟨#[32]⟩ : ByteArray) ++ t167)), (wrap64 (x8_1 + 1)), (by first | rfl | (simp; done) | (simp [*]; done)), (by first | rfl | (simp; done) | (simp [*]; done)), H', ⟨by have := HK1.out; omega⟩, by repeat (first | exact Drawn0.refl _ | apply Drawn0.step)⟩
              · rw [if_neg c7] at H
                exact absurd H (by simp)
            · rw [if_neg c6] at H
              exact absurd H (by simp)
          · rw [if_neg c4] at H
            exact absurd H (by simp)
        · rw [if_neg c3] at H
          exact absurd H (by simp)
      · rw [if_neg c2] at H
        have c2b0 : decide (x8_1 < (l0.length : Int)) = false := decide_eq_false c2
        clear c2
        by_cases c8 : x3_1.size + 1 ≤ 9223372036854775807
        · rw [if_pos c8] at H
          have c8b0 := eq_true c8
          have c8b1 : decide (x3_1.size + 1 ≤ 9223372036854775807) = true := decide_eq_true c8
          try have c8b2 : (9223372036854775807 < x3_1.size + 1) = False := eq_false (Nat.not_lt.2 c8)
          obtain rfl := Option.some.inj H
          go_wp2
          go_ret
          exact ⟨by first | rfl | (simp; done) | (simp [*]; done), by repeat (first | exact Drawn0.refl _ | apply Drawn0.step)⟩
        · rw [if_neg c8] at H
          exact absurd H (by simp)


end Go.Proofs.YtknldfighehplaaDoor.PFnConstraint
