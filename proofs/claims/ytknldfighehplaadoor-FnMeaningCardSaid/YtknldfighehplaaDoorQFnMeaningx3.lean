/- Contracts of functions that FnMeaning reaches, as its print has them; conditions: lengths, and the slices' cells as they were read. -/
import Derived.Test.YtknldfighehplaaDoorPFnMeaningx0
import Derived.Test.YtknldfighehplaaDoorQFnMeaningx2
namespace Go.Proofs.YtknldfighehplaaDoor.PFnMeaning
open Go.RowKit Go.Proofs.YtknldfighehplaaDoorW.PrintWords Go.Proofs.YtknldfighehplaaDoorW.PrintLast Go.Proofs.YtknldfighehplaaDoorW.PrintMore
attribute [local go_sem] max2_int min2_int max_two min_two max_three min_three max_four min_four
set_option linter.unusedVariables false
set_option linter.unusedSimpArgs false

/-! ### spec_OptionEvaluate: function 48 -/
def spec_OptionEvaluate.l0 : Nat → List ByteArray → List ByteArray → Int → Int → Option (Bool)
  | 0, _, _, _, _ => none
  | k + 1, x1, x7, x8, x9 => if x9 < x8 then (if 0 ≤ x9 then (if x9 < (x7.length : Int) then ((spec_TermEvaluate.f k (rdOf ByteArray.empty x7 x9) x1).bind fun t133 => (if t133 = true then (spec_OptionEvaluate.l0 k x1 x7 x8 (wrap64 (x9 + 1))) else (some false))) else (none)) else (none)) else (some true)
def spec_OptionEvaluate.f (k : Nat) (l0 : List ByteArray) (l1 : List ByteArray) : Option (Bool) := spec_OptionEvaluate.l0 k l1 l0 (l0.length : Int) 0
theorem spec_OptionEvaluate.mono_l : ∀ k, (∀ y0 y1 y2 y3, LeO (spec_OptionEvaluate.l0 k y0 y1 y2 y3) (spec_OptionEvaluate.l0 (k + 1) y0 y1 y2 y3))
  | 0 => fun _ _ _ _ r h => by simp [spec_OptionEvaluate.l0] at h
  | k + 1 => by
    have ih0 := spec_OptionEvaluate.mono_l k
    · intro y0 y1 y2 y3
      unfold spec_OptionEvaluate.l0
      repeat' first
      | (with_reducible exact ih0 _ _ _ _)
      | (with_reducible exact spec_TermEvaluate.mono _ _ _)
      | (with_reducible exact LeO.refl _)
      | (with_reducible exact LeO.none _)
      | (with_reducible refine LeO.ite ?_ ?_)
      | (with_reducible refine LeO.bind ?_ (fun _ => ?_))
      | exact ih0 _ _ _ _
      | exact spec_TermEvaluate.mono _ _ _
      | exact LeO.none _
      | refine LeO.ite ?_ ?_
      | refine LeO.bind ?_ (fun _ => ?_)
theorem spec_OptionEvaluate.mono : ∀ a0 a1 k, LeO (spec_OptionEvaluate.f k a0 a1) (spec_OptionEvaluate.f (k + 1) a0 a1) := by
  intro a0 a1 k
  have ih0 := spec_OptionEvaluate.mono_l k
  unfold spec_OptionEvaluate.f
  repeat' first
      | (with_reducible exact ih0 _ _ _ _)
      | (with_reducible exact spec_TermEvaluate.mono _ _ _)
      | (with_reducible exact LeO.refl _)
      | (with_reducible exact LeO.none _)
      | (with_reducible refine LeO.ite ?_ ?_)
      | (with_reducible refine LeO.bind ?_ (fun _ => ?_))
      | exact ih0 _ _ _ _
      | exact spec_TermEvaluate.mono _ _ _
      | exact LeO.none _
      | refine LeO.ite ?_ ?_
      | refine LeO.bind ?_ (fun _ => ?_)
set_option maxHeartbeats 8000000 in
set_option maxRecDepth 100000 in
theorem spec_OptionEvaluate.calls (k : Nat) (A0 : Option Addr) (c0 : Nat) (l0 : List ByteArray) (A1 : Option Addr) (c1 : Nat) (l1 : List ByteArray) (r : Bool) (w : World) (hr0 : Kd.C Kd.string w A0 l0.length l0) (hc0 : l0.length ≤ c0) (hr1 : Kd.C Kd.string w A1 l1.length l1) (hc1 : l1.length ≤ c1) (h : spec_OptionEvaluate.f k l0 l1 = some r) :
    Calls Tryd.prog 48 #[.slice A0 l0.length c0, .slice A1 l1.length c1] w fun e w' => e = .returned (.bool r) ∧ Drawn0 w w' := by
  have HR0 := Aside0.mk hr0
  have HC0 := Aside0.mk hc0
  clear hr0 hc0
  have HR1 := Aside0.mk hr1
  have HC1 := Aside0.mk hc1
  clear hr1 hc1
  have H : (spec_OptionEvaluate.l0 k l1 l0 (l0.length : Int) 0) = some r := h
  clear h
  have H' := Aside0.mk H
  clear H
  go_enter Tryd.func48, Tryd.ntmps48
  go_wp2
  go_loopg [9] k (fun kq v9 w' => ∃ (x9_1 : Int), v9 = .int .i64 x9_1 ∧ Aside0 (spec_OptionEvaluate.l0 kq l1 l0 (l0.length : Int) x9_1 = some r) ∧ Aside0 (kq ≤ k) ∧ Drawn0 w w')
  case atStart => exact ⟨(0), (by first | rfl | (simp; done) | (simp [*]; done)), H', ⟨Nat.le_refl _⟩, by repeat (first | exact Drawn0.refl _ | apply Drawn0.step)⟩
  case round =>
    clear H'
    try clear c1
    try clear p2
    obtain ⟨x9_1, rfl, HA, HK1, ⟨m1, rfl⟩⟩ := hrel
    cases gk with
    | zero => exact absurd HA.out (by simp [spec_OptionEvaluate.l0])
    | succ k1 =>
      have H := HA.out
      clear HA
      simp only [spec_OptionEvaluate.l0] at H
      by_cases c3 : x9_1 < (l0.length : Int)
      · rw [if_pos c3] at H
        have c3b0 : decide (x9_1 < (l0.length : Int)) = true := decide_eq_true c3
        clear c3
        by_cases c4 : 0 ≤ x9_1
        · rw [if_pos c4] at H
          have c4b0 : decide (0 ≤ x9_1) = true := decide_eq_true c4
          clear c4
          by_cases c5 : x9_1 < (l0.length : Int)
          · rw [if_pos c5] at H
            have c5b0 : decide (x9_1 < (l0.length : Int)) = true := decide_eq_true c5
            clear c5
            replace H := Option.bind_eq_some_iff.mp H
            obtain ⟨t133, A60, H⟩ := H
            replace H : (if t133 = true then (spec_OptionEvaluate.l0 k1 l1 l0 (l0.length : Int) (wrap64 (x9_1 + 1))) else (some false)) = some r := H
            have A6 := Aside0.mk A60
            clear A60
            by_cases c7 : t133 = true
            · subst c7
              have H1 : (spec_OptionEvaluate.l0 k1 l1 l0 (l0.length : Int) (wrap64 (x9_1 + 1))) = some r := by rw [if_pos rfl] at H; exact H
              clear H
              have H := H1
              clear H1
              have H' := Aside0.mk H
              clear H
              have p132 : 0 ≤ (x9_1 : Int) := of_decide_eq_true (by first | (with_reducible assumption) | assumption)
              have q132 : x9_1 < (l0.length : Int) := of_decide_eq_true (by first | (with_reducible assumption) | assumption)
              obtain ⟨ad132, e132, hx132_0⟩ := Kd.at_string HR0.out x9_1 p132 q132
              cases e132
              replace p132 := eq_true p132
              replace q132 := eq_true q132
              go_wp2_with (first | ((with_reducible refine gate_callee (f := 15) rfl ?_); refine goesL_ (some 15) rfl rfl Tryd.func15 (by kernel_rfl) rfl #[.string (rdOf ByteArray.empty l0 x9_1), .slice A1 l1.length c1] rfl (by (try simp only [List.map_toArray, List.map_cons, List.map_nil]); first | done | rfl | (simp only [List.length_drop, List.length_take]; rfl)) ?_; (with_reducible refine (spec_TermEvaluate.calls k1 (rdOf ByteArray.empty l0 x9_1) _ _ l1 true _ ?side1 ?side2 A6.out).mono ?_); (case side1 => repeat (first | exact HR1.out | (with_reducible refine Kd.C_alloc ?_ _) | (with_reducible refine Kd.C_drewN ?_ _) | (with_reducible refine Kd.C_drew ?_))); (case side2 => exact HC1.out); rintro e w' ⟨rfl, ⟨nd, rfl⟩⟩; refine ⟨_, rfl, ?_⟩))
              go_roundg k1
              case measure => have := HK1.out; omega
              case rel => exact ⟨(wrap64 (x9_1 + 1)), (by first | rfl | (simp; done) | (simp [*]; done)), H', ⟨by have := HK1.out; omega⟩, by repeat (first | exact Drawn0.refl _ | apply Drawn0.step)⟩
            · replace c7 := Bool.eq_false_iff.mpr c7
              subst c7
              have H1 : (some false) = some r := by rw [if_neg (show ¬ (false = true) by decide)] at H; exact H
              clear H
              have H := H1
              clear H1
              obtain rfl := Option.some.inj H
              have p132 : 0 ≤ (x9_1 : Int) := of_decide_eq_true (by first | (with_reducible assumption) | assumption)
              have q132 : x9_1 < (l0.length : Int) := of_decide_eq_true (by first | (with_reducible assumption) | assumption)
              obtain ⟨ad132, e132, hx132_0⟩ := Kd.at_string HR0.out x9_1 p132 q132
              cases e132
              replace p132 := eq_true p132
              replace q132 := eq_true q132
              go_wp2_with (first | ((with_reducible refine gate_callee (f := 15) rfl ?_); refine goesL_ (some 15) rfl rfl Tryd.func15 (by kernel_rfl) rfl #[.string (rdOf ByteArray.empty l0 x9_1), .slice A1 l1.length c1] rfl (by (try simp only [List.map_toArray, List.map_cons, List.map_nil]); first | done | rfl | (simp only [List.length_drop, List.length_take]; rfl)) ?_; (with_reducible refine (spec_TermEvaluate.calls k1 (rdOf ByteArray.empty l0 x9_1) _ _ l1 false _ ?side1 ?side2 A6.out).mono ?_); (case side1 => repeat (first | exact HR1.out | (with_reducible refine Kd.C_alloc ?_ _) | (with_reducible refine Kd.C_drewN ?_ _) | (with_reducible refine Kd.C_drew ?_))); (case side2 => exact HC1.out); rintro e w' ⟨rfl, ⟨nd, rfl⟩⟩; refine ⟨_, rfl, ?_⟩))
              go_ret
              exact ⟨by first | rfl | (simp; done) | (simp [*]; done), by repeat (first | exact Drawn0.refl _ | apply Drawn0.step)⟩
          · rw [if_neg c5] at H
            exact absurd H (by simp)
        · rw [if_neg c4] at H
          exact absurd H (by simp)
      · rw [if_neg c3] at H
        have c3b0 : decide (x9_1 < (l0.length : Int)) = false := decide_eq_false c3
        clear c3
        obtain rfl := Option.some.inj H
        go_wp2
        go_ret
        exact ⟨by first | rfl | (simp; done) | (simp [*]; done), by repeat (first | exact Drawn0.refl _ | apply Drawn0.step)⟩

/-! ### spec_ConstraintEvaluate: function 24 -/
def spec_ConstraintEvaluate.l0 : Nat → List ByteArray → List (List ByteArray) → Int → Int → Option (Bool)
  | 0, _, _, _, _ => none
  | k + 1, x1, x7, x8, x9 => if x9 < x8 then (if 0 ≤ x9 then (if x9 < (x7.length : Int) then ((spec_OptionEvaluate.f k (rd_L1 x7 x9) x1).bind fun t135 => (if t135 = true then (some true) else (spec_ConstraintEvaluate.l0 k x1 x7 x8 (wrap64 (x9 + 1))))) else (none)) else (none)) else (some false)
def spec_ConstraintEvaluate.f (k : Nat) (l0 : List (List ByteArray)) (l1 : List ByteArray) : Option (Bool) := spec_ConstraintEvaluate.l0 k l1 l0 (l0.length : Int) 0
theorem spec_ConstraintEvaluate.mono_l : ∀ k, (∀ y0 y1 y2 y3, LeO (spec_ConstraintEvaluate.l0 k y0 y1 y2 y3) (spec_ConstraintEvaluate.l0 (k + 1) y0 y1 y2 y3))
  | 0 => fun _ _ _ _ r h => by simp [spec_ConstraintEvaluate.l0] at h
  | k + 1 => by
    have ih0 := spec_ConstraintEvaluate.mono_l k
    · intro y0 y1 y2 y3
      unfold spec_ConstraintEvaluate.l0
      repeat' first
      | (with_reducible exact ih0 _ _ _ _)
      | (with_reducible exact spec_OptionEvaluate.mono _ _ _)
      | (with_reducible exact LeO.refl _)
      | (with_reducible exact LeO.none _)
      | (with_reducible refine LeO.ite ?_ ?_)
      | (with_reducible refine LeO.bind ?_ (fun _ => ?_))
      | exact ih0 _ _ _ _
      | exact spec_OptionEvaluate.mono _ _ _
      | exact LeO.none _
      | refine LeO.ite ?_ ?_
      | refine LeO.bind ?_ (fun _ => ?_)
theorem spec_ConstraintEvaluate.mono : ∀ a0 a1 k, LeO (spec_ConstraintEvaluate.f k a0 a1) (spec_ConstraintEvaluate.f (k + 1) a0 a1) := by
  intro a0 a1 k
  have ih0 := spec_ConstraintEvaluate.mono_l k
  unfold spec_ConstraintEvaluate.f
  repeat' first
      | (with_reducible exact ih0 _ _ _ _)
      | (with_reducible exact spec_OptionEvaluate.mono _ _ _)
      | (with_reducible exact LeO.refl _)
      | (with_reducible exact LeO.none _)
      | (with_reducible refine LeO.ite ?_ ?_)
      | (with_reducible refine LeO.bind ?_ (fun _ => ?_))
      | exact ih0 _ _ _ _
      | exact spec_OptionEvaluate.mono _ _ _
      | exact LeO.none _
      | refine LeO.ite ?_ ?_
      | refine LeO.bind ?_ (fun _ => ?_)
set_option maxHeartbeats 8000000 in
set_option maxRecDepth 100000 in
theorem spec_ConstraintEvaluate.calls (k : Nat) (A0 : Option Addr) (c0 : Nat) (l0 : List (List ByteArray)) (A1 : Option Addr) (c1 : Nat) (l1 : List ByteArray) (r : Bool) (w : World) (hr0 : Kd.C (Kd.slice 9 Kd.string) w A0 l0.length l0) (hc0 : l0.length ≤ c0) (hr1 : Kd.C Kd.string w A1 l1.length l1) (hc1 : l1.length ≤ c1) (h : spec_ConstraintEvaluate.f k l0 l1 = some r) :
    Calls Tryd.prog 24 #[.slice A0 l0.length c0, .slice A1 l1.length c1] w fun e w' => e = .returned (.bool r) ∧ Drawn0 w w' := by
  have HR0 := Aside0.mk hr0
  have HC0 := Aside0.mk hc0
  clear hr0 hc0
  have HR1 := Aside0.mk hr1
  have HC1 := Aside0.mk hc1
  clear hr1 hc1
  have H : (spec_ConstraintEvaluate.l0 k l1 l0 (l0.length : Int) 0) = some r := h
  clear h
  have H' := Aside0.mk H
  clear H
  go_enter Tryd.func24, Tryd.ntmps24
  go_wp2
  go_loopg [9] k (fun kq v9 w' => ∃ (x9_1 : Int), v9 = .int .i64 x9_1 ∧ Aside0 (spec_ConstraintEvaluate.l0 kq l1 l0 (l0.length : Int) x9_1 = some r) ∧ Aside0 (kq ≤ k) ∧ Drawn0 w w')
  case atStart => exact ⟨(0), (by first | rfl | (simp; done) | (simp [*]; done)), H', ⟨Nat.le_refl _⟩, by repeat (first | exact Drawn0.refl _ | apply Drawn0.step)⟩
  case round =>
    clear H'
    try clear c1
    try clear c2
    try clear p2
    obtain ⟨x9_1, rfl, HA, HK1, ⟨m1, rfl⟩⟩ := hrel
    cases gk with
    | zero => exact absurd HA.out (by simp [spec_ConstraintEvaluate.l0])
    | succ k1 =>
      have H := HA.out
      clear HA
      simp only [spec_ConstraintEvaluate.l0] at H
      by_cases c3 : x9_1 < (l0.length : Int)
      · rw [if_pos c3] at H
        have c3b0 : decide (x9_1 < (l0.length : Int)) = true := decide_eq_true c3
        clear c3
        by_cases c4 : 0 ≤ x9_1
        · rw [if_pos c4] at H
          have c4b0 : decide (0 ≤ x9_1) = true := decide_eq_true c4
          clear c4
          by_cases c5 : x9_1 < (l0.length : Int)
          · rw [if_pos c5] at H
            have c5b0 : decide (x9_1 < (l0.length : Int)) = true := decide_eq_true c5
            clear c5
            replace H := Option.bind_eq_some_iff.mp H
            obtain ⟨t135, A60, H⟩ := H
            replace H : (if t135 = true then (some true) else (spec_ConstraintEvaluate.l0 k1 l1 l0 (l0.length : Int) (wrap64 (x9_1 + 1)))) = some r := H
            have A6 := Aside0.mk A60
            clear A60
            by_cases c7 : t135 = true
            · subst c7
              have H1 : (some true) = some r := by rw [if_pos rfl] at H; exact H
              clear H
              have H := H1
              clear H1
              obtain rfl := Option.some.inj H
              have p134 : 0 ≤ (x9_1 : Int) := of_decide_eq_true (by first | (with_reducible assumption) | assumption)
              have q134 : x9_1 < (l0.length : Int) := of_decide_eq_true (by first | (with_reducible assumption) | assumption)
              obtain ⟨ad134, A134_0, c134_0, e134, hx134_0, hl134_0, hi134_0⟩ := at_L1 HR0.out x9_1 p134 q134
              cases e134
              have HR134_0 := Aside0.mk hi134_0
              have HC134_0 := Aside0.mk hl134_0
              clear hi134_0 hl134_0
              replace p134 := eq_true p134
              replace q134 := eq_true q134
              go_wp2_with (first | ((with_reducible refine gate_callee (f := 48) rfl ?_); refine goesL_ (some 15) rfl rfl Tryd.func48 (by kernel_rfl) rfl #[.slice A134_0 (rd_L1 l0 x9_1).length c134_0, .slice A1 l1.length c1] rfl (by (try simp only [List.map_toArray, List.map_cons, List.map_nil]); first | done | rfl | (simp only [List.length_drop, List.length_take]; rfl)) ?_; (with_reducible refine (spec_OptionEvaluate.calls k1 _ _ (rd_L1 l0 x9_1) _ _ l1 true _ ?side1 ?side2 ?side3 ?side4 A6.out).mono ?_); (case side1 => repeat (first | exact HR134_0.out | (with_reducible refine Kd.C_alloc ?_ _) | (with_reducible refine Kd.C_drewN ?_ _) | (with_reducible refine Kd.C_drew ?_))); (case side2 => exact HC134_0.out); (case side3 => repeat (first | exact HR1.out | (with_reducible refine Kd.C_alloc ?_ _) | (with_reducible refine Kd.C_drewN ?_ _) | (with_reducible refine Kd.C_drew ?_))); (case side4 => exact HC1.out); rintro e w' ⟨rfl, ⟨nd, rfl⟩⟩; refine ⟨_, rfl, ?_⟩))
              go_ret
              exact ⟨by first | rfl | (simp; done) | (simp [*]; done), by repeat (first | exact Drawn0.refl _ | apply Drawn0.step)⟩
            · replace c7 := Bool.eq_false_iff.mpr c7
              subst c7
              have H1 : (spec_ConstraintEvaluate.l0 k1 l1 l0 (l0.length : Int) (wrap64 (x9_1 + 1))) = some r := by rw [if_neg (show ¬ (false = true) by decide)] at H; exact H
              clear H
              have H := H1
              clear H1
              have H' := Aside0.mk H
              clear H
              have p134 : 0 ≤ (x9_1 : Int) := of_decide_eq_true (by first | (with_reducible assumption) | assumption)
              have q134 : x9_1 < (l0.length : Int) := of_decide_eq_true (by first | (with_reducible assumption) | assumption)
              obtain ⟨ad134, A134_0, c134_0, e134, hx134_0, hl134_0, hi134_0⟩ := at_L1 HR0.out x9_1 p134 q134
              cases e134
              have HR134_0 := Aside0.mk hi134_0
              have HC134_0 := Aside0.mk hl134_0
              clear hi134_0 hl134_0
              replace p134 := eq_true p134
              replace q134 := eq_true q134
              go_wp2_with (first | ((with_reducible refine gate_callee (f := 48) rfl ?_); refine goesL_ (some 15) rfl rfl Tryd.func48 (by kernel_rfl) rfl #[.slice A134_0 (rd_L1 l0 x9_1).length c134_0, .slice A1 l1.length c1] rfl (by (try simp only [List.map_toArray, List.map_cons, List.map_nil]); first | done | rfl | (simp only [List.length_drop, List.length_take]; rfl)) ?_; (with_reducible refine (spec_OptionEvaluate.calls k1 _ _ (rd_L1 l0 x9_1) _ _ l1 false _ ?side1 ?side2 ?side3 ?side4 A6.out).mono ?_); (case side1 => repeat (first | exact HR134_0.out | (with_reducible refine Kd.C_alloc ?_ _) | (with_reducible refine Kd.C_drewN ?_ _) | (with_reducible refine Kd.C_drew ?_))); (case side2 => exact HC134_0.out); (case side3 => repeat (first | exact HR1.out | (with_reducible refine Kd.C_alloc ?_ _) | (with_reducible refine Kd.C_drewN ?_ _) | (with_reducible refine Kd.C_drew ?_))); (case side4 => exact HC1.out); rintro e w' ⟨rfl, ⟨nd, rfl⟩⟩; refine ⟨_, rfl, ?_⟩))
              go_roundg k1
              case measure => have := HK1.out; omega
              case rel => exact ⟨(wrap64 (x9_1 + 1)), (by first | rfl | (simp; done) | (simp [*]; done)), H', ⟨by have := HK1.out; omega⟩, by repeat (first | exact Drawn0.refl _ | apply Drawn0.step)⟩
          · rw [if_neg c5] at H
            exact absurd H (by simp)
        · rw [if_neg c4] at H
          exact absurd H (by simp)
      · rw [if_neg c3] at H
        have c3b0 : decide (x9_1 < (l0.length : Int)) = false := decide_eq_false c3
        clear c3
        obtain rfl := Option.some.inj H
        go_wp2
        go_ret
        exact ⟨by first | rfl | (simp; done) | (simp [*]; done), by repeat (first | exact Drawn0.refl _ | apply Drawn0.step)⟩

/-! ### impl_plainOption: function 41 -/
def impl_plainOption.l0 : Nat → List ByteArray → List ByteArray → Int → Int → Option (List ByteArray)
  | 0, _, _, _, _ => none
  | k + 1, x3, x6, x7, x8 => if x8 < x7 then (if 0 ≤ x8 then (if x8 < (x6.length : Int) then (if x3.length < 8796093022208 then (impl_plainOption.l0 k (x3 ++ [rdOf ByteArray.empty x6 x8]) x6 x7 (wrap64 (x8 + 1))) else (none)) else (none)) else (none)) else (some x3)
def impl_plainOption.f (k : Nat) (l0 : List ByteArray) : Option (List ByteArray) := impl_plainOption.l0 k ([] : List ByteArray) l0 (l0.length : Int) 0
theorem impl_plainOption.mono_l : ∀ k, (∀ y0 y1 y2 y3, LeO (impl_plainOption.l0 k y0 y1 y2 y3) (impl_plainOption.l0 (k + 1) y0 y1 y2 y3))
  | 0 => fun _ _ _ _ r h => by simp [impl_plainOption.l0] at h
  | k + 1 => by
    have ih0 := impl_plainOption.mono_l k
    · intro y0 y1 y2 y3
      unfold impl_plainOption.l0
      repeat' first
      | (with_reducible exact ih0 _ _ _ _)
      | (with_reducible exact LeO.refl _)
      | (with_reducible exact LeO.none _)
      | (with_reducible refine LeO.ite ?_ ?_)
      | (with_reducible refine LeO.bind ?_ (fun _ => ?_))
      | exact ih0 _ _ _ _
      | exact LeO.none _
      | refine LeO.ite ?_ ?_
      | refine LeO.bind ?_ (fun _ => ?_)
theorem impl_plainOption.mono : ∀ a0 k, LeO (impl_plainOption.f k a0) (impl_plainOption.f (k + 1) a0) := by
  intro a0 k
  have ih0 := impl_plainOption.mono_l k
  unfold impl_plainOption.f
  repeat' first
      | (with_reducible exact ih0 _ _ _ _)
      | (with_reducible exact LeO.refl _)
      | (with_reducible exact LeO.none _)
      | (with_reducible refine LeO.ite ?_ ?_)
      | (with_reducible refine LeO.bind ?_ (fun _ => ?_))
      | exact ih0 _ _ _ _
      | exact LeO.none _
      | refine LeO.ite ?_ ?_
      | refine LeO.bind ?_ (fun _ => ?_)
set_option maxHeartbeats 8000000 in
set_option maxRecDepth 100000 in
theorem impl_plainOption.calls (k : Nat) (A0 : Option Addr) (c0 : Nat) (l0 : List ByteArray) (r : List ByteArray) (w : World) (hr0 : Kd.C Kd.string w A0 l0.length l0) (hc0 : l0.length ≤ c0) (h : impl_plainOption.f k l0 = some r) :
    Calls Tryd.prog 41 #[.slice A0 l0.length c0] w fun e w' => ∃ v0_ : Value, e = .returned (v0_) ∧ Kd.R Kd.string 9 w' w.heap.size (fun _ => True) v0_ r ∧ Below w.heap.size w w' := by
  have HR0 := Aside0.mk hr0
  have HC0 := Aside0.mk hc0
  clear hr0 hc0
  have HB := Aside0.mk (Below.refl w.heap.size w)
  have H : (impl_plainOption.l0 k ([] : List ByteArray) l0 (l0.length : Int) 0) = some r := h
  clear h
  have H' := Aside0.mk H
  clear H
  go_enter Tryd.func41, Tryd.ntmps41
  go_wp2
  go_loopg [3, 8] k (fun kq v3 v8 w' => ∃ (x3_1 : List ByteArray) (x8_1 : Int), v8 = .int .i64 x8_1 ∧ Aside0 (impl_plainOption.l0 kq x3_1 l0 (l0.length : Int) x8_1 = some r) ∧ Aside0 (kq ≤ k) ∧ Aside0 (Kd.R Kd.string 9 w' w.heap.size (fun _ => True) v3 x3_1) ∧ Aside0 (Below w.heap.size w w'))
  case atStart => exact ⟨(([] : List ByteArray)), (0), (by first | rfl | (simp; done) | (simp [*]; done)), H', ⟨Nat.le_refl _⟩, ⟨by first | exact Kd.R_nil _ _ _ _ _ | exact Kd.N_nil _ _ _ _ _ | exact Kd.V_nil _ _ _ _ _ | exact Kd.Q_nil _ _ _ _ _ | exact Kd.S_nil _ _ _ _ _⟩, ⟨by repeat (first | (with_reducible first | exact HB.out | apply below_alloc | apply pw_below_drewN | apply below_drew1) | exact HB.out)⟩⟩
  case round =>
    clear H'
    obtain ⟨x3_1, x8_1, rfl, HA, HK1, HO_3, HB⟩ := hrel
    cases gk with
    | zero => exact absurd HA.out (by simp [impl_plainOption.l0])
    | succ k1 =>
      have H := HA.out
      clear HA
      simp only [impl_plainOption.l0] at H
      by_cases c2 : x8_1 < (l0.length : Int)
      · rw [if_pos c2] at H
        have c2b0 : decide (x8_1 < (l0.length : Int)) = true := decide_eq_true c2
        clear c2
        by_cases c3 : 0 ≤ x8_1
        · rw [if_pos c3] at H
          have c3b0 : decide (0 ≤ x8_1) = true := decide_eq_true c3
          clear c3
          by_cases c4 : x8_1 < (l0.length : Int)
          · rw [if_pos c4] at H
            have c4b0 : decide (x8_1 < (l0.length : Int)) = true := decide_eq_true c4
            clear c4
            by_cases c5 : x3_1.length < 8796093022208
            · rw [if_pos c5] at H
              have LMc5 := Aside0.mk c5
              clear c5
              obtain ⟨y137, hy137⟩ : ∃ y_ : List ByteArray, y_ = (x3_1 ++ [rdOf ByteArray.empty l0 x8_1]) := ⟨_, rfl⟩
              replace H : (impl_plainOption.l0 k1 y137 l0 (l0.length : Int) (wrap64 (x8_1 + 1))) = some r := by first | (rw [hy137]; with_reducible exact H) | (have H2_ := (Option.bind_some _ _).symm.trans H; rw [hy137]; with_reducible exact H2_) | (have H2_ := (Option.bind_some _ _).symm.trans H; with_reducible exact H2_) | with_reducible exact H | (rw [hy137]; exact H) | exact H
              have Ny137 := Aside0.mk hy137
              clear hy137
              have H' := Aside0.mk H
              clear H
              have p136 : 0 ≤ (x8_1 : Int) := of_decide_eq_true (by first | (with_reducible assumption) | assumption)
              have q136 : x8_1 < (l0.length : Int) := of_decide_eq_true (by first | (with_reducible assumption) | assumption)
              obtain ⟨ad136, e136, hx136_0⟩ := Kd.at_string HR0.out x8_1 p136 q136
              cases e136
              replace hx136_0 := (HB.out.cell (World.block_lt_of_cell? w _ hx136_0)).trans hx136_0
              replace p136 := eq_true p136
              replace q136 := eq_true q136
              go_wp2_with (first | ((with_reducible refine gate_builtin (b := .append) (xs := #[.tmp 12, .tmp 14]) rfl ?_); at_builtin; refine Kd.R_append Kd.string (w0 := w) w.heap.size rfl (.tmp 12) (.tmp 14) 22 9 (.string ⟨#[]⟩) 16 rfl Tryd.underlying22 info9 rfl (by decide) (by omega) u3 x3_1 (rdOf ByteArray.empty l0 x8_1) [.string (rdOf ByteArray.empty l0 x8_1)] (fun _ => True) (fun _ => False) rfl rfl ?aP (fun _ hk => hk.elim) ?aF ?aO ?aB ?aS ?aL ?_; (case aP => exact rfl); (case aB => exact (by repeat (first | (with_reducible first | exact HB.out | apply below_alloc | apply pw_below_drewN | apply below_drew1) | exact HB.out))); (case aF => exact (fun _ _ => trivial)); (case aO => exact (by (with_reducible repeat (first | apply Kd.R_alloc | apply Kd.R_drewN | apply Kd.R_drew)); exact HO_3.out)); (case aS => exact (below_size (by repeat (first | (with_reducible first | exact HB.out | apply below_alloc | apply pw_below_drewN | apply below_drew1) | exact HB.out)))); (case aL => have := LMc5.out; omega); intro v138 w6 ho hb hg hat; rw [← Ny137.out] at ho; have n0_ := Aside0.mk (hb); have n1_ := Aside0.mk (ho); clear HB; clear HO_3; have HB := n0_; have HO139 := n1_; clear n0_ n1_; clear ho hb hg hat))
              go_roundg k1
              case measure => have := HK1.out; omega
              case rel => exact ⟨(y137), (wrap64 (x8_1 + 1)), (by first | rfl | (simp; done) | (simp [*]; done)), H', ⟨by have := HK1.out; omega⟩, ⟨by (with_reducible repeat (first | apply Kd.R_alloc | apply Kd.R_drewN | apply Kd.R_drew)); exact HO139.out⟩, ⟨by repeat (first | (with_reducible first | exact HB.out | apply below_alloc | apply pw_below_drewN | apply below_drew1) | exact HB.out)⟩⟩
            · rw [if_neg c5] at H
              exact absurd H (by simp)
          · rw [if_neg c4] at H
            exact absurd H (by simp)
        · rw [if_neg c3] at H
          exact absurd H (by simp)
      · rw [if_neg c2] at H
        have c2b0 : decide (x8_1 < (l0.length : Int)) = false := decide_eq_false c2
        clear c2
        obtain rfl := Option.some.inj H
        go_wp2
        go_ret
        exact ⟨_, by first | rfl | (simp [errW_none, errW_some] <;> rfl) | (simp [*, errW_none, errW_some] <;> rfl), by (with_reducible repeat (first | apply Kd.R_alloc | apply Kd.R_drewN | apply Kd.R_drew)); exact HO_3.out, by repeat (first | (with_reducible first | exact HB.out | apply below_alloc | apply pw_below_drewN | apply below_drew1) | exact HB.out)⟩

/-! ### buildtags_zzIndex: function 71 -/
def buildtags_zzIndex.l0 : Nat → ByteArray → ByteArray → Int → Option (Int)
  | 0, _, _, _ => none
  | k + 1, x0, x1, x5 => if (wrap64 (x5 + (x1.size : Int))) ≤ (x0.size : Int) then (if 0 ≤ x5 then (if x5 ≤ (wrap64 (x5 + (x1.size : Int))) then (if (x0.extract (x5 : Int).toNat ((wrap64 (x5 + (x1.size : Int))) : Int).toNat).toList = x1.toList then (some x5) else (buildtags_zzIndex.l0 k x0 x1 (wrap64 (x5 + 1)))) else (none)) else (none)) else (some (-1))
def buildtags_zzIndex.f (k : Nat) (a0 : ByteArray) (a1 : ByteArray) : Option (Int) := buildtags_zzIndex.l0 k a0 a1 0
theorem buildtags_zzIndex.mono_l : ∀ k, (∀ y0 y1 y2, LeO (buildtags_zzIndex.l0 k y0 y1 y2) (buildtags_zzIndex.l0 (k + 1) y0 y1 y2))
  | 0 => fun _ _ _ r h => by simp [buildtags_zzIndex.l0] at h
  | k + 1 => by
    have ih0 := buildtags_zzIndex.mono_l k
    · intro y0 y1 y2
      unfold buildtags_zzIndex.l0
      repeat' first
      | (with_reducible exact ih0 _ _ _)
      | (with_reducible exact LeO.refl _)
      | (with_reducible exact LeO.none _)
      | (with_reducible refine LeO.ite ?_ ?_)
      | (with_reducible refine LeO.bind ?_ (fun _ => ?_))
      | exact ih0 _ _ _
      | exact LeO.none _
      | refine LeO.ite ?_ ?_
      | refine LeO.bind ?_ (fun _ => ?_)
theorem buildtags_zzIndex.mono : ∀ a0 a1 k, LeO (buildtags_zzIndex.f k a0 a1) (buildtags_zzIndex.f (k + 1) a0 a1) := by
  intro a0 a1 k
  have ih0 := buildtags_zzIndex.mono_l k
  unfold buildtags_zzIndex.f
  repeat' first
      | (with_reducible exact ih0 _ _ _)
      | (with_reducible exact LeO.refl _)
      | (with_reducible exact LeO.none _)
      | (with_reducible refine LeO.ite ?_ ?_)
      | (with_reducible refine LeO.bind ?_ (fun _ => ?_))
      | exact ih0 _ _ _
      | exact LeO.none _
      | refine LeO.ite ?_ ?_
      | refine LeO.bind ?_ (fun _ => ?_)
set_option maxHeartbeats 8000000 in
set_option maxRecDepth 100000 in
theorem buildtags_zzIndex.calls (k : Nat) (a0 : ByteArray) (a1 : ByteArray) (r : Int) (w : World) (h : buildtags_zzIndex.f k a0 a1 = some r) :
    Calls Tryd.prog 71 #[.string a0, .string a1] w fun e w' => e = .returned (.int .i64 r) ∧ Drawn0 w w' := by
  have H : (buildtags_zzIndex.l0 k a0 a1 0) = some r := h
  clear h
  have H' := Aside0.mk H
  clear H
  go_enter Tryd.func71, Tryd.ntmps71
  go_wp2
  go_loopg [5] k (fun kq v5 w' => ∃ (x5_1 : Int), v5 = .int .i64 x5_1 ∧ Aside0 (buildtags_zzIndex.l0 kq a0 a1 x5_1 = some r) ∧ Aside0 (kq ≤ k) ∧ Drawn0 w w')
  case atStart => exact ⟨(0), (by first | rfl | (simp; done) | (simp [*]; done)), H', ⟨Nat.le_refl _⟩, by repeat (first | exact Drawn0.refl _ | apply Drawn0.step)⟩
  case round =>
    clear H'
    try clear p2
    obtain ⟨x5_1, rfl, HA, HK1, ⟨m1, rfl⟩⟩ := hrel
    cases gk with
    | zero => exact absurd HA.out (by simp [buildtags_zzIndex.l0])
    | succ k1 =>
      have H := HA.out
      clear HA
      simp only [buildtags_zzIndex.l0] at H
      by_cases c3 : (wrap64 (x5_1 + (a1.size : Int))) ≤ (a0.size : Int)
      · rw [if_pos c3] at H
        have c3b0 : decide ((wrap64 (x5_1 + (a1.size : Int))) ≤ (a0.size : Int)) = true := decide_eq_true c3
        clear c3
        by_cases c4 : 0 ≤ x5_1
        · rw [if_pos c4] at H
          have c4b0 := eq_true c4
          have c4b1 : decide (0 ≤ x5_1) = true := decide_eq_true c4
          clear c4
          by_cases c5 : x5_1 ≤ (wrap64 (x5_1 + (a1.size : Int)))
          · rw [if_pos c5] at H
            have c5b0 := eq_true c5
            have c5b1 : decide (x5_1 ≤ (wrap64 (x5_1 + (a1.size : Int)))) = true := decide_eq_true c5
            have c6b0 := eq_true (of_decide_eq_true (by first | (with_reducible assumption) | assumption) : (wrap64 (x5_1 + (a1.size : Int))) ≤ (a0.size : Int))
            by_cases c7 : (a0.extract (x5_1 : Int).toNat ((wrap64 (x5_1 + (a1.size : Int))) : Int).toNat).toList = a1.toList
            · rw [if_pos c7] at H
              have c7b0 : ((a0.extract (x5_1 : Int).toNat ((wrap64 (x5_1 + (a1.size : Int))) : Int).toNat).toList == a1.toList) = true := beq_iff_eq.mpr c7
              have c7b1 : ((a0.extract (x5_1 : Int).toNat ((wrap64 (x5_1 + (a1.size : Int))) : Int).toNat).toList != a1.toList) = false := bne_eq_false_iff_eq.mpr c7
              clear c7
              obtain rfl := Option.some.inj H
              go_wp2
              go_ret
              exact ⟨by first | rfl | (simp; done) | (simp [*]; done), by repeat (first | exact Drawn0.refl _ | apply Drawn0.step)⟩
            · rw [if_neg c7] at H
              have c7b0 : ((a0.extract (x5_1 : Int).toNat ((wrap64 (x5_1 + (a1.size : Int))) : Int).toNat).toList == a1.toList) = false := beq_eq_false_iff_ne.mpr c7
              have c7b1 : ((a0.extract (x5_1 : Int).toNat ((wrap64 (x5_1 + (a1.size : Int))) : Int).toNat).toList != a1.toList) = true := bne_iff_ne.mpr c7
              have H' := Aside0.mk H
              clear H
              go_wp2
              go_roundg k1
              case measure => have := HK1.out; omega
              case rel => exact ⟨(wrap64 (x5_1 + 1)), (by first | rfl | (simp; done) | (simp [*]; done)), H', ⟨by have := HK1.out; omega⟩, by repeat (first | exact Drawn0.refl _ | apply Drawn0.step)⟩
          · rw [if_neg c5] at H
            exact absurd H (by simp)
        · rw [if_neg c4] at H
          exact absurd H (by simp)
      · rw [if_neg c3] at H
        have c3b0 : decide ((wrap64 (x5_1 + (a1.size : Int))) ≤ (a0.size : Int)) = false := decide_eq_false c3
        clear c3
        obtain rfl := Option.some.inj H
        go_wp2
        go_ret
        exact ⟨by first | rfl | (simp; done) | (simp [*]; done), by repeat (first | exact Drawn0.refl _ | apply Drawn0.step)⟩









/-! ### spec_tagsCommas: function 42 -/
def spec_tagsCommas.l0 : Nat → ByteArray → List ByteArray → ByteArray → Int → Option (List ByteArray)
  | 0, _, _, _, _ => none
  | k + 1, x0, x3, x4, x5 => if x5 < (x0.size : Int) then (if 0 ≤ x5 then (if (bt x0 x5) = 44 then (if x3.length < 8796093022208 then (spec_tagsCommas.l0 k x0 (x3 ++ [x4]) (⟨#[]⟩ : ByteArray) (wrap64 (x5 + 1))) else (none)) else (if x5 ≤ (wrap64 (x5 + 1)) then (if (wrap64 (x5 + 1)) ≤ (x0.size : Int) then (if x4.size + (x0.extract (x5 : Int).toNat ((wrap64 (x5 + 1)) : Int).toNat).size ≤ 9223372036854775807 then (spec_tagsCommas.l0 k x0 x3 (x4 ++ (x0.extract (x5 : Int).toNat ((wrap64 (x5 + 1)) : Int).toNat)) (wrap64 (x5 + 1))) else (none)) else (none)) else (none))) else (none)) else (if x3.length < 8796093022208 then (some (x3 ++ [x4])) else (none))
def spec_tagsCommas.f (k : Nat) (a0 : ByteArray) : Option (List ByteArray) := spec_tagsCommas.l0 k a0 ([] : List ByteArray) (⟨#[]⟩ : ByteArray) 0
theorem spec_tagsCommas.mono_l : ∀ k, (∀ y0 y1 y2 y3, LeO (spec_tagsCommas.l0 k y0 y1 y2 y3) (spec_tagsCommas.l0 (k + 1) y0 y1 y2 y3))
  | 0 => fun _ _ _ _ r h => by simp [spec_tagsCommas.l0] at h
  | k + 1 => by
    have ih0 := spec_tagsCommas.mono_l k
    · intro y0 y1 y2 y3
      unfold spec_tagsCommas.l0
      repeat' first
      | (with_reducible exact ih0 _ _ _ _)
      | (with_reducible exact LeO.refl _)
      | (with_reducible exact LeO.none _)
      | (with_reducible refine LeO.ite ?_ ?_)
      | (with_reducible refine LeO.bind ?_ (fun _ => ?_))
      | exact ih0 _ _ _ _
      | exact LeO.none _
      | refine LeO.ite ?_ ?_
      | refine LeO.bind ?_ (fun _ => ?_)
theorem spec_tagsCommas.mono : ∀ a0 k, LeO (spec_tagsCommas.f k a0) (spec_tagsCommas.f (k + 1) a0) := by
  intro a0 k
  have ih0 := spec_tagsCommas.mono_l k
  unfold spec_tagsCommas.f
  repeat' first
      | (with_reducible exact ih0 _ _ _ _)
      | (with_reducible exact LeO.refl _)
      | (with_reducible exact LeO.none _)
      | (with_reducible refine LeO.ite ?_ ?_)
      | (with_reducible refine LeO.bind ?_ (fun _ => ?_))
      | exact ih0 _ _ _ _
      | exact LeO.none _
      | refine LeO.ite ?_ ?_
      | refine LeO.bind ?_ (fun _ => ?_)
set_option maxHeartbeats 8000000 in
set_option maxRecDepth 100000 in
theorem spec_tagsCommas.calls (k : Nat) (a0 : ByteArray) (r : List ByteArray) (w : World) (h : spec_tagsCommas.f k a0 = some r) :
    Calls Tryd.prog 42 #[.string a0] w fun e w' => ∃ v0_ : Value, e = .returned (v0_) ∧ Kd.R Kd.string 9 w' w.heap.size (fun _ => True) v0_ r ∧ Below w.heap.size w w' := by
  have HB := Aside0.mk (Below.refl w.heap.size w)
  have H : (spec_tagsCommas.l0 k a0 ([] : List ByteArray) (⟨#[]⟩ : ByteArray) 0) = some r := h
  clear h
  have H' := Aside0.mk H
  clear H
  go_enter Tryd.func42, Tryd.ntmps42
  go_wp2
  go_loopg [3, 4, 5] k (fun kq v3 v4 v5 w' => ∃ (x3_1 : List ByteArray) (x4_1 : ByteArray) (x5_1 : Int), v4 = .string x4_1 ∧ v5 = .int .i64 x5_1 ∧ Aside0 (spec_tagsCommas.l0 kq a0 x3_1 x4_1 x5_1 = some r) ∧ Aside0 (kq ≤ k) ∧ Aside0 (Kd.R Kd.string 9 w' w.heap.size (fun _ => True) v3 x3_1) ∧ Aside0 (Below w.heap.size w w'))
  case atStart => exact ⟨(([] : List ByteArray)), ((⟨#[]⟩ : ByteArray)), (0), (by first | rfl | (simp; done) | (simp [*]; done)), (by first | rfl | (simp; done) | (simp [*]; done)), H', ⟨Nat.le_refl _⟩, ⟨by first | exact Kd.R_nil _ _ _ _ _ | exact Kd.N_nil _ _ _ _ _ | exact Kd.V_nil _ _ _ _ _ | exact Kd.Q_nil _ _ _ _ _ | exact Kd.S_nil _ _ _ _ _⟩, ⟨by repeat (first | (with_reducible first | exact HB.out | apply below_alloc | apply pw_below_drewN | apply below_drew1) | exact HB.out)⟩⟩
  case round =>
    clear H'
    obtain ⟨x3_1, x4_1, x5_1, rfl, rfl, HA, HK1, HO_3, HB⟩ := hrel
    cases gk with
    | zero => exact absurd HA.out (by simp [spec_tagsCommas.l0])
    | succ k1 =>
      have H := HA.out
      clear HA
      simp only [spec_tagsCommas.l0] at H
      by_cases c2 : x5_1 < (a0.size : Int)
      · rw [if_pos c2] at H
        have c2b0 : decide (x5_1 < (a0.size : Int)) = true := decide_eq_true c2
        clear c2
        by_cases c3 : 0 ≤ x5_1
        · rw [if_pos c3] at H
          have c3b0 : decide (0 ≤ x5_1) = true := decide_eq_true c3
          clear c3
          by_cases c5 : (bt a0 x5_1) = 44
          · rw [if_pos c5] at H
            have c5b0 : ((bt a0 x5_1) == 44) = true := beq_iff_eq.mpr c5
            have c5b1 : ((bt a0 x5_1) != 44) = false := bne_eq_false_iff_eq.mpr c5
            clear c5
            by_cases c6 : x3_1.length < 8796093022208
            · rw [if_pos c6] at H
              have LMc6 := Aside0.mk c6
              clear c6
              obtain ⟨y147, hy147⟩ : ∃ y_ : List ByteArray, y_ = (x3_1 ++ [x4_1]) := ⟨_, rfl⟩
              replace H : (spec_tagsCommas.l0 k1 a0 y147 (⟨#[]⟩ : ByteArray) (wrap64 (x5_1 + 1))) = some r := by first | (rw [hy147]; with_reducible exact H) | (have H2_ := (Option.bind_some _ _).symm.trans H; rw [hy147]; with_reducible exact H2_) | (have H2_ := (Option.bind_some _ _).symm.trans H; with_reducible exact H2_) | with_reducible exact H | (rw [hy147]; exact H) | exact H
              have Ny147 := Aside0.mk hy147
              clear hy147
              have H' := Aside0.mk H
              clear H
              have p4 : 0 ≤ (x5_1 : Int) := of_decide_eq_true (by first | (with_reducible assumption) | assumption)
              have q4 : x5_1 < (a0.size : Int) := of_decide_eq_true (by first | (with_reducible assumption) | assumption)
              have hx4 := bt_at a0 x5_1
              replace p4 := eq_true p4
              replace q4 := eq_true q4
              go_wp2_with (first | ((with_reducible refine gate_builtin (b := .append) (xs := #[.tmp 16, .tmp 18]) rfl ?_); at_builtin; refine Kd.R_append Kd.string (w0 := w) w.heap.size rfl (.tmp 16) (.tmp 18) 22 9 (.string ⟨#[]⟩) 16 rfl Tryd.underlying22 info9 rfl (by decide) (by omega) u3 x3_1 x4_1 [.string x4_1] (fun _ => True) (fun _ => False) rfl rfl ?aP (fun _ hk => hk.elim) ?aF ?aO ?aB ?aS ?aL ?_; (case aP => exact rfl); (case aB => exact (by repeat (first | (with_reducible first | exact HB.out | apply below_alloc | apply pw_below_drewN | apply below_drew1) | exact HB.out))); (case aF => exact (fun _ _ => trivial)); (case aO => exact (by (with_reducible repeat (first | apply Kd.R_alloc | apply Kd.R_drewN | apply Kd.R_drew)); exact HO_3.out)); (case aS => exact (below_size (by repeat (first | (with_reducible first | exact HB.out | apply below_alloc | apply pw_below_drewN | apply below_drew1) | exact HB.out)))); (case aL => have := LMc6.out; omega); intro v148 w7 ho hb hg hat; rw [← Ny147.out] at ho; have n0_ := Aside0.mk (hb); have n1_ := Aside0.mk (ho); clear HB; clear HO_3; have HB := n0_; have HO149 := n1_; clear n0_ n1_; clear ho hb hg hat))
              go_roundg k1
              case measure => have := HK1.out; omega
              case rel => exact ⟨(y147), ((⟨#[]⟩ : ByteArray)), (wrap64 (x5_1 + 1)), (by first | rfl | (simp; done) | (simp [*]; done)), (by first | rfl | (simp; done) | (simp [*]; done)), H', ⟨by have := HK1.out; omega⟩, ⟨by (with_reducible repeat (first | apply Kd.R_alloc | apply Kd.R_drewN | apply Kd.R_drew)); exact HO149.out⟩, ⟨by repeat (first | (with_reducible first | exact HB.out | apply below_alloc | apply pw_below_drewN | apply below_drew1) | exact HB.out)⟩⟩
            · rw [if_neg c6] at H
              exact absurd H (by simp)
          · rw [if_neg c5] at H
            have c5b0 : ((bt a0 x5_1) == 44) = false := beq_eq_false_iff_ne.mpr c5
            have c5b1 : ((bt a0 x5_1) != 44) = true := bne_iff_ne.mpr c5
            have c8b0 := eq_true (of_decide_eq_true (by first | (with_reducible assumption) | assumption) : 0 ≤ x5_1)
            by_cases c9 : x5_1 ≤ (wrap64 (x5_1 + 1))
            · rw [if_pos c9] at H
              have c9b0 := eq_true c9
              have c9b1 : decide (x5_1 ≤ (wrap64 (x5_1 + 1))) = true := decide_eq_true c9
              by_cases c10 : (wrap64 (x5_1 + 1)) ≤ (a0.size : Int)
              · rw [if_pos c10] at H
                have c10b0 := eq_true c10
                have c10b1 : decide ((wrap64 (x5_1 + 1)) ≤ (a0.size : Int)) = true := decide_eq_true c10
                by_cases c11 : x4_1.size + (a0.extract (x5_1 : Int).toNat ((wrap64 (x5_1 + 1)) : Int).toNat).size ≤ 9223372036854775807
                · rw [if_pos c11] at H
                  have c11b0 := eq_true c11
                  have c11b1 : decide (x4_1.size + (a0.extract (x5_1 : Int).toNat ((wrap64 (x5_1 + 1)) : Int).toNat).size ≤ 9223372036854775807) = true := decide_eq_true c11
                  try have c11b2 : (9223372036854775807 < x4_1.size + (a0.extract (x5_1 : Int).toNat ((wrap64 (x5_1 + 1)) : Int).toNat).size) = False := eq_false (Nat.not_lt.2 c11)
                  have H' := Aside0.mk H
                  clear H
                  have p4 : 0 ≤ (x5_1 : Int) := of_decide_eq_true (by first | (with_reducible assumption) | assumption)
                  have q4 : x5_1 < (a0.size : Int) := of_decide_eq_true (by first | (with_reducible assumption) | assumption)
                  have hx4 := bt_at a0 x5_1
                  replace p4 := eq_true p4
                  replace q4 := eq_true q4
                  go_wp2
                  go_roundg k1
                  case measure => have := HK1.out; omega
                  case rel => exact ⟨(x3_1), (x4_1 ++ (a0.extract (x5_1 : Int).toNat ((wrap64 (x5_1 + 1)) : Int).toNat)), (wrap64 (x5_1 + 1)), (by first | rfl | (simp; done) | (simp [*]; done)), (by first | rfl | (simp; done) | (simp [*]; done)), H', ⟨by have := HK1.out; omega⟩, ⟨by (with_reducible repeat (first | apply Kd.R_alloc | apply Kd.R_drewN | apply Kd.R_drew)); exact HO_3.out⟩, ⟨by repeat (first | (with_reducible first | exact HB.out | apply below_alloc | apply pw_below_drewN | apply below_drew1) | exact HB.out)⟩⟩
                · rw [if_neg c11] at H
                  exact absurd H (by simp)
              · rw [if_neg c10] at H
                exact absurd H (by simp)
            · rw [if_neg c9] at H
              exact absurd H (by simp)
        · rw [if_neg c3] at H
          exact absurd H (by simp)
      · rw [if_neg c2] at H
        have c2b0 : decide (x5_1 < (a0.size : Int)) = false := decide_eq_false c2
        clear c2
        by_cases c12 : x3_1.length < 8796093022208
        · rw [if_pos c12] at H
          have LMc12 := Aside0.mk c12
          clear c12
          obtain ⟨y150, hy150⟩ : ∃ y_ : List ByteArray, y_ = (x3_1 ++ [x4_1]) := ⟨_, rfl⟩
          replace H : (some y150) = some r := by first | (rw [hy150]; with_reducible exact H) | (have H2_ := (Option.bind_some _ _).symm.trans H; rw [hy150]; with_reducible exact H2_) | (have H2_ := (Option.bind_some _ _).symm.trans H; with_reducible exact H2_) | with_reducible exact H | (rw [hy150]; exact H) | exact H
          have Ny150 := Aside0.mk hy150
          clear hy150
          obtain rfl := Option.some.inj H
          go_wp2_with (first | ((with_reducible refine gate_builtin (b := .append) (xs := #[.tmp 27, .tmp 29]) rfl ?_); at_builtin; refine Kd.R_append Kd.string (w0 := w) w.heap.size rfl (.tmp 27) (.tmp 29) 22 9 (.string ⟨#[]⟩) 16 rfl Tryd.underlying22 info9 rfl (by decide) (by omega) u3 x3_1 x4_1 [.string x4_1] (fun _ => True) (fun _ => False) rfl rfl ?aP (fun _ hk => hk.elim) ?aF ?aO ?aB ?aS ?aL ?_; (case aP => exact rfl); (case aB => exact (by repeat (first | (with_reducible first | exact HB.out | apply below_alloc | apply pw_below_drewN | apply below_drew1) | exact HB.out))); (case aF => exact (fun _ _ => trivial)); (case aO => exact (by (with_reducible repeat (first | apply Kd.R_alloc | apply Kd.R_drewN | apply Kd.R_drew)); exact HO_3.out)); (case aS => exact (below_size (by repeat (first | (with_reducible first | exact HB.out | apply below_alloc | apply pw_below_drewN | apply below_drew1) | exact HB.out)))); (case aL => have := LMc12.out; omega); intro v151 w13 ho hb hg hat; rw [← Ny150.out] at ho; have n0_ := Aside0.mk (hb); have n1_ := Aside0.mk (ho); clear HB; clear HO_3; have HB := n0_; have HO152 := n1_; clear n0_ n1_; clear ho hb hg hat))
          go_ret
          exact ⟨_, by first | rfl | (simp [errW_none, errW_some] <;> rfl) | (simp [*, errW_none, errW_some] <;> rfl), by (with_reducible repeat (first | apply Kd.R_alloc | apply Kd.R_drewN | apply Kd.R_drew)); exact HO152.out, by repeat (first | (with_reducible first | exact HB.out | apply below_alloc | apply pw_below_drewN | apply below_drew1) | exact HB.out)⟩
        · rw [if_neg c12] at H
          exact absurd H (by simp)

/-! ### spec_OptionValid: function 43 -/
def spec_OptionValid.l0 : Nat → List ByteArray → Int → Int → Option (Bool)
  | 0, _, _, _ => none
  | k + 1, x5, x6, x7 => if x7 < x6 then (if 0 ≤ x7 then (if x7 < (x5.length : Int) then ((spec_TermValid.f k (rdOf ByteArray.empty x5 x7)).bind fun t154 => (if t154 = true then (spec_OptionValid.l0 k x5 x6 (wrap64 (x7 + 1))) else (some false))) else (none)) else (none)) else (some true)
def spec_OptionValid.f (k : Nat) (l0 : List ByteArray) : Option (Bool) := spec_OptionValid.l0 k l0 (l0.length : Int) 0
theorem spec_OptionValid.mono_l : ∀ k, (∀ y0 y1 y2, LeO (spec_OptionValid.l0 k y0 y1 y2) (spec_OptionValid.l0 (k + 1) y0 y1 y2))
  | 0 => fun _ _ _ r h => by simp [spec_OptionValid.l0] at h
  | k + 1 => by
    have ih0 := spec_OptionValid.mono_l k
    · intro y0 y1 y2
      unfold spec_OptionValid.l0
      repeat' first
      | (with_reducible exact ih0 _ _ _)
      | (with_reducible exact spec_TermValid.mono _ _)
      | (with_reducible exact LeO.refl _)
      | (with_reducible exact LeO.none _)
      | (with_reducible refine LeO.ite ?_ ?_)
      | (with_reducible refine LeO.bind ?_ (fun _ => ?_))
      | exact ih0 _ _ _
      | exact spec_TermValid.mono _ _
      | exact LeO.none _
      | refine LeO.ite ?_ ?_
      | refine LeO.bind ?_ (fun _ => ?_)
theorem spec_OptionValid.mono : ∀ a0 k, LeO (spec_OptionValid.f k a0) (spec_OptionValid.f (k + 1) a0) := by
  intro a0 k
  have ih0 := spec_OptionValid.mono_l k
  unfold spec_OptionValid.f
  repeat' first
      | (with_reducible exact ih0 _ _ _)
      | (with_reducible exact spec_TermValid.mono _ _)
      | (with_reducible exact LeO.refl _)
      | (with_reducible exact LeO.none _)
      | (with_reducible refine LeO.ite ?_ ?_)
      | (with_reducible refine LeO.bind ?_ (fun _ => ?_))
      | exact ih0 _ _ _
      | exact spec_TermValid.mono _ _
      | exact LeO.none _
      | refine LeO.ite ?_ ?_
      | refine LeO.bind ?_ (fun _ => ?_)
set_option maxHeartbeats 8000000 in
set_option maxRecDepth 100000 in
theorem spec_OptionValid.calls (k : Nat) (A0 : Option Addr) (c0 : Nat) (l0 : List ByteArray) (r : Bool) (w : World) (hr0 : Kd.C Kd.string w A0 l0.length l0) (hc0 : l0.length ≤ c0) (h : spec_OptionValid.f k l0 = some r) :
    Calls Tryd.prog 43 #[.slice A0 l0.length c0] w fun e w' => e = .returned (.bool r) ∧ Drawn0 w w' := by
  have HR0 := Aside0.mk hr0
  have HC0 := Aside0.mk hc0
  clear hr0 hc0
  have H : (spec_OptionValid.l0 k l0 (l0.length : Int) 0) = some r := h
  clear h
  have H' := Aside0.mk H
  clear H
  go_enter Tryd.func43, Tryd.ntmps43
  go_wp2
  go_loopg [7] k (fun kq v7 w' => ∃ (x7_1 : Int), v7 = .int .i64 x7_1 ∧ Aside0 (spec_OptionValid.l0 kq l0 (l0.length : Int) x7_1 = some r) ∧ Aside0 (kq ≤ k) ∧ Drawn0 w w')
  case atStart => exact ⟨(0), (by first | rfl | (simp; done) | (simp [*]; done)), H', ⟨Nat.le_refl _⟩, by repeat (first | exact Drawn0.refl _ | apply Drawn0.step)⟩
  case round =>
    clear H'
    obtain ⟨x7_1, rfl, HA, HK1, ⟨m1, rfl⟩⟩ := hrel
    cases gk with
    | zero => exact absurd HA.out (by simp [spec_OptionValid.l0])
    | succ k1 =>
      have H := HA.out
      clear HA
      simp only [spec_OptionValid.l0] at H
      by_cases c2 : x7_1 < (l0.length : Int)
      · rw [if_pos c2] at H
        have c2b0 : decide (x7_1 < (l0.length : Int)) = true := decide_eq_true c2
        clear c2
        by_cases c3 : 0 ≤ x7_1
        · rw [if_pos c3] at H
          have c3b0 : decide (0 ≤ x7_1) = true := decide_eq_true c3
          clear c3
          by_cases c4 : x7_1 < (l0.length : Int)
          · rw [if_pos c4] at H
            have c4b0 : decide (x7_1 < (l0.length : Int)) = true := decide_eq_true c4
            clear c4
            replace H := Option.bind_eq_some_iff.mp H
            obtain ⟨t154, A50, H⟩ := H
            replace H : (if t154 = true then (spec_OptionValid.l0 k1 l0 (l0.length : Int) (wrap64 (x7_1 + 1))) else (some false)) = some r := H
            have A5 := Aside0.mk A50
            clear A50
            by_cases c6 : t154 = true
            · subst c6
              have H1 : (spec_OptionValid.l0 k1 l0 (l0.length : Int) (wrap64 (x7_1 + 1))) = some r := by rw [if_pos rfl] at H; exact H
              clear H
              have H := H1
              clear H1
              have H' := Aside0.mk H
              clear H
              have p153 : 0 ≤ (x7_1 : Int) := of_decide_eq_true (by first | (with_reducible assumption) | assumption)
              have q153 : x7_1 < (l0.length : Int) := of_decide_eq_true (by first | (with_reducible assumption) | assumption)
              obtain ⟨ad153, e153, hx153_0⟩ := Kd.at_string HR0.out x7_1 p153 q153
              cases e153
              replace p153 := eq_true p153
              replace q153 := eq_true q153
              go_wp2_with (first | ((with_reducible refine gate_callee (f := 13) rfl ?_); refine goesL_ (some 12) rfl rfl Tryd.func13 (by kernel_rfl) rfl #[.string (rdOf ByteArray.empty l0 x7_1)] rfl (by (try simp only [List.map_toArray, List.map_cons, List.map_nil]); first | done | rfl | (simp only [List.length_drop, List.length_take]; rfl)) ?_; (with_reducible refine (spec_TermValid.calls k1 (rdOf ByteArray.empty l0 x7_1) true _ A5.out).mono ?_); rintro e w' ⟨rfl, ⟨nd, rfl⟩⟩; refine ⟨_, rfl, ?_⟩))
              go_roundg k1
              case measure => have := HK1.out; omega
              case rel => exact ⟨(wrap64 (x7_1 + 1)), (by first | rfl | (simp; done) | (simp [*]; done)), H', ⟨by have := HK1.out; omega⟩, by repeat (first | exact Drawn0.refl _ | apply Drawn0.step)⟩
            · replace c6 := Bool.eq_false_iff.mpr c6
              subst c6
              have H1 : (some false) = some r := by rw [if_neg (show ¬ (false = true) by decide)] at H; exact H
              clear H
              have H := H1
              clear H1
              obtain rfl := Option.some.inj H
              have p153 : 0 ≤ (x7_1 : Int) := of_decide_eq_true (by first | (with_reducible assumption) | assumption)
              have q153 : x7_1 < (l0.length : Int) := of_decide_eq_true (by first | (with_reducible assumption) | assumption)
              obtain ⟨ad153, e153, hx153_0⟩ := Kd.at_string HR0.out x7_1 p153 q153
              cases e153
              replace p153 := eq_true p153
              replace q153 := eq_true q153
              go_wp2_with (first | ((with_reducible refine gate_callee (f := 13) rfl ?_); refine goesL_ (some 12) rfl rfl Tryd.func13 (by kernel_rfl) rfl #[.string (rdOf ByteArray.empty l0 x7_1)] rfl (by (try simp only [List.map_toArray, List.map_cons, List.map_nil]); first | done | rfl | (simp only [List.length_drop, List.length_take]; rfl)) ?_; (with_reducible refine (spec_TermValid.calls k1 (rdOf ByteArray.empty l0 x7_1) false _ A5.out).mono ?_); rintro e w' ⟨rfl, ⟨nd, rfl⟩⟩; refine ⟨_, rfl, ?_⟩))
              go_ret
              exact ⟨by first | rfl | (simp; done) | (simp [*]; done), by repeat (first | exact Drawn0.refl _ | apply Drawn0.step)⟩
          · rw [if_neg c4] at H
            exact absurd H (by simp)
        · rw [if_neg c3] at H
          exact absurd H (by simp)
      · rw [if_neg c2] at H
        have c2b0 : decide (x7_1 < (l0.length : Int)) = false := decide_eq_false c2
        clear c2
        obtain rfl := Option.some.inj H
        go_wp2
        go_ret
        exact ⟨by first | rfl | (simp; done) | (simp [*]; done), by repeat (first | exact Drawn0.refl _ | apply Drawn0.step)⟩

/-! ### spec_ParseOption: function 17 -/
def spec_ParseOption.f (k : Nat) (a0 : ByteArray) : Option (List ByteArray × Bool) := (spec_tagsCommas.f k a0).bind fun t155 => ((spec_OptionValid.f k t155).bind fun t158 => (some (t155, t158)))
theorem spec_ParseOption.mono : ∀ a0 k, LeO (spec_ParseOption.f k a0) (spec_ParseOption.f (k + 1) a0) := by
  intro a0 k
  unfold spec_ParseOption.f
  repeat' first
      | (with_reducible exact spec_OptionValid.mono _ _)
      | (with_reducible exact spec_tagsCommas.mono _ _)
      | (with_reducible exact LeO.refl _)
      | (with_reducible exact LeO.none _)
      | (with_reducible refine LeO.ite ?_ ?_)
      | (with_reducible refine LeO.bind ?_ (fun _ => ?_))
      | exact spec_OptionValid.mono _ _
      | exact spec_tagsCommas.mono _ _
      | exact LeO.none _
      | refine LeO.ite ?_ ?_
      | refine LeO.bind ?_ (fun _ => ?_)
set_option maxHeartbeats 8000000 in
set_option maxRecDepth 100000 in
theorem spec_ParseOption.calls (k : Nat) (a0 : ByteArray) (r1 : List ByteArray) (r2 : Bool) (w : World) (h : spec_ParseOption.f k a0 = some (r1, r2)) :
    Calls Tryd.prog 17 #[.string a0] w fun e w' => ∃ v0_ : Value, e = .returned (.tuple #[v0_, .bool r2]) ∧ Kd.R Kd.string 9 w' w.heap.size (fun _ => True) v0_ r1 ∧ Below w.heap.size w w' := by
  have HB := Aside0.mk (Below.refl w.heap.size w)
  have H : ((spec_tagsCommas.f k a0).bind fun t155 => ((spec_OptionValid.f k t155).bind fun t158 => (some (t155, t158)))) = some (r1, r2) := h
  clear h
  replace H := Option.bind_eq_some_iff.mp H
  obtain ⟨t155, A20, H⟩ := H
  replace H : ((spec_OptionValid.f k t155).bind fun t158 => (some (t155, t158))) = some (r1, r2) := H
  have A2 := Aside0.mk A20
  clear A20
  replace H := Option.bind_eq_some_iff.mp H
  obtain ⟨t158, A30, H⟩ := H
  replace H : (some (t155, t158)) = some (r1, r2) := H
  have A3 := Aside0.mk A30
  clear A30
  simp only [Option.some.injEq, Prod.mk.injEq] at H
  obtain ⟨rfl, rfl⟩ := H
  go_enter Tryd.func17, Tryd.ntmps17
  go_wp2_with (first | ((with_reducible refine gate_callee (f := 42) rfl ?_); refine goesL_ (some 6) rfl rfl Tryd.func42 (by kernel_rfl) rfl #[.string a0] rfl (by (try simp only [List.map_toArray, List.map_cons, List.map_nil]); first | done | rfl | (simp only [List.length_drop, List.length_take]; rfl)) ?_; (with_reducible refine (spec_tagsCommas.calls k a0 t155 _ A2.out).mono ?_); rintro e w4 ⟨v156, rfl, ho0, hb⟩; refine ⟨_, rfl, ?_⟩; have n0_ := Aside0.mk (Kd.R_lower ho0 (below_size (by repeat (first | (with_reducible first | exact HB.out | apply below_alloc | apply pw_below_drewN | apply below_drew1) | exact HB.out)))); have n1_ := Aside0.mk (below_step (by repeat (first | (with_reducible first | exact HB.out | apply below_alloc | apply pw_below_drewN | apply below_drew1) | exact HB.out)) hb); clear HB; have HO157 := n0_; have HB := n1_; clear n0_ n1_; (try clear hb); (try clear hb2); (try clear hk); (try clear hi); (try clear ho0); obtain ⟨Ao5, co5, eo5⟩ := Kd.R_slice HO157.out; subst eo5) | ((with_reducible refine gate_callee (f := 43) rfl ?_); refine goesL_ (some 9) rfl rfl Tryd.func43 (by kernel_rfl) rfl #[.slice Ao5 t155.length co5] rfl (by (try simp only [List.map_toArray, List.map_cons, List.map_nil]); first | done | rfl | (simp only [List.length_drop, List.length_take]; rfl)) ?_; (with_reducible refine (spec_OptionValid.calls k _ _ t155 t158 _ ?side1 ?side2 A3.out).mono ?_); (case side1 => repeat (first | exact (Kd.R_reads' HO157.out).2.2 | (with_reducible refine Kd.C_alloc ?_ _) | (with_reducible refine Kd.C_drewN ?_ _) | (with_reducible refine Kd.C_drew ?_))); (case side2 => exact (Kd.R_reads' HO157.out).2.1); rintro e w' ⟨rfl, ⟨nd, rfl⟩⟩; refine ⟨_, rfl, ?_⟩))
  go_ret2
  exact ⟨_, by first | rfl | (simp [errW_none, errW_some] <;> rfl) | (simp [*, errW_none, errW_some] <;> rfl), by (with_reducible repeat (first | apply Kd.R_alloc | apply Kd.R_drewN | apply Kd.R_drew)); exact HO157.out, by repeat (first | (with_reducible first | exact HB.out | apply below_alloc | apply pw_below_drewN | apply below_drew1) | exact HB.out)⟩

end Go.Proofs.YtknldfighehplaaDoor.PFnMeaning
