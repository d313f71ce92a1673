-- PRINTED BY print.sh 35421559b90ae4d0a3588c463048766b98c2df88dd9212a6774a882060cdf62d: not written by this session
import Derived.Test.YtknldfighehplaaDoorPFnTextBackx0
namespace Go.Proofs.YtknldfighehplaaDoor.PFnTextBack
open Go.RowKit Go.Proofs.YtknldfighehplaaDoorW.PrintWords Go.Proofs.YtknldfighehplaaDoorW.PrintLast Go.Proofs.YtknldfighehplaaDoorW.PrintMore
attribute [local go_sem] max2_int min2_int max_two min_two max_three min_three max_four min_four   -- for this text's walks alone
set_option linter.unusedVariables false
set_option linter.unusedSimpArgs false

/-! ### spec_Ascii: function 9 -/
def spec_Ascii.l0 : Nat → ByteArray → Int → Option (Bool)
  | 0, _, _ => none
  | k + 1, x0, x3 => if x3 < (x0.size : Int) then (if 0 ≤ x3 then (if (bt x0 x3) > 127 then (some false) else (spec_Ascii.l0 k x0 (wrap64 (x3 + 1)))) else (none)) else (some true)
def spec_Ascii.f (k : Nat) (a0 : ByteArray) : Option (Bool) := spec_Ascii.l0 k a0 0
theorem spec_Ascii.mono_l : ∀ k, (∀ y0 y1, LeO (spec_Ascii.l0 k y0 y1) (spec_Ascii.l0 (k + 1) y0 y1))
  | 0 => fun _ _ r h => by simp [spec_Ascii.l0] at h
  | k + 1 => by
    have ih0 := spec_Ascii.mono_l k
    · intro y0 y1
      unfold spec_Ascii.l0
      repeat' first
      | (with_reducible exact ih0 _ _)
      | (with_reducible exact LeO.refl _)
      | (with_reducible exact LeO.none _)
      | (with_reducible refine LeO.ite ?_ ?_)
      | (with_reducible refine LeO.bind ?_ (fun _ => ?_))
      | exact ih0 _ _
      | exact LeO.none _
      | refine LeO.ite ?_ ?_
      | refine LeO.bind ?_ (fun _ => ?_)
theorem spec_Ascii.mono : ∀ a0 k, LeO (spec_Ascii.f k a0) (spec_Ascii.f (k + 1) a0) := by
  intro a0 k
  have ih0 := spec_Ascii.mono_l k
  unfold spec_Ascii.f
  repeat' first
      | (with_reducible exact ih0 _ _)
      | (with_reducible exact LeO.refl _)
      | (with_reducible exact LeO.none _)
      | (with_reducible refine LeO.ite ?_ ?_)
      | (with_reducible refine LeO.bind ?_ (fun _ => ?_))
      | exact ih0 _ _
      | exact LeO.none _
      | refine LeO.ite ?_ ?_
      | refine LeO.bind ?_ (fun _ => ?_)
set_option maxHeartbeats 8000000 in
set_option maxRecDepth 100000 in
theorem spec_Ascii.calls (k : Nat) (a0 : ByteArray) (r : Bool) (w : World) (h : spec_Ascii.f k a0 = some r) :
    Calls Tryd.prog 9 #[.string a0] w fun e w' => e = .returned (.bool r) ∧ Drawn0 w w' := by
  have H : (spec_Ascii.l0 k a0 0) = some r := h
  clear h
  have H' := Aside0.mk H
  clear H
  go_enter Tryd.func9, Tryd.ntmps9
  go_wp2
  go_loopg [3] k (fun kq v3 w' => ∃ (x3_1 : Int), v3 = .int .i64 x3_1 ∧ Aside0 (spec_Ascii.l0 kq a0 x3_1 = some r) ∧ Aside0 (kq ≤ k) ∧ Drawn0 w w')
  case atStart => exact ⟨(0), (by first | rfl | (simp; done) | (simp [*]; done)), H', ⟨Nat.le_refl _⟩, by repeat (first | exact Drawn0.refl _ | apply Drawn0.step)⟩
  case round =>
    clear H'
    obtain ⟨x3_1, rfl, HA, HK1, ⟨m1, rfl⟩⟩ := hrel
    cases gk with
    | zero => exact absurd HA.out (by simp [spec_Ascii.l0])
    | succ k1 =>
      have H := HA.out
      clear HA
      simp only [spec_Ascii.l0] at H
      by_cases c2 : x3_1 < (a0.size : Int)
      · rw [if_pos c2] at H
        have c2b0 : decide (x3_1 < (a0.size : Int)) = true := decide_eq_true c2
        clear c2
        by_cases c3 : 0 ≤ x3_1
        · rw [if_pos c3] at H
          have c3b0 : decide (0 ≤ x3_1) = true := decide_eq_true c3
          clear c3
          by_cases c5 : (bt a0 x3_1) > 127
          · rw [if_pos c5] at H
            have c5b0 : decide (127 < (bt a0 x3_1)) = true := decide_eq_true c5
            clear c5
            obtain rfl := Option.some.inj H
            have p4 : 0 ≤ (x3_1 : Int) := of_decide_eq_true (by first | (with_reducible assumption) | assumption)
            have q4 : x3_1 < (a0.size : Int) := of_decide_eq_true (by first | (with_reducible assumption) | assumption)
            have hx4 := bt_at a0 x3_1
            replace p4 := eq_true p4
            replace q4 := eq_true q4
            go_wp2
            go_ret
            exact ⟨by first | rfl | (simp; done) | (simp [*]; done), by repeat (first | exact Drawn0.refl _ | apply Drawn0.step)⟩
          · rw [if_neg c5] at H
            have c5b0 : decide (127 < (bt a0 x3_1)) = false := decide_eq_false c5
            clear c5
            have H' := Aside0.mk H
            clear H
            have p4 : 0 ≤ (x3_1 : Int) := of_decide_eq_true (by first | (with_reducible assumption) | assumption)
            have q4 : x3_1 < (a0.size : Int) := of_decide_eq_true (by first | (with_reducible assumption) | assumption)
            have hx4 := bt_at a0 x3_1
            replace p4 := eq_true p4
            replace q4 := eq_true q4
            go_wp2
            go_roundg k1
            case measure => have := HK1.out; omega
            case rel => exact ⟨(wrap64 (x3_1 + 1)), (by first | rfl | (simp; done) | (simp [*]; done)), H', ⟨by have := HK1.out; omega⟩, by repeat (first | exact Drawn0.refl _ | apply Drawn0.step)⟩
        · rw [if_neg c3] at H
          exact absurd H (by simp)
      · rw [if_neg c2] at H
        have c2b0 : decide (x3_1 < (a0.size : Int)) = false := decide_eq_false c2
        clear c2
        obtain rfl := Option.some.inj H
        go_wp2
        go_ret
        exact ⟨by first | rfl | (simp; done) | (simp [*]; done), by repeat (first | exact Drawn0.refl _ | apply Drawn0.step)⟩

/-! ### spec_AsciiAll: function 44 -/
mutual
def spec_AsciiAll.l0 : Nat → List (List (List ByteArray)) → Int → Int → Option (Bool)
  | 0, _, _, _ => none
  | k + 1, x9, x10, x11 => if x11 < x10 then (if 0 ≤ x11 then (if x11 < (x9.length : Int) then (spec_AsciiAll.l1 k x9 x10 x11 (rd_L6 x9 x11) ((rd_L6 x9 x11).length : Int) 0) else (none)) else (none)) else (some true)
def spec_AsciiAll.l1 : Nat → List (List (List ByteArray)) → Int → Int → List (List ByteArray) → Int → Int → Option (Bool)
  | 0, _, _, _, _, _, _ => none
  | k + 1, x9, x10, x11, x15, x16, x17 => if x17 < x16 then (if 0 ≤ x17 then (if x17 < (x15.length : Int) then (spec_AsciiAll.l2 k x9 x10 x11 x15 x16 x17 (rd_L5 x15 x17) ((rd_L5 x15 x17).length : Int) 0) else (none)) else (none)) else (spec_AsciiAll.l0 k x9 x10 (wrap64 (x11 + 1)))
def spec_AsciiAll.l2 : Nat → List (List (List ByteArray)) → Int → Int → List (List ByteArray) → Int → Int → List ByteArray → Int → Int → Option (Bool)
  | 0, _, _, _, _, _, _, _, _, _ => none
  | k + 1, x9, x10, x11, x15, x16, x17, x21, x22, x23 => if x23 < x22 then (if 0 ≤ x23 then (if x23 < (x21.length : Int) then ((spec_Ascii.f k (rdOf ByteArray.empty x21 x23)).bind fun t126 => (if t126 = true then (spec_AsciiAll.l2 k x9 x10 x11 x15 x16 x17 x21 x22 (wrap64 (x23 + 1))) else (some false))) else (none)) else (none)) else (spec_AsciiAll.l1 k x9 x10 x11 x15 x16 (wrap64 (x17 + 1)))
end
def spec_AsciiAll.f (k : Nat) (l0 : List (List (List ByteArray))) : Option (Bool) := spec_AsciiAll.l0 k l0 (l0.length : Int) 0
theorem spec_AsciiAll.mono_l : ∀ k, (∀ y0 y1 y2, LeO (spec_AsciiAll.l0 k y0 y1 y2) (spec_AsciiAll.l0 (k + 1) y0 y1 y2)) ∧ (∀ y0 y1 y2 y3 y4 y5, LeO (spec_AsciiAll.l1 k y0 y1 y2 y3 y4 y5) (spec_AsciiAll.l1 (k + 1) y0 y1 y2 y3 y4 y5)) ∧ (∀ y0 y1 y2 y3 y4 y5 y6 y7 y8, LeO (spec_AsciiAll.l2 k y0 y1 y2 y3 y4 y5 y6 y7 y8) (spec_AsciiAll.l2 (k + 1) y0 y1 y2 y3 y4 y5 y6 y7 y8))
  | 0 => ⟨fun _ _ _ r h => by simp [spec_AsciiAll.l0] at h, fun _ _ _ _ _ _ r h => by simp [spec_AsciiAll.l1] at h, fun _ _ _ _ _ _ _ _ _ r h => by simp [spec_AsciiAll.l2] at h⟩
  | k + 1 => by
    obtain ⟨ih0, ih1, ih2⟩ := spec_AsciiAll.mono_l k
    refine ⟨?_, ?_, ?_⟩
    · intro y0 y1 y2
      unfold spec_AsciiAll.l0
      repeat' first
      | (with_reducible exact ih0 _ _ _)
      | (with_reducible exact ih1 _ _ _ _ _ _)
      | (with_reducible exact ih2 _ _ _ _ _ _ _ _ _)
      | (with_reducible exact spec_Ascii.mono _ _)
      | (with_reducible exact LeO.refl _)
      | (with_reducible exact LeO.none _)
      | (with_reducible refine LeO.ite ?_ ?_)
      | (with_reducible refine LeO.bind ?_ (fun _ => ?_))
      | exact ih0 _ _ _
      | exact ih1 _ _ _ _ _ _
      | exact ih2 _ _ _ _ _ _ _ _ _
      | exact spec_Ascii.mono _ _
      | exact LeO.none _
      | refine LeO.ite ?_ ?_
      | refine LeO.bind ?_ (fun _ => ?_)
    · intro y0 y1 y2 y3 y4 y5
      unfold spec_AsciiAll.l1
      repeat' first
      | (with_reducible exact ih0 _ _ _)
      | (with_reducible exact ih1 _ _ _ _ _ _)
      | (with_reducible exact ih2 _ _ _ _ _ _ _ _ _)
      | (with_reducible exact spec_Ascii.mono _ _)
      | (with_reducible exact LeO.refl _)
      | (with_reducible exact LeO.none _)
      | (with_reducible refine LeO.ite ?_ ?_)
      | (with_reducible refine LeO.bind ?_ (fun _ => ?_))
      | exact ih0 _ _ _
      | exact ih1 _ _ _ _ _ _
      | exact ih2 _ _ _ _ _ _ _ _ _
      | exact spec_Ascii.mono _ _
      | exact LeO.none _
      | refine LeO.ite ?_ ?_
      | refine LeO.bind ?_ (fun _ => ?_)
    · intro y0 y1 y2 y3 y4 y5 y6 y7 y8
      unfold spec_AsciiAll.l2
      repeat' first
      | (with_reducible exact ih0 _ _ _)
      | (with_reducible exact ih1 _ _ _ _ _ _)
      | (with_reducible exact ih2 _ _ _ _ _ _ _ _ _)
      | (with_reducible exact spec_Ascii.mono _ _)
      | (with_reducible exact LeO.refl _)
      | (with_reducible exact LeO.none _)
      | (with_reducible refine LeO.ite ?_ ?_)
      | (with_reducible refine LeO.bind ?_ (fun _ => ?_))
      | exact ih0 _ _ _
      | exact ih1 _ _ _ _ _ _
      | exact ih2 _ _ _ _ _ _ _ _ _
      | exact spec_Ascii.mono _ _
      | exact LeO.none _
      | refine LeO.ite ?_ ?_
      | refine LeO.bind ?_ (fun _ => ?_)
theorem spec_AsciiAll.mono : ∀ a0 k, LeO (spec_AsciiAll.f k a0) (spec_AsciiAll.f (k + 1) a0) := by
  intro a0 k
  obtain ⟨ih0, ih1, ih2⟩ := spec_AsciiAll.mono_l k
  unfold spec_AsciiAll.f
  repeat' first
      | (with_reducible exact ih0 _ _ _)
      | (with_reducible exact ih1 _ _ _ _ _ _)
      | (with_reducible exact ih2 _ _ _ _ _ _ _ _ _)
      | (with_reducible exact spec_Ascii.mono _ _)
      | (with_reducible exact LeO.refl _)
      | (with_reducible exact LeO.none _)
      | (with_reducible refine LeO.ite ?_ ?_)
      | (with_reducible refine LeO.bind ?_ (fun _ => ?_))
      | exact ih0 _ _ _
      | exact ih1 _ _ _ _ _ _
      | exact ih2 _ _ _ _ _ _ _ _ _
      | exact spec_Ascii.mono _ _
      | exact LeO.none _
      | refine LeO.ite ?_ ?_
      | refine LeO.bind ?_ (fun _ => ?_)
set_option maxHeartbeats 8000000 in
set_option maxRecDepth 100000 in
theorem spec_AsciiAll.calls (k : Nat) (A0 : Option Addr) (c0 : Nat) (l0 : List (List (List ByteArray))) (r : Bool) (w : World) (hr0 : Kd.C (Kd.slice 22 (Kd.slice 9 Kd.string)) w A0 l0.length l0) (hc0 : l0.length ≤ c0) (h : spec_AsciiAll.f k l0 = some r) :
    Calls Tryd.prog 44 #[.slice A0 l0.length c0] w fun e w' => e = .returned (.bool r) ∧ Drawn0 w w' := by
  have HR0 := Aside0.mk hr0
  have HC0 := Aside0.mk hc0
  clear hr0 hc0
  have H : (spec_AsciiAll.l0 k l0 (l0.length : Int) 0) = some r := h
  clear h
  have H' := Aside0.mk H
  clear H
  go_enter Tryd.func44, Tryd.ntmps44
  go_wp2
  go_loopg [11] k (fun kq v11 w' => ∃ (x11_1 : Int), v11 = .int .i64 x11_1 ∧ Aside0 (spec_AsciiAll.l0 kq l0 (l0.length : Int) x11_1 = some r) ∧ Aside0 (kq ≤ k) ∧ Drawn0 w w')
  case atStart => exact ⟨(0), (by first | rfl | (simp; done) | (simp [*]; done)), H', ⟨Nat.le_refl _⟩, by repeat (first | exact Drawn0.refl _ | apply Drawn0.step)⟩
  case round =>
    clear H'
    obtain ⟨x11_1, rfl, HA, HK1, ⟨m1, rfl⟩⟩ := hrel
    cases gk with
    | zero => exact absurd HA.out (by simp [spec_AsciiAll.l0])
    | succ k1 =>
      have H := HA.out
      clear HA
      simp only [spec_AsciiAll.l0] at H
      by_cases c2 : x11_1 < (l0.length : Int)
      · rw [if_pos c2] at H
        have c2b0 : decide (x11_1 < (l0.length : Int)) = true := decide_eq_true c2
        clear c2
        by_cases c3 : 0 ≤ x11_1
        · rw [if_pos c3] at H
          have c3b0 : decide (0 ≤ x11_1) = true := decide_eq_true c3
          clear c3
          by_cases c4 : x11_1 < (l0.length : Int)
          · rw [if_pos c4] at H
            have c4b0 : decide (x11_1 < (l0.length : Int)) = true := decide_eq_true c4
            clear c4
            have H' := Aside0.mk H
            clear H
            have p123 : 0 ≤ (x11_1 : Int) := of_decide_eq_true (by first | (with_reducible assumption) | assumption)
            have q123 : x11_1 < (l0.length : Int) := of_decide_eq_true (by first | (with_reducible assumption) | assumption)
            obtain ⟨ad123, A123_0, c123_0, e123, hx123_0, hl123_0, hi123_0⟩ := at_L6 HR0.out x11_1 p123 q123
            cases e123
            have HR123_0 := Aside0.mk hi123_0
            have HC123_0 := Aside0.mk hl123_0
            clear hi123_0 hl123_0
            replace p123 := eq_true p123
            replace q123 := eq_true q123
            go_wp2
            go_loopg [17] k1 (fun kq v17 w' => ∃ (x17_2 : Int), v17 = .int .i64 x17_2 ∧ Aside0 (spec_AsciiAll.l1 kq l0 (l0.length : Int) x11_1 (rd_L6 l0 x11_1) ((rd_L6 l0 x11_1).length : Int) x17_2 = some r) ∧ Aside0 (kq ≤ k1) ∧ Drawn0 w w')
            case atStart => exact ⟨(0), (by first | rfl | (simp; done) | (simp [*]; done)), H', ⟨Nat.le_refl _⟩, by repeat (first | exact Drawn0.refl _ | apply Drawn0.step)⟩
            case round =>
              clear H'
              try clear c1
              try clear p1
              try clear q1
              try clear hx1
              try clear c2
              try clear c2b0
              try clear p2
              try clear c3
              try clear c3b0
              try clear c4
              try clear c4b0
              try clear hx123_0
              try clear p123
              try clear q123
              obtain ⟨x17_2, rfl, HA, HK2, ⟨m2, rfl⟩⟩ := hrel
              cases gk with
              | zero => exact absurd HA.out (by simp [spec_AsciiAll.l1])
              | succ k2 =>
                have H := HA.out
                clear HA
                simp only [spec_AsciiAll.l1] at H
                by_cases c5 : x17_2 < ((rd_L6 l0 x11_1).length : Int)
                · rw [if_pos c5] at H
                  have c5b0 : decide (x17_2 < ((rd_L6 l0 x11_1).length : Int)) = true := decide_eq_true c5
                  clear c5
                  by_cases c6 : 0 ≤ x17_2
                  · rw [if_pos c6] at H
                    have c6b0 : decide (0 ≤ x17_2) = true := decide_eq_true c6
                    clear c6
                    by_cases c7 : x17_2 < ((rd_L6 l0 x11_1).length : Int)
                    · rw [if_pos c7] at H
                      have c7b0 : decide (x17_2 < ((rd_L6 l0 x11_1).length : Int)) = true := decide_eq_true c7
                      clear c7
                      have H' := Aside0.mk H
                      clear H
                      have p124 : 0 ≤ (x17_2 : Int) := of_decide_eq_true (by first | (with_reducible assumption) | assumption)
                      have q124 : x17_2 < ((rd_L6 l0 x11_1).length : Int) := of_decide_eq_true (by first | (with_reducible assumption) | assumption)
                      obtain ⟨ad124, A124_0, c124_0, e124, hx124_0, hl124_0, hi124_0⟩ := at_L5 HR123_0.out x17_2 p124 q124
                      cases e124
                      have HR124_0 := Aside0.mk hi124_0
                      have HC124_0 := Aside0.mk hl124_0
                      clear hi124_0 hl124_0
                      replace p124 := eq_true p124
                      replace q124 := eq_true q124
                      go_wp2
                      go_loopg [23] k2 (fun kq v23 w' => ∃ (x23_3 : Int), v23 = .int .i64 x23_3 ∧ Aside0 (spec_AsciiAll.l2 kq l0 (l0.length : Int) x11_1 (rd_L6 l0 x11_1) ((rd_L6 l0 x11_1).length : Int) x17_2 (rd_L5 (rd_L6 l0 x11_1) x17_2) ((rd_L5 (rd_L6 l0 x11_1) x17_2).length : Int) x23_3 = some r) ∧ Aside0 (kq ≤ k2) ∧ Drawn0 w w')
                      case atStart => exact ⟨(0), (by first | rfl | (simp; done) | (simp [*]; done)), H', ⟨Nat.le_refl _⟩, by repeat (first | exact Drawn0.refl _ | apply Drawn0.step)⟩
                      case round =>
                        clear H'
                        try clear c1
                        try clear p1
                        try clear q1
                        try clear hx1
                        try clear c2
                        try clear c2b0
                        try clear p2
                        try clear c3
                        try clear c3b0
                        try clear c4
                        try clear c4b0
                        try clear c5
                        try clear c5b0
                        try clear c6
                        try clear c6b0
                        try clear c7
                        try clear c7b0
                        try clear hx123_0
                        try clear hx124_0
                        try clear p1
                        try clear p123
                        try clear p124
                        try clear p2
                        try clear q1
                        try clear q123
                        try clear q124
                        obtain ⟨x23_3, rfl, HA, HK3, ⟨m3, rfl⟩⟩ := hrel
                        cases gk with
                        | zero => exact absurd HA.out (by simp [spec_AsciiAll.l2])
                        | succ k3 =>
                          have H := HA.out
                          clear HA
                          simp only [spec_AsciiAll.l2] at H
                          by_cases c8 : x23_3 < ((rd_L5 (rd_L6 l0 x11_1) x17_2).length : Int)
                          · rw [if_pos c8] at H
                            have c8b0 : decide (x23_3 < ((rd_L5 (rd_L6 l0 x11_1) x17_2).length : Int)) = true := decide_eq_true c8
                            clear c8
                            by_cases c9 : 0 ≤ x23_3
                            · rw [if_pos c9] at H
                              have c9b0 : decide (0 ≤ x23_3) = true := decide_eq_true c9
                              clear c9
                              by_cases c10 : x23_3 < ((rd_L5 (rd_L6 l0 x11_1) x17_2).length : Int)
                              · rw [if_pos c10] at H
                                have c10b0 : decide (x23_3 < ((rd_L5 (rd_L6 l0 x11_1) x17_2).length : Int)) = true := decide_eq_true c10
                                clear c10
                                replace H := Option.bind_eq_some_iff.mp H
                                obtain ⟨t126, A110, H⟩ := H
                                replace H : (if t126 = true then (spec_AsciiAll.l2 k3 l0 (l0.length : Int) x11_1 (rd_L6 l0 x11_1) ((rd_L6 l0 x11_1).length : Int) x17_2 (rd_L5 (rd_L6 l0 x11_1) x17_2) ((rd_L5 (rd_L6 l0 x11_1) x17_2).length : Int) (wrap64 (x23_3 + 1))) else (some false)) = some r := H
                                have A11 := Aside0.mk A110
                                clear A110
                                by_cases c12 : t126 = true
                                · subst c12
                                  have H1 : (spec_AsciiAll.l2 k3 l0 (l0.length : Int) x11_1 (rd_L6 l0 x11_1) ((rd_L6 l0 x11_1).length : Int) x17_2 (rd_L5 (rd_L6 l0 x11_1) x17_2) ((rd_L5 (rd_L6 l0 x11_1) x17_2).length : Int) (wrap64 (x23_3 + 1))) = some r := by rw [if_pos rfl] at H; exact H
                                  clear H
                                  have H := H1
                                  clear H1
                                  have H' := Aside0.mk H
                                  clear H
                                  have p125 : 0 ≤ (x23_3 : Int) := of_decide_eq_true (by first | (with_reducible assumption) | assumption)
                                  have q125 : x23_3 < ((rd_L5 (rd_L6 l0 x11_1) x17_2).length : Int) := of_decide_eq_true (by first | (with_reducible assumption) | assumption)
                                  obtain ⟨ad125, e125, hx125_0⟩ := Kd.at_string HR124_0.out x23_3 p125 q125
                                  cases e125
                                  replace p125 := eq_true p125
                                  replace q125 := eq_true q125
                                  go_wp2_with (first | ((with_reducible refine gate_callee (f := 9) rfl ?_); refine goesL_ (some 28) rfl rfl Tryd.func9 (by kernel_rfl) rfl #[.string (rdOf ByteArray.empty (rd_L5 (rd_L6 l0 x11_1) x17_2) x23_3)] rfl (by (try simp only [List.map_toArray, List.map_cons, List.map_nil]); first | done | rfl | (simp only [List.length_drop, List.length_take]; rfl)) ?_; (with_reducible refine (spec_Ascii.calls k3 (rdOf ByteArray.empty (rd_L5 (rd_L6 l0 x11_1) x17_2) x23_3) true _ A11.out).mono ?_); rintro e w' ⟨rfl, ⟨nd, rfl⟩⟩; refine ⟨_, rfl, ?_⟩))
                                  go_roundg k3
                                  case measure => have := HK1.out; have := HK2.out; have := HK3.out; omega
                                  case rel => exact ⟨(wrap64 (x23_3 + 1)), (by first | rfl | (simp; done) | (simp [*]; done)), H', ⟨by have := HK1.out; have := HK2.out; have := HK3.out; omega⟩, by repeat (first | exact Drawn0.refl _ | apply Drawn0.step)⟩
                                · replace c12 := Bool.eq_false_iff.mpr c12
                                  subst c12
                                  have H1 : (some false) = some r := by rw [if_neg (show ¬ (false = true) by decide)] at H; exact H
                                  clear H
                                  have H := H1
                                  clear H1
                                  obtain rfl := Option.some.inj H
                                  have p125 : 0 ≤ (x23_3 : Int) := of_decide_eq_true (by first | (with_reducible assumption) | assumption)
                                  have q125 : x23_3 < ((rd_L5 (rd_L6 l0 x11_1) x17_2).length : Int) := of_decide_eq_true (by first | (with_reducible assumption) | assumption)
                                  obtain ⟨ad125, e125, hx125_0⟩ := Kd.at_string HR124_0.out x23_3 p125 q125
                                  cases e125
                                  replace p125 := eq_true p125
                                  replace q125 := eq_true q125
                                  go_wp2_with (first | ((with_reducible refine gate_callee (f := 9) rfl ?_); refine goesL_ (some 28) rfl rfl Tryd.func9 (by kernel_rfl) rfl #[.string (rdOf ByteArray.empty (rd_L5 (rd_L6 l0 x11_1) x17_2) x23_3)] rfl (by (try simp only [List.map_toArray, List.map_cons, List.map_nil]); first | done | rfl | (simp only [List.length_drop, List.length_take]; rfl)) ?_; (with_reducible refine (spec_Ascii.calls k3 (rdOf ByteArray.empty (rd_L5 (rd_L6 l0 x11_1) x17_2) x23_3) false _ A11.out).mono ?_); rintro e w' ⟨rfl, ⟨nd, rfl⟩⟩; refine ⟨_, rfl, ?_⟩))
                                  go_ret
                                  exact ⟨by first | rfl | (simp; done) | (simp [*]; done), by repeat (first | exact Drawn0.refl _ | apply Drawn0.step)⟩
                              · rw [if_neg c10] at H
                                exact absurd H (by simp)
                            · rw [if_neg c9] at H
                              exact absurd H (by simp)
                          · rw [if_neg c8] at H
                            have c8b0 : decide (x23_3 < ((rd_L5 (rd_L6 l0 x11_1) x17_2).length : Int)) = false := decide_eq_false c8
                            clear c8
                            have H' := Aside0.mk H
                            clear H
                            go_wp2
                            go_roundg k3
                            case measure => have := HK1.out; have := HK2.out; have := HK3.out; omega
                            case rel => exact ⟨(wrap64 (x17_2 + 1)), (by first | rfl | (simp; done) | (simp [*]; done)), H', ⟨by have := HK1.out; have := HK2.out; have := HK3.out; omega⟩, by repeat (first | exact Drawn0.refl _ | apply Drawn0.step)⟩
                    · rw [if_neg c7] at H
                      exact absurd H (by simp)
                  · rw [if_neg c6] at H
                    exact absurd H (by simp)
                · rw [if_neg c5] at H
                  have c5b0 : decide (x17_2 < ((rd_L6 l0 x11_1).length : Int)) = false := decide_eq_false c5
                  clear c5
                  have H' := Aside0.mk H
                  clear H
                  go_wp2
                  go_roundg k2
                  case measure => have := HK1.out; have := HK2.out; omega
                  case rel => exact ⟨(wrap64 (x11_1 + 1)), (by first | rfl | (simp; done) | (simp [*]; done)), H', ⟨by have := HK1.out; have := HK2.out; omega⟩, by repeat (first | exact Drawn0.refl _ | apply Drawn0.step)⟩
          · rw [if_neg c4] at H
            exact absurd H (by simp)
        · rw [if_neg c3] at H
          exact absurd H (by simp)
      · rw [if_neg c2] at H
        have c2b0 : decide (x11_1 < (l0.length : Int)) = false := decide_eq_false c2
        clear c2
        obtain rfl := Option.some.inj H
        go_wp2
        go_ret
        exact ⟨by first | rfl | (simp; done) | (simp [*]; done), by repeat (first | exact Drawn0.refl _ | apply Drawn0.step)⟩

/-! ### laws_terms: function 20 -/
mutual
def laws_terms.l0 : Nat → List (List (List ByteArray)) → Int → List (List (List ByteArray)) → Int → Int → Option (Bool)
  | 0, _, _, _, _, _ => none
  | k + 1, x0, x5, x15, x16, x17 => if x17 < x16 then (if 0 ≤ x17 then (if x17 < (x15.length : Int) then (laws_terms.l1 k x0 (wrap64 (x5 + ((rd_L6 x15 x17).length : Int))) x15 x16 x17 (rd_L6 x15 x17) ((rd_L6 x15 x17).length : Int) 0) else (none)) else (none)) else (if x5 ≤ 2000 then ((spec_AsciiAll.f k x0).bind fun t127 => (some t127)) else (some false))
def laws_terms.l1 : Nat → List (List (List ByteArray)) → Int → List (List (List ByteArray)) → Int → Int → List (List ByteArray) → Int → Int → Option (Bool)
  | 0, _, _, _, _, _, _, _, _ => none
  | k + 1, x0, x5, x15, x16, x17, x25, x26, x27 => if x27 < x26 then (if 0 ≤ x27 then (if x27 < (x25.length : Int) then (laws_terms.l1 k x0 (wrap64 (x5 + ((rd_L5 x25 x27).length : Int))) x15 x16 x17 x25 x26 (wrap64 (x27 + 1))) else (none)) else (none)) else (laws_terms.l0 k x0 x5 x15 x16 (wrap64 (x17 + 1)))
end
def laws_terms.f (k : Nat) (l0 : List (List (List ByteArray))) (l1 : List ByteArray) : Option (Bool) := laws_terms.l0 k l0 (wrap64 ((l1.length : Int) + (l0.length : Int))) l0 (l0.length : Int) 0
theorem laws_terms.mono_l : ∀ k, (∀ y0 y1 y2 y3 y4, LeO (laws_terms.l0 k y0 y1 y2 y3 y4) (laws_terms.l0 (k + 1) y0 y1 y2 y3 y4)) ∧ (∀ y0 y1 y2 y3 y4 y5 y6 y7, LeO (laws_terms.l1 k y0 y1 y2 y3 y4 y5 y6 y7) (laws_terms.l1 (k + 1) y0 y1 y2 y3 y4 y5 y6 y7))
  | 0 => ⟨fun _ _ _ _ _ r h => by simp [laws_terms.l0] at h, fun _ _ _ _ _ _ _ _ r h => by simp [laws_terms.l1] at h⟩
  | k + 1 => by
    obtain ⟨ih0, ih1⟩ := laws_terms.mono_l k
    refine ⟨?_, ?_⟩
    · intro y0 y1 y2 y3 y4
      unfold laws_terms.l0
      repeat' first
      | (with_reducible exact ih0 _ _ _ _ _)
      | (with_reducible exact ih1 _ _ _ _ _ _ _ _)
      | (with_reducible exact spec_AsciiAll.mono _ _)
      | (with_reducible exact LeO.refl _)
      | (with_reducible exact LeO.none _)
      | (with_reducible refine LeO.ite ?_ ?_)
      | (with_reducible refine LeO.bind ?_ (fun _ => ?_))
      | exact ih0 _ _ _ _ _
      | exact ih1 _ _ _ _ _ _ _ _
      | exact spec_AsciiAll.mono _ _
      | exact LeO.none _
      | refine LeO.ite ?_ ?_
      | refine LeO.bind ?_ (fun _ => ?_)
    · intro y0 y1 y2 y3 y4 y5 y6 y7
      unfold laws_terms.l1
      repeat' first
      | (with_reducible exact ih0 _ _ _ _ _)
      | (with_reducible exact ih1 _ _ _ _ _ _ _ _)
      | (with_reducible exact spec_AsciiAll.mono _ _)
      | (with_reducible exact LeO.refl _)
      | (with_reducible exact LeO.none _)
      | (with_reducible refine LeO.ite ?_ ?_)
      | (with_reducible refine LeO.bind ?_ (fun _ => ?_))
      | exact ih0 _ _ _ _ _
      | exact ih1 _ _ _ _ _ _ _ _
      | exact spec_AsciiAll.mono _ _
      | exact LeO.none _
      | refine LeO.ite ?_ ?_
      | refine LeO.bind ?_ (fun _ => ?_)
theorem laws_terms.mono : ∀ a0 a1 k, LeO (laws_terms.f k a0 a1) (laws_terms.f (k + 1) a0 a1) := by
  intro a0 a1 k
  obtain ⟨ih0, ih1⟩ := laws_terms.mono_l k
  unfold laws_terms.f
  repeat' first
      | (with_reducible exact ih0 _ _ _ _ _)
      | (with_reducible exact ih1 _ _ _ _ _ _ _ _)
      | (with_reducible exact spec_AsciiAll.mono _ _)
      | (with_reducible exact LeO.refl _)
      | (with_reducible exact LeO.none _)
      | (with_reducible refine LeO.ite ?_ ?_)
      | (with_reducible refine LeO.bind ?_ (fun _ => ?_))
      | exact ih0 _ _ _ _ _
      | exact ih1 _ _ _ _ _ _ _ _
      | exact spec_AsciiAll.mono _ _
      | exact LeO.none _
      | refine LeO.ite ?_ ?_
      | refine LeO.bind ?_ (fun _ => ?_)
set_option maxHeartbeats 8000000 in
set_option maxRecDepth 100000 in
theorem laws_terms.calls (k : Nat) (A0 : Option Addr) (c0 : Nat) (l0 : List (List (List ByteArray))) (A1 : Option Addr) (c1 : Nat) (l1 : List ByteArray) (r : Bool) (w : World) (hr0 : Kd.C (Kd.slice 22 (Kd.slice 9 Kd.string)) w A0 l0.length l0) (hc0 : l0.length ≤ c0) (hr1 : Kd.C Kd.string w A1 l1.length l1) (hc1 : l1.length ≤ c1) (h : laws_terms.f k l0 l1 = some r) :
    Calls Tryd.prog 20 #[.slice A0 l0.length c0, .slice A1 l1.length c1] w fun e w' => e = .returned (.bool r) ∧ Drawn0 w w' := by
  have HR0 := Aside0.mk hr0
  have HC0 := Aside0.mk hc0
  clear hr0 hc0
  have HR1 := Aside0.mk hr1
  have HC1 := Aside0.mk hc1
  clear hr1 hc1
  have H : (laws_terms.l0 k l0 (wrap64 ((l1.length : Int) + (l0.length : Int))) l0 (l0.length : Int) 0) = some r := h
  clear h
  have H' := Aside0.mk H
  clear H
  go_enter Tryd.func20, Tryd.ntmps20
  go_wp2
  go_loopg [5, 17] k (fun kq v5 v17 w' => ∃ (x5_1 : Int) (x17_1 : Int), v5 = .int .i64 x5_1 ∧ v17 = .int .i64 x17_1 ∧ Aside0 (laws_terms.l0 kq l0 x5_1 l0 (l0.length : Int) x17_1 = some r) ∧ Aside0 (kq ≤ k) ∧ Drawn0 w w')
  case atStart => exact ⟨(wrap64 ((l1.length : Int) + (l0.length : Int))), (0), (by first | rfl | (simp; done) | (simp [*]; done)), (by first | rfl | (simp; done) | (simp [*]; done)), H', ⟨Nat.le_refl _⟩, by repeat (first | exact Drawn0.refl _ | apply Drawn0.step)⟩
  case round =>
    clear H'
    try clear c1
    try clear c2
    try clear p2
    obtain ⟨x5_1, x17_1, rfl, rfl, HA, HK1, ⟨m1, rfl⟩⟩ := hrel
    cases gk with
    | zero => exact absurd HA.out (by simp [laws_terms.l0])
    | succ k1 =>
      have H := HA.out
      clear HA
      simp only [laws_terms.l0] at H
      by_cases c3 : x17_1 < (l0.length : Int)
      · rw [if_pos c3] at H
        have c3b0 : decide (x17_1 < (l0.length : Int)) = true := decide_eq_true c3
        clear c3
        by_cases c4 : 0 ≤ x17_1
        · rw [if_pos c4] at H
          have c4b0 : decide (0 ≤ x17_1) = true := decide_eq_true c4
          clear c4
          by_cases c5 : x17_1 < (l0.length : Int)
          · rw [if_pos c5] at H
            have c5b0 : decide (x17_1 < (l0.length : Int)) = true := decide_eq_true c5
            clear c5
            have H' := Aside0.mk H
            clear H
            have p128 : 0 ≤ (x17_1 : Int) := of_decide_eq_true (by first | (with_reducible assumption) | assumption)
            have q128 : x17_1 < (l0.length : Int) := of_decide_eq_true (by first | (with_reducible assumption) | assumption)
            obtain ⟨ad128, A128_0, c128_0, e128, hx128_0, hl128_0, hi128_0⟩ := at_L6 HR0.out x17_1 p128 q128
            cases e128
            have HR128_0 := Aside0.mk hi128_0
            have HC128_0 := Aside0.mk hl128_0
            clear hi128_0 hl128_0
            replace p128 := eq_true p128
            replace q128 := eq_true q128
            go_wp2
            go_loopg [5, 27] k1 (fun kq v5 v27 w' => ∃ (x5_2 : Int) (x27_2 : Int), v5 = .int .i64 x5_2 ∧ v27 = .int .i64 x27_2 ∧ Aside0 (laws_terms.l1 kq l0 x5_2 l0 (l0.length : Int) x17_1 (rd_L6 l0 x17_1) ((rd_L6 l0 x17_1).length : Int) x27_2 = some r) ∧ Aside0 (kq ≤ k1) ∧ Drawn0 w w')
            case atStart => exact ⟨(wrap64 (x5_1 + ((rd_L6 l0 x17_1).length : Int))), (0), (by first | rfl | (simp; done) | (simp [*]; done)), (by first | rfl | (simp; done) | (simp [*]; done)), H', ⟨Nat.le_refl _⟩, by repeat (first | exact Drawn0.refl _ | apply Drawn0.step)⟩
            case round =>
              clear H'
              try clear c1
              try clear p1
              try clear q1
              try clear hx1
              try clear c2
              try clear p2
              try clear c3
              try clear c3b0
              try clear c4
              try clear c4b0
              try clear c5
              try clear c5b0
              try clear hx128_0
              try clear p128
              try clear p2
              try clear q128
              obtain ⟨x5_2, x27_2, rfl, rfl, HA, HK2, ⟨m2, rfl⟩⟩ := hrel
              cases gk with
              | zero => exact absurd HA.out (by simp [laws_terms.l1])
              | succ k2 =>
                have H := HA.out
                clear HA
                simp only [laws_terms.l1] at H
                by_cases c6 : x27_2 < ((rd_L6 l0 x17_1).length : Int)
                · rw [if_pos c6] at H
                  have c6b0 : decide (x27_2 < ((rd_L6 l0 x17_1).length : Int)) = true := decide_eq_true c6
                  clear c6
                  by_cases c7 : 0 ≤ x27_2
                  · rw [if_pos c7] at H
                    have c7b0 : decide (0 ≤ x27_2) = true := decide_eq_true c7
                    clear c7
                    by_cases c8 : x27_2 < ((rd_L6 l0 x17_1).length : Int)
                    · rw [if_pos c8] at H
                      have c8b0 : decide (x27_2 < ((rd_L6 l0 x17_1).length : Int)) = true := decide_eq_true c8
                      clear c8
                      have H' := Aside0.mk H
                      clear H
                      have p129 : 0 ≤ (x27_2 : Int) := of_decide_eq_true (by first | (with_reducible assumption) | assumption)
                      have q129 : x27_2 < ((rd_L6 l0 x17_1).length : Int) := of_decide_eq_true (by first | (with_reducible assumption) | assumption)
                      obtain ⟨ad129, A129_0, c129_0, e129, hx129_0, hl129_0, hi129_0⟩ := at_L5 HR128_0.out x27_2 p129 q129
                      cases e129
                      have HR129_0 := Aside0.mk hi129_0
                      have HC129_0 := Aside0.mk hl129_0
                      clear hi129_0 hl129_0
                      replace p129 := eq_true p129
                      replace q129 := eq_true q129
                      go_wp2
                      go_roundg k2
                      case measure => have := HK1.out; have := HK2.out; omega
                      case rel => exact ⟨(wrap64 (x5_2 + ((rd_L5 (rd_L6 l0 x17_1) x27_2).length : Int))), (wrap64 (x27_2 + 1)), (by first | rfl | (simp; done) | (simp [*]; done)), (by first | rfl | (simp; done) | (simp [*]; done)), H', ⟨by have := HK1.out; have := HK2.out; omega⟩, by repeat (first | exact Drawn0.refl _ | apply Drawn0.step)⟩
                    · rw [if_neg c8] at H
                      exact absurd H (by simp)
                  · rw [if_neg c7] at H
                    exact absurd H (by simp)
                · rw [if_neg c6] at H
                  have c6b0 : decide (x27_2 < ((rd_L6 l0 x17_1).length : Int)) = false := decide_eq_false c6
                  clear c6
                  have H' := Aside0.mk H
                  clear H
                  go_wp2
                  go_roundg k2
                  case measure => have := HK1.out; have := HK2.out; omega
                  case rel => exact ⟨(x5_2), (wrap64 (x17_1 + 1)), (by first | rfl | (simp; done) | (simp [*]; done)), (by first | rfl | (simp; done) | (simp [*]; done)), H', ⟨by have := HK1.out; have := HK2.out; omega⟩, by repeat (first | exact Drawn0.refl _ | apply Drawn0.step)⟩
          · rw [if_neg c5] at H
            exact absurd H (by simp)
        · rw [if_neg c4] at H
          exact absurd H (by simp)
      · rw [if_neg c3] at H
        have c3b0 : decide (x17_1 < (l0.length : Int)) = false := decide_eq_false c3
        clear c3
        by_cases c9 : x5_1 ≤ 2000
        · rw [if_pos c9] at H
          have c9b0 : decide (x5_1 ≤ 2000) = true := decide_eq_true c9
          clear c9
          replace H := Option.bind_eq_some_iff.mp H
          obtain ⟨t127, A100, H⟩ := H
          replace H : (some t127) = some r := H
          have A10 := Aside0.mk A100
          clear A100
          obtain rfl := Option.some.inj H
          go_wp2_with (first | (go_at_call 44; (with_reducible refine (spec_AsciiAll.calls k1 _ _ l0 t127 _ ?side1 ?side2 A10.out).mono ?_); (case side1 => repeat (first | exact HR0.out | (with_reducible refine Kd.C_alloc ?_ _) | (with_reducible refine Kd.C_drewN ?_ _) | (with_reducible refine Kd.C_drew ?_))); (case side2 => exact HC0.out); rintro e w' ⟨rfl, ⟨nd, rfl⟩⟩))
          go_ret
          exact ⟨by first | rfl | (simp; done) | (simp [*]; done), by repeat (first | exact Drawn0.refl _ | apply Drawn0.step)⟩
        · rw [if_neg c9] at H
          have c9b0 : decide (x5_1 ≤ 2000) = false := decide_eq_false c9
          clear c9
          obtain rfl := Option.some.inj H
          go_wp2
          go_ret
          exact ⟨by first | rfl | (simp; done) | (simp [*]; done), by repeat (first | exact Drawn0.refl _ | apply Drawn0.step)⟩

/-! ### spec_TermParts: function 11 -/
def spec_TermParts.f (a0 : ByteArray) : Option (Bool × ByteArray) := if (a0.size : Int) > 0 then (if 0 < (a0.size : Int) then (if (bt a0 0) = 33 then (if 1 ≤ (a0.size : Int) then (some (true, a0.extract 1 a0.size)) else (none)) else (some (false, a0))) else (none)) else (some (false, a0))
set_option maxHeartbeats 8000000 in
set_option maxRecDepth 100000 in
theorem spec_TermParts.calls (a0 : ByteArray) (r1 : Bool) (r2 : ByteArray) (w : World) (h : spec_TermParts.f a0 = some (r1, r2)) :
    Calls Tryd.prog 11 #[.string a0] w fun e w' => e = .returned (.tuple #[.bool r1, .string r2]) ∧ Drawn0 w w' := by
  have H : (if (a0.size : Int) > 0 then (if 0 < (a0.size : Int) then (if (bt a0 0) = 33 then (if 1 ≤ (a0.size : Int) then (some (true, a0.extract 1 a0.size)) else (none)) else (some (false, a0))) else (none)) else (some (false, a0))) = some (r1, r2) := h
  clear h
  by_cases c2 : (a0.size : Int) > 0
  · rw [if_pos c2] at H
    have c2b0 : decide (0 < (a0.size : Int)) = true := decide_eq_true c2
    have c2b1 : decide (0 < a0.size) = true := decide_eq_true (by omega)
    clear c2
    by_cases c3 : 0 < (a0.size : Int)
    · rw [if_pos c3] at H
      have c3b0 : decide (0 < (a0.size : Int)) = true := decide_eq_true c3
      have c3b1 : decide (0 < a0.size) = true := decide_eq_true (by omega)
      clear c3
      by_cases c5 : (bt a0 0) = 33
      · rw [if_pos c5] at H
        have c5b0 : ((bt a0 0) == 33) = true := beq_iff_eq.mpr c5
        have c5b1 : ((bt a0 0) != 33) = false := bne_eq_false_iff_eq.mpr c5
        clear c5
        by_cases c6 : 1 ≤ (a0.size : Int)
        · rw [if_pos c6] at H
          have c6b0 := eq_true c6
          have c6b1 : decide (1 ≤ (a0.size : Int)) = true := decide_eq_true c6
          clear c6
          simp only [Option.some.injEq, Prod.mk.injEq] at H
          obtain ⟨rfl, rfl⟩ := H
          have p4 : 0 ≤ (0 : Int) := (by omega)
          have q4 : 0 < a0.size := (by have : (0 : Int) < (a0.size : Int) := of_decide_eq_true (by first | (with_reducible assumption) | assumption); omega)
          have hx4 : ∀ h : 0 < a0.size, ((a0[0]'h).toNat : Int) = bt a0 0 := bt_at a0 0
          clear p4
          have qi4 : (0 < (a0.size : Int)) = True := eq_true (of_decide_eq_true (by first | (with_reducible assumption) | assumption))
          replace q4 := eq_true q4
          go_enter Tryd.func11, Tryd.ntmps11
          go_wp2
          repeat (go_quiet (fail); try go_wp2)
          go_ret2
          exact ⟨by first | rfl | (simp; done) | (simp [*]; done), by repeat (first | exact Drawn0.refl _ | apply Drawn0.step)⟩
        · rw [if_neg c6] at H
          exact absurd H (by simp)
      · rw [if_neg c5] at H
        have c5b0 : ((bt a0 0) == 33) = false := beq_eq_false_iff_ne.mpr c5
        have c5b1 : ((bt a0 0) != 33) = true := bne_iff_ne.mpr c5
        simp only [Option.some.injEq, Prod.mk.injEq] at H
        obtain ⟨rfl, rfl⟩ := H
        have p4 : 0 ≤ (0 : Int) := (by omega)
        have q4 : 0 < a0.size := (by have : (0 : Int) < (a0.size : Int) := of_decide_eq_true (by first | (with_reducible assumption) | assumption); omega)
        have hx4 : ∀ h : 0 < a0.size, ((a0[0]'h).toNat : Int) = bt a0 0 := bt_at a0 0
        clear p4
        have qi4 : (0 < (a0.size : Int)) = True := eq_true (of_decide_eq_true (by first | (with_reducible assumption) | assumption))
        replace q4 := eq_true q4
        go_enter Tryd.func11, Tryd.ntmps11
        go_wp2
        repeat (go_quiet (fail); try go_wp2)
        go_ret2
        exact ⟨by first | rfl | (simp; done) | (simp [*]; done), by repeat (first | exact Drawn0.refl _ | apply Drawn0.step)⟩
    · rw [if_neg c3] at H
      exact absurd H (by simp)
  · rw [if_neg c2] at H
    have c2b0 : decide (0 < (a0.size : Int)) = false := decide_eq_false c2
    have c2b1 : decide (0 < a0.size) = false := decide_eq_false (by omega)
    clear c2
    simp only [Option.some.injEq, Prod.mk.injEq] at H
    obtain ⟨rfl, rfl⟩ := H
    go_enter Tryd.func11, Tryd.ntmps11
    go_wp2
    repeat (go_quiet (fail); try go_wp2)
    go_ret2
    exact ⟨by first | rfl | (simp; done) | (simp [*]; done), by repeat (first | exact Drawn0.refl _ | apply Drawn0.step)⟩

end Go.Proofs.YtknldfighehplaaDoor.PFnTextBack
