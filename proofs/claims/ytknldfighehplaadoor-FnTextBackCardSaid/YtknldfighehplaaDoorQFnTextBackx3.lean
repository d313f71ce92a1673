/- Contracts of functions that FnTextBack reaches, as its print has them; conditions: lengths, and the slices' cells as they were read. -/
import Derived.Test.YtknldfighehplaaDoorPFnTextBackx0
import Derived.Test.YtknldfighehplaaDoorPFnTextBackx2
namespace Go.Proofs.YtknldfighehplaaDoor.PFnTextBack
open Go.RowKit Go.Proofs.YtknldfighehplaaDoorW.PrintWords Go.Proofs.YtknldfighehplaaDoorW.PrintLast Go.Proofs.YtknldfighehplaaDoorW.PrintMore
attribute [local go_sem] max2_int min2_int max_two min_two max_three min_three max_four min_four
set_option linter.unusedVariables false
set_option linter.unusedSimpArgs false

theorem q_empty (l : List UInt8) : l.isEmpty = !(l != []) := by cases l <;> rfl
/-! ### spec_TermValid: function 13 -/
def spec_TermValid.l0 : Nat → ByteArray → Int → Option (Bool)
  | 0, _, _ => none
  | k + 1, x4, x5 => if x5 < (x4.size : Int) then (if 0 ≤ x5 then (if (bt x4 x5) ≥ 97 then (if (bt x4 x5) ≤ 122 then (spec_TermValid.l0 k x4 (wrap64 (x5 + 1))) else (if (bt x4 x5) ≥ 65 then (if (bt x4 x5) ≤ 90 then (spec_TermValid.l0 k x4 (wrap64 (x5 + 1))) else (if (bt x4 x5) ≥ 48 then (if (bt x4 x5) ≤ 57 then (spec_TermValid.l0 k x4 (wrap64 (x5 + 1))) else (if (bt x4 x5) = 95 then (spec_TermValid.l0 k x4 (wrap64 (x5 + 1))) else (if ((bt x4 x5) = 46) then (spec_TermValid.l0 k x4 (wrap64 (x5 + 1))) else (some false)))) else (if (bt x4 x5) = 95 then (spec_TermValid.l0 k x4 (wrap64 (x5 + 1))) else (if ((bt x4 x5) = 46) then (spec_TermValid.l0 k x4 (wrap64 (x5 + 1))) else (some false))))) else (if (bt x4 x5) ≥ 48 then (if (bt x4 x5) ≤ 57 then (spec_TermValid.l0 k x4 (wrap64 (x5 + 1))) else (if (bt x4 x5) = 95 then (spec_TermValid.l0 k x4 (wrap64 (x5 + 1))) else (if ((bt x4 x5) = 46) then (spec_TermValid.l0 k x4 (wrap64 (x5 + 1))) else (some false)))) else (if (bt x4 x5) = 95 then (spec_TermValid.l0 k x4 (wrap64 (x5 + 1))) else (if ((bt x4 x5) = 46) then (spec_TermValid.l0 k x4 (wrap64 (x5 + 1))) else (some false)))))) else (if (bt x4 x5) ≥ 65 then (if (bt x4 x5) ≤ 90 then (spec_TermValid.l0 k x4 (wrap64 (x5 + 1))) else (if (bt x4 x5) ≥ 48 then (if (bt x4 x5) ≤ 57 then (spec_TermValid.l0 k x4 (wrap64 (x5 + 1))) else (if (bt x4 x5) = 95 then (spec_TermValid.l0 k x4 (wrap64 (x5 + 1))) else (if ((bt x4 x5) = 46) then (spec_TermValid.l0 k x4 (wrap64 (x5 + 1))) else (some false)))) else (if (bt x4 x5) = 95 then (spec_TermValid.l0 k x4 (wrap64 (x5 + 1))) else (if ((bt x4 x5) = 46) then (spec_TermValid.l0 k x4 (wrap64 (x5 + 1))) else (some false))))) else (if (bt x4 x5) ≥ 48 then (if (bt x4 x5) ≤ 57 then (spec_TermValid.l0 k x4 (wrap64 (x5 + 1))) else (if (bt x4 x5) = 95 then (spec_TermValid.l0 k x4 (wrap64 (x5 + 1))) else (if ((bt x4 x5) = 46) then (spec_TermValid.l0 k x4 (wrap64 (x5 + 1))) else (some false)))) else (if (bt x4 x5) = 95 then (spec_TermValid.l0 k x4 (wrap64 (x5 + 1))) else (if ((bt x4 x5) = 46) then (spec_TermValid.l0 k x4 (wrap64 (x5 + 1))) else (some false)))))) else (none)) else (some (x4.toList != ([] : List UInt8)))
def spec_TermValid.f (k : Nat) (a0 : ByteArray) : Option (Bool) := (spec_TermParts.f a0).bind fun bt130 => (spec_TermValid.l0 k bt130.2 0)
theorem spec_TermValid.mono_l : ∀ k, (∀ y0 y1, LeO (spec_TermValid.l0 k y0 y1) (spec_TermValid.l0 (k + 1) y0 y1))
  | 0 => fun _ _ r h => by simp [spec_TermValid.l0] at h
  | k + 1 => by
    have ih0 := spec_TermValid.mono_l k
    · intro y0 y1
      unfold spec_TermValid.l0
      repeat' first
      | (with_reducible exact ih0 _ _)
      | (with_reducible exact LeO.refl _)
      | (with_reducible exact LeO.none _)
      | (with_reducible refine LeO.ite ?_ ?_)
      | (with_reducible refine LeO.bind ?_ (fun _ => ?_))
      | exact ih0 _ _
      | exact LeO.none _
      | refine LeO.ite ?_ ?_
      | refine LeO.bind ?_ (fun _ => ?_)
theorem spec_TermValid.mono : ∀ a0 k, LeO (spec_TermValid.f k a0) (spec_TermValid.f (k + 1) a0) := by
  intro a0 k
  have ih0 := spec_TermValid.mono_l k
  unfold spec_TermValid.f
  repeat' first
      | (with_reducible exact ih0 _ _)
      | (with_reducible exact LeO.refl _)
      | (with_reducible exact LeO.none _)
      | (with_reducible refine LeO.ite ?_ ?_)
      | (with_reducible refine LeO.bind ?_ (fun _ => ?_))
      | exact ih0 _ _
      | exact LeO.none _
      | refine LeO.ite ?_ ?_
      | refine LeO.bind ?_ (fun _ => ?_)
set_option maxHeartbeats 8000000 in
set_option maxRecDepth 100000 in
theorem spec_TermValid.calls (k : Nat) (a0 : ByteArray) (r : Bool) (w : World) (h : spec_TermValid.f k a0 = some r) :
    Calls Tryd.prog 13 #[.string a0] w fun e w' => e = .returned (.bool r) ∧ Drawn0 w w' := by
  have H : ((spec_TermParts.f a0).bind fun bt130 => (spec_TermValid.l0 k bt130.2 0)) = some r := h
  clear h
  replace H := Option.bind_eq_some_iff.mp H
  obtain ⟨⟨t130, t131⟩, A20, H⟩ := H
  replace H : (spec_TermValid.l0 k t131 0) = some r := H
  have A2 := Aside0.mk A20
  clear A20
  have H' := Aside0.mk H
  clear H
  go_enter Tryd.func13, Tryd.ntmps13
  go_wp2_with (first | ((with_reducible refine gate_callee (f := 11) rfl ?_); refine goesL_ (some 9) rfl rfl Tryd.func11 (by kernel_rfl) rfl #[.string a0] rfl (by (try simp only [List.map_toArray, List.map_cons, List.map_nil]); first | done | rfl | (simp only [List.length_drop, List.length_take]; rfl)) ?_; (with_reducible refine (spec_TermParts.calls a0 t130 t131 _ A2.out).mono ?_); rintro e w' ⟨rfl, ⟨nd, rfl⟩⟩; refine ⟨_, rfl, ?_⟩))
  go_loopg [5] k (fun kq v5 w' => ∃ (x5_1 : Int), v5 = .int .i64 x5_1 ∧ Aside0 (spec_TermValid.l0 kq t131 x5_1 = some r) ∧ Aside0 (kq ≤ k) ∧ Drawn0 w w')
  case atStart => exact ⟨(0), (by first | rfl | (simp; done) | (simp [*]; done)), H', ⟨Nat.le_refl _⟩, by repeat (first | exact Drawn0.refl _ | apply Drawn0.step)⟩
  case round =>
    clear H'
    try clear c1
    try clear p2
    obtain ⟨x5_1, rfl, HA, HK1, ⟨m1, rfl⟩⟩ := hrel
    cases gk with
    | zero => exact absurd HA.out (by simp [spec_TermValid.l0])
    | succ k1 =>
      have H := HA.out
      clear HA
      simp only [spec_TermValid.l0] at H
      by_cases c3 : x5_1 < (t131.size : Int)
      · rw [if_pos c3] at H
        have c3b0 : decide (x5_1 < (t131.size : Int)) = true := decide_eq_true c3
        clear c3
        by_cases c4 : 0 ≤ x5_1
        · rw [if_pos c4] at H
          have c4b0 : decide (0 ≤ x5_1) = true := decide_eq_true c4
          clear c4
          by_cases c6 : (bt t131 x5_1) ≥ 97
          · rw [if_pos c6] at H
            have c6b0 : decide (97 ≤ (bt t131 x5_1)) = true := decide_eq_true c6
            clear c6
            by_cases c7 : (bt t131 x5_1) ≤ 122
            · rw [if_pos c7] at H
              have c7b0 : decide ((bt t131 x5_1) ≤ 122) = true := decide_eq_true c7
              clear c7
              have H' := Aside0.mk H
              clear H
              have p5 : 0 ≤ (x5_1 : Int) := of_decide_eq_true (by first | (with_reducible assumption) | assumption)
              have q5 : x5_1 < (t131.size : Int) := of_decide_eq_true (by first | (with_reducible assumption) | assumption)
              have hx5 := bt_at t131 x5_1
              replace p5 := eq_true p5
              replace q5 := eq_true q5
              go_wp2
              go_roundg k1
              case measure => have := HK1.out; omega
              case rel => exact ⟨(wrap64 (x5_1 + 1)), (by first | rfl | (simp; done) | (simp [*]; done)), H', ⟨by have := HK1.out; omega⟩, by repeat (first | exact Drawn0.refl _ | apply Drawn0.step)⟩
            · rw [if_neg c7] at H
              have c7b0 : decide ((bt t131 x5_1) ≤ 122) = false := decide_eq_false c7
              clear c7
              by_cases c8 : (bt t131 x5_1) ≥ 65
              · rw [if_pos c8] at H
                have c8b0 : decide (65 ≤ (bt t131 x5_1)) = true := decide_eq_true c8
                clear c8
                by_cases c9 : (bt t131 x5_1) ≤ 90
                · rw [if_pos c9] at H
                  have c9b0 : decide ((bt t131 x5_1) ≤ 90) = true := decide_eq_true c9
                  clear c9
                  have H' := Aside0.mk H
                  clear H
                  have p5 : 0 ≤ (x5_1 : Int) := of_decide_eq_true (by first | (with_reducible assumption) | assumption)
                  have q5 : x5_1 < (t131.size : Int) := of_decide_eq_true (by first | (with_reducible assumption) | assumption)
                  have hx5 := bt_at t131 x5_1
                  replace p5 := eq_true p5
                  replace q5 := eq_true q5
                  go_wp2
                  go_roundg k1
                  case measure => have := HK1.out; omega
                  case rel => exact ⟨(wrap64 (x5_1 + 1)), (by first | rfl | (simp; done) | (simp [*]; done)), H', ⟨by have := HK1.out; omega⟩, by repeat (first | exact Drawn0.refl _ | apply Drawn0.step)⟩
                · rw [if_neg c9] at H
                  have c9b0 : decide ((bt t131 x5_1) ≤ 90) = false := decide_eq_false c9
                  clear c9
                  by_cases c10 : (bt t131 x5_1) ≥ 48
                  · rw [if_pos c10] at H
                    have c10b0 : decide (48 ≤ (bt t131 x5_1)) = true := decide_eq_true c10
                    clear c10
                    by_cases c11 : (bt t131 x5_1) ≤ 57
                    · rw [if_pos c11] at H
                      have c11b0 : decide ((bt t131 x5_1) ≤ 57) = true := decide_eq_true c11
                      clear c11
                      have H' := Aside0.mk H
                      clear H
                      have p5 : 0 ≤ (x5_1 : Int) := of_decide_eq_true (by first | (with_reducible assumption) | assumption)
                      have q5 : x5_1 < (t131.size : Int) := of_decide_eq_true (by first | (with_reducible assumption) | assumption)
                      have hx5 := bt_at t131 x5_1
                      replace p5 := eq_true p5
                      replace q5 := eq_true q5
                      go_wp2
                      go_roundg k1
                      case measure => have := HK1.out; omega
                      case rel => exact ⟨(wrap64 (x5_1 + 1)), (by first | rfl | (simp; done) | (simp [*]; done)), H', ⟨by have := HK1.out; omega⟩, by repeat (first | exact Drawn0.refl _ | apply Drawn0.step)⟩
                    · rw [if_neg c11] at H
                      have c11b0 : decide ((bt t131 x5_1) ≤ 57) = false := decide_eq_false c11
                      clear c11
                      by_cases c12 : (bt t131 x5_1) = 95
                      · rw [if_pos c12] at H
                        have c12b0 : ((bt t131 x5_1) == 95) = true := beq_iff_eq.mpr c12
                        have c12b1 : ((bt t131 x5_1) != 95) = false := bne_eq_false_iff_eq.mpr c12
                        clear c12
                        have H' := Aside0.mk H
                        clear H
                        have p5 : 0 ≤ (x5_1 : Int) := of_decide_eq_true (by first | (with_reducible assumption) | assumption)
                        have q5 : x5_1 < (t131.size : Int) := of_decide_eq_true (by first | (with_reducible assumption) | assumption)
                        have hx5 := bt_at t131 x5_1
                        replace p5 := eq_true p5
                        replace q5 := eq_true q5
                        go_wp2
                        go_roundg k1
                        case measure => have := HK1.out; omega
                        case rel => exact ⟨(wrap64 (x5_1 + 1)), (by first | rfl | (simp; done) | (simp [*]; done)), H', ⟨by have := HK1.out; omega⟩, by repeat (first | exact Drawn0.refl _ | apply Drawn0.step)⟩
                      · rw [if_neg c12] at H
                        have c12b0 : ((bt t131 x5_1) == 95) = false := beq_eq_false_iff_ne.mpr c12
                        have c12b1 : ((bt t131 x5_1) != 95) = true := bne_iff_ne.mpr c12
                        by_cases c13 : ((bt t131 x5_1) = 46)
                        · rw [if_pos c13] at H
                          have c13b0 : ((bt t131 x5_1) == 46) = true := beq_iff_eq.mpr c13
                          have c13b1 : ((bt t131 x5_1) != 46) = false := bne_eq_false_iff_eq.mpr c13
                          clear c13
                          have H' := Aside0.mk H
                          clear H
                          have p5 : 0 ≤ (x5_1 : Int) := of_decide_eq_true (by first | (with_reducible assumption) | assumption)
                          have q5 : x5_1 < (t131.size : Int) := of_decide_eq_true (by first | (with_reducible assumption) | assumption)
                          have hx5 := bt_at t131 x5_1
                          replace p5 := eq_true p5
                          replace q5 := eq_true q5
                          go_wp2
                          go_roundg k1
                          case measure => have := HK1.out; omega
                          case rel => exact ⟨(wrap64 (x5_1 + 1)), (by first | rfl | (simp; done) | (simp [*]; done)), H', ⟨by have := HK1.out; omega⟩, by repeat (first | exact Drawn0.refl _ | apply Drawn0.step)⟩
                        · rw [if_neg c13] at H
                          have c13b0 : ((bt t131 x5_1) == 46) = false := beq_eq_false_iff_ne.mpr c13
                          have c13b1 : ((bt t131 x5_1) != 46) = true := bne_iff_ne.mpr c13
                          obtain rfl := Option.some.inj H
                          have p5 : 0 ≤ (x5_1 : Int) := of_decide_eq_true (by first | (with_reducible assumption) | assumption)
                          have q5 : x5_1 < (t131.size : Int) := of_decide_eq_true (by first | (with_reducible assumption) | assumption)
                          have hx5 := bt_at t131 x5_1
                          replace p5 := eq_true p5
                          replace q5 := eq_true q5
                          go_wp2
                          go_ret
                          exact ⟨by first | rfl | (simp; done) | (simp [*]; done), by repeat (first | exact Drawn0.refl _ | apply Drawn0.step)⟩
                  · rw [if_neg c10] at H
                    have c10b0 : decide (48 ≤ (bt t131 x5_1)) = false := decide_eq_false c10
                    clear c10
                    by_cases c14 : (bt t131 x5_1) = 95
                    · rw [if_pos c14] at H
                      have c14b0 : ((bt t131 x5_1) == 95) = true := beq_iff_eq.mpr c14
                      have c14b1 : ((bt t131 x5_1) != 95) = false := bne_eq_false_iff_eq.mpr c14
                      clear c14
                      have H' := Aside0.mk H
                      clear H
                      have p5 : 0 ≤ (x5_1 : Int) := of_decide_eq_true (by first | (with_reducible assumption) | assumption)
                      have q5 : x5_1 < (t131.size : Int) := of_decide_eq_true (by first | (with_reducible assumption) | assumption)
                      have hx5 := bt_at t131 x5_1
                      replace p5 := eq_true p5
                      replace q5 := eq_true q5
                      go_wp2
                      go_roundg k1
                      case measure => have := HK1.out; omega
                      case rel => exact ⟨(wrap64 (x5_1 + 1)), (by first | rfl | (simp; done) | (simp [*]; done)), H', ⟨by have := HK1.out; omega⟩, by repeat (first | exact Drawn0.refl _ | apply Drawn0.step)⟩
                    · rw [if_neg c14] at H
                      have c14b0 : ((bt t131 x5_1) == 95) = false := beq_eq_false_iff_ne.mpr c14
                      have c14b1 : ((bt t131 x5_1) != 95) = true := bne_iff_ne.mpr c14
                      by_cases c15 : ((bt t131 x5_1) = 46)
                      · rw [if_pos c15] at H
                        have c15b0 : ((bt t131 x5_1) == 46) = true := beq_iff_eq.mpr c15
                        have c15b1 : ((bt t131 x5_1) != 46) = false := bne_eq_false_iff_eq.mpr c15
                        clear c15
                        have H' := Aside0.mk H
                        clear H
                        have p5 : 0 ≤ (x5_1 : Int) := of_decide_eq_true (by first | (with_reducible assumption) | assumption)
                        have q5 : x5_1 < (t131.size : Int) := of_decide_eq_true (by first | (with_reducible assumption) | assumption)
                        have hx5 := bt_at t131 x5_1
                        replace p5 := eq_true p5
                        replace q5 := eq_true q5
                        go_wp2
                        go_roundg k1
                        case measure => have := HK1.out; omega
                        case rel => exact ⟨(wrap64 (x5_1 + 1)), (by first | rfl | (simp; done) | (simp [*]; done)), H', ⟨by have := HK1.out; omega⟩, by repeat (first | exact Drawn0.refl _ | apply Drawn0.step)⟩
                      · rw [if_neg c15] at H
                        have c15b0 : ((bt t131 x5_1) == 46) = false := beq_eq_false_iff_ne.mpr c15
                        have c15b1 : ((bt t131 x5_1) != 46) = true := bne_iff_ne.mpr c15
                        obtain rfl := Option.some.inj H
                        have p5 : 0 ≤ (x5_1 : Int) := of_decide_eq_true (by first | (with_reducible assumption) | assumption)
                        have q5 : x5_1 < (t131.size : Int) := of_decide_eq_true (by first | (with_reducible assumption) | assumption)
                        have hx5 := bt_at t131 x5_1
                        replace p5 := eq_true p5
                        replace q5 := eq_true q5
                        go_wp2
                        go_ret
                        exact ⟨by first | rfl | (simp; done) | (simp [*]; done), by repeat (first | exact Drawn0.refl _ | apply Drawn0.step)⟩
              · rw [if_neg c8] at H
                have c8b0 : decide (65 ≤ (bt t131 x5_1)) = false := decide_eq_false c8
                clear c8
                by_cases c16 : (bt t131 x5_1) ≥ 48
                · rw [if_pos c16] at H
                  have c16b0 : decide (48 ≤ (bt t131 x5_1)) = true := decide_eq_true c16
                  clear c16
                  by_cases c17 : (bt t131 x5_1) ≤ 57
                  · rw [if_pos c17] at H
                    have c17b0 : decide ((bt t131 x5_1) ≤ 57) = true := decide_eq_true c17
                    clear c17
                    have H' := Aside0.mk H
                    clear H
                    have p5 : 0 ≤ (x5_1 : Int) := of_decide_eq_true (by first | (with_reducible assumption) | assumption)
                    have q5 : x5_1 < (t131.size : Int) := of_decide_eq_true (by first | (with_reducible assumption) | assumption)
                    have hx5 := bt_at t131 x5_1
                    replace p5 := eq_true p5
                    replace q5 := eq_true q5
                    go_wp2
                    go_roundg k1
                    case measure => have := HK1.out; omega
                    case rel => exact ⟨(wrap64 (x5_1 + 1)), (by first | rfl | (simp; done) | (simp [*]; done)), H', ⟨by have := HK1.out; omega⟩, by repeat (first | exact Drawn0.refl _ | apply Drawn0.step)⟩
                  · rw [if_neg c17] at H
                    have c17b0 : decide ((bt t131 x5_1) ≤ 57) = false := decide_eq_false c17
                    clear c17
                    by_cases c18 : (bt t131 x5_1) = 95
                    · rw [if_pos c18] at H
                      have c18b0 : ((bt t131 x5_1) == 95) = true := beq_iff_eq.mpr c18
                      have c18b1 : ((bt t131 x5_1) != 95) = false := bne_eq_false_iff_eq.mpr c18
                      clear c18
                      have H' := Aside0.mk H
                      clear H
                      have p5 : 0 ≤ (x5_1 : Int) := of_decide_eq_true (by first | (with_reducible assumption) | assumption)
                      have q5 : x5_1 < (t131.size : Int) := of_decide_eq_true (by first | (with_reducible assumption) | assumption)
                      have hx5 := bt_at t131 x5_1
                      replace p5 := eq_true p5
                      replace q5 := eq_true q5
                      go_wp2
                      go_roundg k1
                      case measure => have := HK1.out; omega
                      case rel => exact ⟨(wrap64 (x5_1 + 1)), (by first | rfl | (simp; done) | (simp [*]; done)), H', ⟨by have := HK1.out; omega⟩, by repeat (first | exact Drawn0.refl _ | apply Drawn0.step)⟩
                    · rw [if_neg c18] at H
                      have c18b0 : ((bt t131 x5_1) == 95) = false := beq_eq_false_iff_ne.mpr c18
                      have c18b1 : ((bt t131 x5_1) != 95) = true := bne_iff_ne.mpr c18
                      by_cases c19 : ((bt t131 x5_1) = 46)
                      · rw [if_pos c19] at H
                        have c19b0 : ((bt t131 x5_1) == 46) = true := beq_iff_eq.mpr c19
                        have c19b1 : ((bt t131 x5_1) != 46) = false := bne_eq_false_iff_eq.mpr c19
                        clear c19
                        have H' := Aside0.mk H
                        clear H
                        have p5 : 0 ≤ (x5_1 : Int) := of_decide_eq_true (by first | (with_reducible assumption) | assumption)
                        have q5 : x5_1 < (t131.size : Int) := of_decide_eq_true (by first | (with_reducible assumption) | assumption)
                        have hx5 := bt_at t131 x5_1
                        replace p5 := eq_true p5
                        replace q5 := eq_true q5
                        go_wp2
                        go_roundg k1
                        case measure => have := HK1.out; omega
                        case rel => exact ⟨(wrap64 (x5_1 + 1)), (by first | rfl | (simp; done) | (simp [*]; done)), H', ⟨by have := HK1.out; omega⟩, by repeat (first | exact Drawn0.refl _ | apply Drawn0.step)⟩
                      · rw [if_neg c19] at H
                        have c19b0 : ((bt t131 x5_1) == 46) = false := beq_eq_false_iff_ne.mpr c19
                        have c19b1 : ((bt t131 x5_1) != 46) = true := bne_iff_ne.mpr c19
                        obtain rfl := Option.some.inj H
                        have p5 : 0 ≤ (x5_1 : Int) := of_decide_eq_true (by first | (with_reducible assumption) | assumption)
                        have q5 : x5_1 < (t131.size : Int) := of_decide_eq_true (by first | (with_reducible assumption) | assumption)
                        have hx5 := bt_at t131 x5_1
                        replace p5 := eq_true p5
                        replace q5 := eq_true q5
                        go_wp2
                        go_ret
                        exact ⟨by first | rfl | (simp; done) | (simp [*]; done), by repeat (first | exact Drawn0.refl _ | apply Drawn0.step)⟩
                · rw [if_neg c16] at H
                  have c16b0 : decide (48 ≤ (bt t131 x5_1)) = false := decide_eq_false c16
                  clear c16
                  by_cases c20 : (bt t131 x5_1) = 95
                  · rw [if_pos c20] at H
                    have c20b0 : ((bt t131 x5_1) == 95) = true := beq_iff_eq.mpr c20
                    have c20b1 : ((bt t131 x5_1) != 95) = false := bne_eq_false_iff_eq.mpr c20
                    clear c20
                    have H' := Aside0.mk H
                    clear H
                    have p5 : 0 ≤ (x5_1 : Int) := of_decide_eq_true (by first | (with_reducible assumption) | assumption)
                    have q5 : x5_1 < (t131.size : Int) := of_decide_eq_true (by first | (with_reducible assumption) | assumption)
                    have hx5 := bt_at t131 x5_1
                    replace p5 := eq_true p5
                    replace q5 := eq_true q5
                    go_wp2
                    go_roundg k1
                    case measure => have := HK1.out; omega
                    case rel => exact ⟨(wrap64 (x5_1 + 1)), (by first | rfl | (simp; done) | (simp [*]; done)), H', ⟨by have := HK1.out; omega⟩, by repeat (first | exact Drawn0.refl _ | apply Drawn0.step)⟩
                  · rw [if_neg c20] at H
                    have c20b0 : ((bt t131 x5_1) == 95) = false := beq_eq_false_iff_ne.mpr c20
                    have c20b1 : ((bt t131 x5_1) != 95) = true := bne_iff_ne.mpr c20
                    by_cases c21 : ((bt t131 x5_1) = 46)
                    · rw [if_pos c21] at H
                      have c21b0 : ((bt t131 x5_1) == 46) = true := beq_iff_eq.mpr c21
                      have c21b1 : ((bt t131 x5_1) != 46) = false := bne_eq_false_iff_eq.mpr c21
                      clear c21
                      have H' := Aside0.mk H
                      clear H
                      have p5 : 0 ≤ (x5_1 : Int) := of_decide_eq_true (by first | (with_reducible assumption) | assumption)
                      have q5 : x5_1 < (t131.size : Int) := of_decide_eq_true (by first | (with_reducible assumption) | assumption)
                      have hx5 := bt_at t131 x5_1
                      replace p5 := eq_true p5
                      replace q5 := eq_true q5
                      go_wp2
                      go_roundg k1
                      case measure => have := HK1.out; omega
                      case rel => exact ⟨(wrap64 (x5_1 + 1)), (by first | rfl | (simp; done) | (simp [*]; done)), H', ⟨by have := HK1.out; omega⟩, by repeat (first | exact Drawn0.refl _ | apply Drawn0.step)⟩
                    · rw [if_neg c21] at H
                      have c21b0 : ((bt t131 x5_1) == 46) = false := beq_eq_false_iff_ne.mpr c21
                      have c21b1 : ((bt t131 x5_1) != 46) = true := bne_iff_ne.mpr c21
                      obtain rfl := Option.some.inj H
                      have p5 : 0 ≤ (x5_1 : Int) := of_decide_eq_true (by first | (with_reducible assumption) | assumption)
                      have q5 : x5_1 < (t131.size : Int) := of_decide_eq_true (by first | (with_reducible assumption) | assumption)
                      have hx5 := bt_at t131 x5_1
                      replace p5 := eq_true p5
                      replace q5 := eq_true q5
                      go_wp2
                      go_ret
                      exact ⟨by first | rfl | (simp; done) | (simp [*]; done), by repeat (first | exact Drawn0.refl _ | apply Drawn0.step)⟩
          · rw [if_neg c6] at H
            have c6b0 : decide (97 ≤ (bt t131 x5_1)) = false := decide_eq_false c6
            clear c6
            by_cases c22 : (bt t131 x5_1) ≥ 65
            · rw [if_pos c22] at H
              have c22b0 : decide (65 ≤ (bt t131 x5_1)) = true := decide_eq_true c22
              clear c22
              by_cases c23 : (bt t131 x5_1) ≤ 90
              · rw [if_pos c23] at H
                have c23b0 : decide ((bt t131 x5_1) ≤ 90) = true := decide_eq_true c23
                clear c23
                have H' := Aside0.mk H
                clear H
                have p5 : 0 ≤ (x5_1 : Int) := of_decide_eq_true (by first | (with_reducible assumption) | assumption)
                have q5 : x5_1 < (t131.size : Int) := of_decide_eq_true (by first | (with_reducible assumption) | assumption)
                have hx5 := bt_at t131 x5_1
                replace p5 := eq_true p5
                replace q5 := eq_true q5
                go_wp2
                go_roundg k1
                case measure => have := HK1.out; omega
                case rel => exact ⟨(wrap64 (x5_1 + 1)), (by first | rfl | (simp; done) | (simp [*]; done)), H', ⟨by have := HK1.out; omega⟩, by repeat (first | exact Drawn0.refl _ | apply Drawn0.step)⟩
              · rw [if_neg c23] at H
                have c23b0 : decide ((bt t131 x5_1) ≤ 90) = false := decide_eq_false c23
                clear c23
                by_cases c24 : (bt t131 x5_1) ≥ 48
                · rw [if_pos c24] at H
                  have c24b0 : decide (48 ≤ (bt t131 x5_1)) = true := decide_eq_true c24
                  clear c24
                  by_cases c25 : (bt t131 x5_1) ≤ 57
                  · rw [if_pos c25] at H
                    have c25b0 : decide ((bt t131 x5_1) ≤ 57) = true := decide_eq_true c25
                    clear c25
                    have H' := Aside0.mk H
                    clear H
                    have p5 : 0 ≤ (x5_1 : Int) := of_decide_eq_true (by first | (with_reducible assumption) | assumption)
                    have q5 : x5_1 < (t131.size : Int) := of_decide_eq_true (by first | (with_reducible assumption) | assumption)
                    have hx5 := bt_at t131 x5_1
                    replace p5 := eq_true p5
                    replace q5 := eq_true q5
                    go_wp2
                    go_roundg k1
                    case measure => have := HK1.out; omega
                    case rel => exact ⟨(wrap64 (x5_1 + 1)), (by first | rfl | (simp; done) | (simp [*]; done)), H', ⟨by have := HK1.out; omega⟩, by repeat (first | exact Drawn0.refl _ | apply Drawn0.step)⟩
                  · rw [if_neg c25] at H
                    have c25b0 : decide ((bt t131 x5_1) ≤ 57) = false := decide_eq_false c25
                    clear c25
                    by_cases c26 : (bt t131 x5_1) = 95
                    · rw [if_pos c26] at H
                      have c26b0 : ((bt t131 x5_1) == 95) = true := beq_iff_eq.mpr c26
                      have c26b1 : ((bt t131 x5_1) != 95) = false := bne_eq_false_iff_eq.mpr c26
                      clear c26
                      have H' := Aside0.mk H
                      clear H
                      have p5 : 0 ≤ (x5_1 : Int) := of_decide_eq_true (by first | (with_reducible assumption) | assumption)
                      have q5 : x5_1 < (t131.size : Int) := of_decide_eq_true (by first | (with_reducible assumption) | assumption)
                      have hx5 := bt_at t131 x5_1
                      replace p5 := eq_true p5
                      replace q5 := eq_true q5
                      go_wp2
                      go_roundg k1
                      case measure => have := HK1.out; omega
                      case rel => exact ⟨(wrap64 (x5_1 + 1)), (by first | rfl | (simp; done) | (simp [*]; done)), H', ⟨by have := HK1.out; omega⟩, by repeat (first | exact Drawn0.refl _ | apply Drawn0.step)⟩
                    · rw [if_neg c26] at H
                      have c26b0 : ((bt t131 x5_1) == 95) = false := beq_eq_false_iff_ne.mpr c26
                      have c26b1 : ((bt t131 x5_1) != 95) = true := bne_iff_ne.mpr c26
                      by_cases c27 : ((bt t131 x5_1) = 46)
                      · rw [if_pos c27] at H
                        have c27b0 : ((bt t131 x5_1) == 46) = true := beq_iff_eq.mpr c27
                        have c27b1 : ((bt t131 x5_1) != 46) = false := bne_eq_false_iff_eq.mpr c27
                        clear c27
                        have H' := Aside0.mk H
                        clear H
                        have p5 : 0 ≤ (x5_1 : Int) := of_decide_eq_true (by first | (with_reducible assumption) | assumption)
                        have q5 : x5_1 < (t131.size : Int) := of_decide_eq_true (by first | (with_reducible assumption) | assumption)
                        have hx5 := bt_at t131 x5_1
                        replace p5 := eq_true p5
                        replace q5 := eq_true q5
                        go_wp2
                        go_roundg k1
                        case measure => have := HK1.out; omega
                        case rel => exact ⟨(wrap64 (x5_1 + 1)), (by first | rfl | (simp; done) | (simp [*]; done)), H', ⟨by have := HK1.out; omega⟩, by repeat (first | exact Drawn0.refl _ | apply Drawn0.step)⟩
                      · rw [if_neg c27] at H
                        have c27b0 : ((bt t131 x5_1) == 46) = false := beq_eq_false_iff_ne.mpr c27
                        have c27b1 : ((bt t131 x5_1) != 46) = true := bne_iff_ne.mpr c27
                        obtain rfl := Option.some.inj H
                        have p5 : 0 ≤ (x5_1 : Int) := of_decide_eq_true (by first | (with_reducible assumption) | assumption)
                        have q5 : x5_1 < (t131.size : Int) := of_decide_eq_true (by first | (with_reducible assumption) | assumption)
                        have hx5 := bt_at t131 x5_1
                        replace p5 := eq_true p5
                        replace q5 := eq_true q5
                        go_wp2
                        go_ret
                        exact ⟨by first | rfl | (simp; done) | (simp [*]; done), by repeat (first | exact Drawn0.refl _ | apply Drawn0.step)⟩
                · rw [if_neg c24] at H
                  have c24b0 : decide (48 ≤ (bt t131 x5_1)) = false := decide_eq_false c24
                  clear c24
                  by_cases c28 : (bt t131 x5_1) = 95
                  · rw [if_pos c28] at H
                    have c28b0 : ((bt t131 x5_1) == 95) = true := beq_iff_eq.mpr c28
                    have c28b1 : ((bt t131 x5_1) != 95) = false := bne_eq_false_iff_eq.mpr c28
                    clear c28
                    have H' := Aside0.mk H
                    clear H
                    have p5 : 0 ≤ (x5_1 : Int) := of_decide_eq_true (by first | (with_reducible assumption) | assumption)
                    have q5 : x5_1 < (t131.size : Int) := of_decide_eq_true (by first | (with_reducible assumption) | assumption)
                    have hx5 := bt_at t131 x5_1
                    replace p5 := eq_true p5
                    replace q5 := eq_true q5
                    go_wp2
                    go_roundg k1
                    case measure => have := HK1.out; omega
                    case rel => exact ⟨(wrap64 (x5_1 + 1)), (by first | rfl | (simp; done) | (simp [*]; done)), H', ⟨by have := HK1.out; omega⟩, by repeat (first | exact Drawn0.refl _ | apply Drawn0.step)⟩
                  · rw [if_neg c28] at H
                    have c28b0 : ((bt t131 x5_1) == 95) = false := beq_eq_false_iff_ne.mpr c28
                    have c28b1 : ((bt t131 x5_1) != 95) = true := bne_iff_ne.mpr c28
                    by_cases c29 : ((bt t131 x5_1) = 46)
                    · rw [if_pos c29] at H
                      have c29b0 : ((bt t131 x5_1) == 46) = true := beq_iff_eq.mpr c29
                      have c29b1 : ((bt t131 x5_1) != 46) = false := bne_eq_false_iff_eq.mpr c29
                      clear c29
                      have H' := Aside0.mk H
                      clear H
                      have p5 : 0 ≤ (x5_1 : Int) := of_decide_eq_true (by first | (with_reducible assumption) | assumption)
                      have q5 : x5_1 < (t131.size : Int) := of_decide_eq_true (by first | (with_reducible assumption) | assumption)
                      have hx5 := bt_at t131 x5_1
                      replace p5 := eq_true p5
                      replace q5 := eq_true q5
                      go_wp2
                      go_roundg k1
                      case measure => have := HK1.out; omega
                      case rel => exact ⟨(wrap64 (x5_1 + 1)), (by first | rfl | (simp; done) | (simp [*]; done)), H', ⟨by have := HK1.out; omega⟩, by repeat (first | exact Drawn0.refl _ | apply Drawn0.step)⟩
                    · rw [if_neg c29] at H
                      have c29b0 : ((bt t131 x5_1) == 46) = false := beq_eq_false_iff_ne.mpr c29
                      have c29b1 : ((bt t131 x5_1) != 46) = true := bne_iff_ne.mpr c29
                      obtain rfl := Option.some.inj H
                      have p5 : 0 ≤ (x5_1 : Int) := of_decide_eq_true (by first | (with_reducible assumption) | assumption)
                      have q5 : x5_1 < (t131.size : Int) := of_decide_eq_true (by first | (with_reducible assumption) | assumption)
                      have hx5 := bt_at t131 x5_1
                      replace p5 := eq_true p5
                      replace q5 := eq_true q5
                      go_wp2
                      go_ret
                      exact ⟨by first | rfl | (simp; done) | (simp [*]; done), by repeat (first | exact Drawn0.refl _ | apply Drawn0.step)⟩
            · rw [if_neg c22] at H
              have c22b0 : decide (65 ≤ (bt t131 x5_1)) = false := decide_eq_false c22
              clear c22
              by_cases c30 : (bt t131 x5_1) ≥ 48
              · rw [if_pos c30] at H
                have c30b0 : decide (48 ≤ (bt t131 x5_1)) = true := decide_eq_true c30
                clear c30
                by_cases c31 : (bt t131 x5_1) ≤ 57
                · rw [if_pos c31] at H
                  have c31b0 : decide ((bt t131 x5_1) ≤ 57) = true := decide_eq_true c31
                  clear c31
                  have H' := Aside0.mk H
                  clear H
                  have p5 : 0 ≤ (x5_1 : Int) := of_decide_eq_true (by first | (with_reducible assumption) | assumption)
                  have q5 : x5_1 < (t131.size : Int) := of_decide_eq_true (by first | (with_reducible assumption) | assumption)
                  have hx5 := bt_at t131 x5_1
                  replace p5 := eq_true p5
                  replace q5 := eq_true q5
                  go_wp2
                  go_roundg k1
                  case measure => have := HK1.out; omega
                  case rel => exact ⟨(wrap64 (x5_1 + 1)), (by first | rfl | (simp; done) | (simp [*]; done)), H', ⟨by have := HK1.out; omega⟩, by repeat (first | exact Drawn0.refl _ | apply Drawn0.step)⟩
                · rw [if_neg c31] at H
                  have c31b0 : decide ((bt t131 x5_1) ≤ 57) = false := decide_eq_false c31
                  clear c31
                  by_cases c32 : (bt t131 x5_1) = 95
                  · rw [if_pos c32] at H
                    have c32b0 : ((bt t131 x5_1) == 95) = true := beq_iff_eq.mpr c32
                    have c32b1 : ((bt t131 x5_1) != 95) = false := bne_eq_false_iff_eq.mpr c32
                    clear c32
                    have H' := Aside0.mk H
                    clear H
                    have p5 : 0 ≤ (x5_1 : Int) := of_decide_eq_true (by first | (with_reducible assumption) | assumption)
                    have q5 : x5_1 < (t131.size : Int) := of_decide_eq_true (by first | (with_reducible assumption) | assumption)
                    have hx5 := bt_at t131 x5_1
                    replace p5 := eq_true p5
                    replace q5 := eq_true q5
                    go_wp2
                    go_roundg k1
                    case measure => have := HK1.out; omega
                    case rel => exact ⟨(wrap64 (x5_1 + 1)), (by first | rfl | (simp; done) | (simp [*]; done)), H', ⟨by have := HK1.out; omega⟩, by repeat (first | exact Drawn0.refl _ | apply Drawn0.step)⟩
                  · rw [if_neg c32] at H
                    have c32b0 : ((bt t131 x5_1) == 95) = false := beq_eq_false_iff_ne.mpr c32
                    have c32b1 : ((bt t131 x5_1) != 95) = true := bne_iff_ne.mpr c32
                    by_cases c33 : ((bt t131 x5_1) = 46)
                    · rw [if_pos c33] at H
                      have c33b0 : ((bt t131 x5_1) == 46) = true := beq_iff_eq.mpr c33
                      have c33b1 : ((bt t131 x5_1) != 46) = false := bne_eq_false_iff_eq.mpr c33
                      clear c33
                      have H' := Aside0.mk H
                      clear H
                      have p5 : 0 ≤ (x5_1 : Int) := of_decide_eq_true (by first | (with_reducible assumption) | assumption)
                      have q5 : x5_1 < (t131.size : Int) := of_decide_eq_true (by first | (with_reducible assumption) | assumption)
                      have hx5 := bt_at t131 x5_1
                      replace p5 := eq_true p5
                      replace q5 := eq_true q5
                      go_wp2
                      go_roundg k1
                      case measure => have := HK1.out; omega
                      case rel => exact ⟨(wrap64 (x5_1 + 1)), (by first | rfl | (simp; done) | (simp [*]; done)), H', ⟨by have := HK1.out; omega⟩, by repeat (first | exact Drawn0.refl _ | apply Drawn0.step)⟩
                    · rw [if_neg c33] at H
                      have c33b0 : ((bt t131 x5_1) == 46) = false := beq_eq_false_iff_ne.mpr c33
                      have c33b1 : ((bt t131 x5_1) != 46) = true := bne_iff_ne.mpr c33
                      obtain rfl := Option.some.inj H
                      have p5 : 0 ≤ (x5_1 : Int) := of_decide_eq_true (by first | (with_reducible assumption) | assumption)
                      have q5 : x5_1 < (t131.size : Int) := of_decide_eq_true (by first | (with_reducible assumption) | assumption)
                      have hx5 := bt_at t131 x5_1
                      replace p5 := eq_true p5
                      replace q5 := eq_true q5
                      go_wp2
                      go_ret
                      exact ⟨by first | rfl | (simp; done) | (simp [*]; done), by repeat (first | exact Drawn0.refl _ | apply Drawn0.step)⟩
              · rw [if_neg c30] at H
                have c30b0 : decide (48 ≤ (bt t131 x5_1)) = false := decide_eq_false c30
                clear c30
                by_cases c34 : (bt t131 x5_1) = 95
                · rw [if_pos c34] at H
                  have c34b0 : ((bt t131 x5_1) == 95) = true := beq_iff_eq.mpr c34
                  have c34b1 : ((bt t131 x5_1) != 95) = false := bne_eq_false_iff_eq.mpr c34
                  clear c34
                  have H' := Aside0.mk H
                  clear H
                  have p5 : 0 ≤ (x5_1 : Int) := of_decide_eq_true (by first | (with_reducible assumption) | assumption)
                  have q5 : x5_1 < (t131.size : Int) := of_decide_eq_true (by first | (with_reducible assumption) | assumption)
                  have hx5 := bt_at t131 x5_1
                  replace p5 := eq_true p5
                  replace q5 := eq_true q5
                  go_wp2
                  go_roundg k1
                  case measure => have := HK1.out; omega
                  case rel => exact ⟨(wrap64 (x5_1 + 1)), (by first | rfl | (simp; done) | (simp [*]; done)), H', ⟨by have := HK1.out; omega⟩, by repeat (first | exact Drawn0.refl _ | apply Drawn0.step)⟩
                · rw [if_neg c34] at H
                  have c34b0 : ((bt t131 x5_1) == 95) = false := beq_eq_false_iff_ne.mpr c34
                  have c34b1 : ((bt t131 x5_1) != 95) = true := bne_iff_ne.mpr c34
                  by_cases c35 : ((bt t131 x5_1) = 46)
                  · rw [if_pos c35] at H
                    have c35b0 : ((bt t131 x5_1) == 46) = true := beq_iff_eq.mpr c35
                    have c35b1 : ((bt t131 x5_1) != 46) = false := bne_eq_false_iff_eq.mpr c35
                    clear c35
                    have H' := Aside0.mk H
                    clear H
                    have p5 : 0 ≤ (x5_1 : Int) := of_decide_eq_true (by first | (with_reducible assumption) | assumption)
                    have q5 : x5_1 < (t131.size : Int) := of_decide_eq_true (by first | (with_reducible assumption) | assumption)
                    have hx5 := bt_at t131 x5_1
                    replace p5 := eq_true p5
                    replace q5 := eq_true q5
                    go_wp2
                    go_roundg k1
                    case measure => have := HK1.out; omega
                    case rel => exact ⟨(wrap64 (x5_1 + 1)), (by first | rfl | (simp; done) | (simp [*]; done)), H', ⟨by have := HK1.out; omega⟩, by repeat (first | exact Drawn0.refl _ | apply Drawn0.step)⟩
                  · rw [if_neg c35] at H
                    have c35b0 : ((bt t131 x5_1) == 46) = false := beq_eq_false_iff_ne.mpr c35
                    have c35b1 : ((bt t131 x5_1) != 46) = true := bne_iff_ne.mpr c35
                    obtain rfl := Option.some.inj H
                    have p5 : 0 ≤ (x5_1 : Int) := of_decide_eq_true (by first | (with_reducible assumption) | assumption)
                    have q5 : x5_1 < (t131.size : Int) := of_decide_eq_true (by first | (with_reducible assumption) | assumption)
                    have hx5 := bt_at t131 x5_1
                    replace p5 := eq_true p5
                    replace q5 := eq_true q5
                    go_wp2
                    go_ret
                    exact ⟨by first | rfl | (simp; done) | (simp [*]; done), by repeat (first | exact Drawn0.refl _ | apply Drawn0.step)⟩
        · rw [if_neg c4] at H
          exact absurd H (by simp)
      · rw [if_neg c3] at H
        have c3b0 : decide (x5_1 < (t131.size : Int)) = false := decide_eq_false c3
        clear c3
        obtain rfl := Option.some.inj H
        go_wp2
        go_ret
        exact ⟨by first | rfl | (simp; exact q_empty _) | (simp; done) | (simp [*]; done), by repeat (first | exact Drawn0.refl _ | apply Drawn0.step)⟩

/-! ### spec_OptionValid: function 43 -/
def spec_OptionValid.l0 : Nat → List ByteArray → Int → Int → Option (Bool)
  | 0, _, _, _ => none
  | k + 1, x5, x6, x7 => if x7 < x6 then (if 0 ≤ x7 then (if x7 < (x5.length : Int) then ((spec_TermValid.f k (rdOf ByteArray.empty x5 x7)).bind fun t133 => (if t133 = true then (spec_OptionValid.l0 k x5 x6 (wrap64 (x7 + 1))) else (some false))) else (none)) else (none)) else (some true)
def spec_OptionValid.f (k : Nat) (l0 : List ByteArray) : Option (Bool) := spec_OptionValid.l0 k l0 (l0.length : Int) 0
theorem spec_OptionValid.mono_l : ∀ k, (∀ y0 y1 y2, LeO (spec_OptionValid.l0 k y0 y1 y2) (spec_OptionValid.l0 (k + 1) y0 y1 y2))
  | 0 => fun _ _ _ r h => by simp [spec_OptionValid.l0] at h
  | k + 1 => by
    have ih0 := spec_OptionValid.mono_l k
    · intro y0 y1 y2
      unfold spec_OptionValid.l0
      repeat' first
      | (with_reducible exact ih0 _ _ _)
      | (with_reducible exact spec_TermValid.mono _ _)
      | (with_reducible exact LeO.refl _)
      | (with_reducible exact LeO.none _)
      | (with_reducible refine LeO.ite ?_ ?_)
      | (with_reducible refine LeO.bind ?_ (fun _ => ?_))
      | exact ih0 _ _ _
      | exact spec_TermValid.mono _ _
      | exact LeO.none _
      | refine LeO.ite ?_ ?_
      | refine LeO.bind ?_ (fun _ => ?_)
theorem spec_OptionValid.mono : ∀ a0 k, LeO (spec_OptionValid.f k a0) (spec_OptionValid.f (k + 1) a0) := by
  intro a0 k
  have ih0 := spec_OptionValid.mono_l k
  unfold spec_OptionValid.f
  repeat' first
      | (with_reducible exact ih0 _ _ _)
      | (with_reducible exact spec_TermValid.mono _ _)
      | (with_reducible exact LeO.refl _)
      | (with_reducible exact LeO.none _)
      | (with_reducible refine LeO.ite ?_ ?_)
      | (with_reducible refine LeO.bind ?_ (fun _ => ?_))
      | exact ih0 _ _ _
      | exact spec_TermValid.mono _ _
      | exact LeO.none _
      | refine LeO.ite ?_ ?_
      | refine LeO.bind ?_ (fun _ => ?_)
set_option maxHeartbeats 8000000 in
set_option maxRecDepth 100000 in
theorem spec_OptionValid.calls (k : Nat) (A0 : Option Addr) (c0 : Nat) (l0 : List ByteArray) (r : Bool) (w : World) (hr0 : Kd.C Kd.string w A0 l0.length l0) (hc0 : l0.length ≤ c0) (h : spec_OptionValid.f k l0 = some r) :
    Calls Tryd.prog 43 #[.slice A0 l0.length c0] w fun e w' => e = .returned (.bool r) ∧ Drawn0 w w' := by
  have HR0 := Aside0.mk hr0
  have HC0 := Aside0.mk hc0
  clear hr0 hc0
  have H : (spec_OptionValid.l0 k l0 (l0.length : Int) 0) = some r := h
  clear h
  have H' := Aside0.mk H
  clear H
  go_enter Tryd.func43, Tryd.ntmps43
  go_wp2
  go_loopg [7] k (fun kq v7 w' => ∃ (x7_1 : Int), v7 = .int .i64 x7_1 ∧ Aside0 (spec_OptionValid.l0 kq l0 (l0.length : Int) x7_1 = some r) ∧ Aside0 (kq ≤ k) ∧ Drawn0 w w')
  case atStart => exact ⟨(0), (by first | rfl | (simp; done) | (simp [*]; done)), H', ⟨Nat.le_refl _⟩, by repeat (first | exact Drawn0.refl _ | apply Drawn0.step)⟩
  case round =>
    clear H'
    obtain ⟨x7_1, rfl, HA, HK1, ⟨m1, rfl⟩⟩ := hrel
    cases gk with
    | zero => exact absurd HA.out (by simp [spec_OptionValid.l0])
    | succ k1 =>
      have H := HA.out
      clear HA
      simp only [spec_OptionValid.l0] at H
      by_cases c2 : x7_1 < (l0.length : Int)
      · rw [if_pos c2] at H
        have c2b0 : decide (x7_1 < (l0.length : Int)) = true := decide_eq_true c2
        clear c2
        by_cases c3 : 0 ≤ x7_1
        · rw [if_pos c3] at H
          have c3b0 : decide (0 ≤ x7_1) = true := decide_eq_true c3
          clear c3
          by_cases c4 : x7_1 < (l0.length : Int)
          · rw [if_pos c4] at H
            have c4b0 : decide (x7_1 < (l0.length : Int)) = true := decide_eq_true c4
            clear c4
            replace H := Option.bind_eq_some_iff.mp H
            obtain ⟨t133, A50, H⟩ := H
            replace H : (if t133 = true then (spec_OptionValid.l0 k1 l0 (l0.length : Int) (wrap64 (x7_1 + 1))) else (some false)) = some r := H
            have A5 := Aside0.mk A50
            clear A50
            by_cases c6 : t133 = true
            · subst c6
              have H1 : (spec_OptionValid.l0 k1 l0 (l0.length : Int) (wrap64 (x7_1 + 1))) = some r := by rw [if_pos rfl] at H; exact H
              clear H
              have H := H1
              clear H1
              have H' := Aside0.mk H
              clear H
              have p132 : 0 ≤ (x7_1 : Int) := of_decide_eq_true (by first | (with_reducible assumption) | assumption)
              have q132 : x7_1 < (l0.length : Int) := of_decide_eq_true (by first | (with_reducible assumption) | assumption)
              obtain ⟨ad132, e132, hx132_0⟩ := Kd.at_string HR0.out x7_1 p132 q132
              cases e132
              replace p132 := eq_true p132
              replace q132 := eq_true q132
              go_wp2_with (first | ((with_reducible refine gate_callee (f := 13) rfl ?_); refine goesL_ (some 12) rfl rfl Tryd.func13 (by kernel_rfl) rfl #[.string (rdOf ByteArray.empty l0 x7_1)] rfl (by (try simp only [List.map_toArray, List.map_cons, List.map_nil]); first | done | rfl | (simp only [List.length_drop, List.length_take]; rfl)) ?_; (with_reducible refine (spec_TermValid.calls k1 (rdOf ByteArray.empty l0 x7_1) true _ A5.out).mono ?_); rintro e w' ⟨rfl, ⟨nd, rfl⟩⟩; refine ⟨_, rfl, ?_⟩))
              go_roundg k1
              case measure => have := HK1.out; omega
              case rel => exact ⟨(wrap64 (x7_1 + 1)), (by first | rfl | (simp; done) | (simp [*]; done)), H', ⟨by have := HK1.out; omega⟩, by repeat (first | exact Drawn0.refl _ | apply Drawn0.step)⟩
            · replace c6 := Bool.eq_false_iff.mpr c6
              subst c6
              have H1 : (some false) = some r := by rw [if_neg (show ¬ (false = true) by decide)] at H; exact H
              clear H
              have H := H1
              clear H1
              obtain rfl := Option.some.inj H
              have p132 : 0 ≤ (x7_1 : Int) := of_decide_eq_true (by first | (with_reducible assumption) | assumption)
              have q132 : x7_1 < (l0.length : Int) := of_decide_eq_true (by first | (with_reducible assumption) | assumption)
              obtain ⟨ad132, e132, hx132_0⟩ := Kd.at_string HR0.out x7_1 p132 q132
              cases e132
              replace p132 := eq_true p132
              replace q132 := eq_true q132
              go_wp2_with (first | ((with_reducible refine gate_callee (f := 13) rfl ?_); refine goesL_ (some 12) rfl rfl Tryd.func13 (by kernel_rfl) rfl #[.string (rdOf ByteArray.empty l0 x7_1)] rfl (by (try simp only [List.map_toArray, List.map_cons, List.map_nil]); first | done | rfl | (simp only [List.length_drop, List.length_take]; rfl)) ?_; (with_reducible refine (spec_TermValid.calls k1 (rdOf ByteArray.empty l0 x7_1) false _ A5.out).mono ?_); rintro e w' ⟨rfl, ⟨nd, rfl⟩⟩; refine ⟨_, rfl, ?_⟩))
              go_ret
              exact ⟨by first | rfl | (simp; done) | (simp [*]; done), by repeat (first | exact Drawn0.refl _ | apply Drawn0.step)⟩
          · rw [if_neg c4] at H
            exact absurd H (by simp)
        · rw [if_neg c3] at H
          exact absurd H (by simp)
      · rw [if_neg c2] at H
        have c2b0 : decide (x7_1 < (l0.length : Int)) = false := decide_eq_false c2
        clear c2
        obtain rfl := Option.some.inj H
        go_wp2
        go_ret
        exact ⟨by first | rfl | (simp; done) | (simp [*]; done), by repeat (first | exact Drawn0.refl _ | apply Drawn0.step)⟩

/-! ### spec_ConstraintValid: function 22 -/
def spec_ConstraintValid.l0 : Nat → List (List ByteArray) → Int → Int → Option (Bool)
  | 0, _, _, _ => none
  | k + 1, x5, x6, x7 => if x7 < x6 then (if 0 ≤ x7 then (if x7 < (x5.length : Int) then ((spec_OptionValid.f k (rd_L5 x5 x7)).bind fun t135 => (if t135 = true then (spec_ConstraintValid.l0 k x5 x6 (wrap64 (x7 + 1))) else (some false))) else (none)) else (none)) else (some true)
def spec_ConstraintValid.f (k : Nat) (l0 : List (List ByteArray)) : Option (Bool) := spec_ConstraintValid.l0 k l0 (l0.length : Int) 0
theorem spec_ConstraintValid.mono_l : ∀ k, (∀ y0 y1 y2, LeO (spec_ConstraintValid.l0 k y0 y1 y2) (spec_ConstraintValid.l0 (k + 1) y0 y1 y2))
  | 0 => fun _ _ _ r h => by simp [spec_ConstraintValid.l0] at h
  | k + 1 => by
    have ih0 := spec_ConstraintValid.mono_l k
    · intro y0 y1 y2
      unfold spec_ConstraintValid.l0
      repeat' first
      | (with_reducible exact ih0 _ _ _)
      | (with_reducible exact spec_OptionValid.mono _ _)
      | (with_reducible exact LeO.refl _)
      | (with_reducible exact LeO.none _)
      | (with_reducible refine LeO.ite ?_ ?_)
      | (with_reducible refine LeO.bind ?_ (fun _ => ?_))
      | exact ih0 _ _ _
      | exact spec_OptionValid.mono _ _
      | exact LeO.none _
      | refine LeO.ite ?_ ?_
      | refine LeO.bind ?_ (fun _ => ?_)
theorem spec_ConstraintValid.mono : ∀ a0 k, LeO (spec_ConstraintValid.f k a0) (spec_ConstraintValid.f (k + 1) a0) := by
  intro a0 k
  have ih0 := spec_ConstraintValid.mono_l k
  unfold spec_ConstraintValid.f
  repeat' first
      | (with_reducible exact ih0 _ _ _)
      | (with_reducible exact spec_OptionValid.mono _ _)
      | (with_reducible exact LeO.refl _)
      | (with_reducible exact LeO.none _)
      | (with_reducible refine LeO.ite ?_ ?_)
      | (with_reducible refine LeO.bind ?_ (fun _ => ?_))
      | exact ih0 _ _ _
      | exact spec_OptionValid.mono _ _
      | exact LeO.none _
      | refine LeO.ite ?_ ?_
      | refine LeO.bind ?_ (fun _ => ?_)
set_option maxHeartbeats 8000000 in
set_option maxRecDepth 100000 in
theorem spec_ConstraintValid.calls (k : Nat) (A0 : Option Addr) (c0 : Nat) (l0 : List (List ByteArray)) (r : Bool) (w : World) (hr0 : Kd.C (Kd.slice 9 Kd.string) w A0 l0.length l0) (hc0 : l0.length ≤ c0) (h : spec_ConstraintValid.f k l0 = some r) :
    Calls Tryd.prog 22 #[.slice A0 l0.length c0] w fun e w' => e = .returned (.bool r) ∧ Drawn0 w w' := by
  have HR0 := Aside0.mk hr0
  have HC0 := Aside0.mk hc0
  clear hr0 hc0
  have H : (spec_ConstraintValid.l0 k l0 (l0.length : Int) 0) = some r := h
  clear h
  have H' := Aside0.mk H
  clear H
  go_enter Tryd.func22, Tryd.ntmps22
  go_wp2
  go_loopg [7] k (fun kq v7 w' => ∃ (x7_1 : Int), v7 = .int .i64 x7_1 ∧ Aside0 (spec_ConstraintValid.l0 kq l0 (l0.length : Int) x7_1 = some r) ∧ Aside0 (kq ≤ k) ∧ Drawn0 w w')
  case atStart => exact ⟨(0), (by first | rfl | (simp; done) | (simp [*]; done)), H', ⟨Nat.le_refl _⟩, by repeat (first | exact Drawn0.refl _ | apply Drawn0.step)⟩
  case round =>
    clear H'
    obtain ⟨x7_1, rfl, HA, HK1, ⟨m1, rfl⟩⟩ := hrel
    cases gk with
    | zero => exact absurd HA.out (by simp [spec_ConstraintValid.l0])
    | succ k1 =>
      have H := HA.out
      clear HA
      simp only [spec_ConstraintValid.l0] at H
      by_cases c2 : x7_1 < (l0.length : Int)
      · rw [if_pos c2] at H
        have c2b0 : decide (x7_1 < (l0.length : Int)) = true := decide_eq_true c2
        clear c2
        by_cases c3 : 0 ≤ x7_1
        · rw [if_pos c3] at H
          have c3b0 : decide (0 ≤ x7_1) = true := decide_eq_true c3
          clear c3
          by_cases c4 : x7_1 < (l0.length : Int)
          · rw [if_pos c4] at H
            have c4b0 : decide (x7_1 < (l0.length : Int)) = true := decide_eq_true c4
            clear c4
            replace H := Option.bind_eq_some_iff.mp H
            obtain ⟨t135, A50, H⟩ := H
            replace H : (if t135 = true then (spec_ConstraintValid.l0 k1 l0 (l0.length : Int) (wrap64 (x7_1 + 1))) else (some false)) = some r := H
            have A5 := Aside0.mk A50
            clear A50
            by_cases c6 : t135 = true
            · subst c6
              have H1 : (spec_ConstraintValid.l0 k1 l0 (l0.length : Int) (wrap64 (x7_1 + 1))) = some r := by rw [if_pos rfl] at H; exact H
              clear H
              have H := H1
              clear H1
              have H' := Aside0.mk H
              clear H
              have p134 : 0 ≤ (x7_1 : Int) := of_decide_eq_true (by first | (with_reducible assumption) | assumption)
              have q134 : x7_1 < (l0.length : Int) := of_decide_eq_true (by first | (with_reducible assumption) | assumption)
              obtain ⟨ad134, A134_0, c134_0, e134, hx134_0, hl134_0, hi134_0⟩ := at_L5 HR0.out x7_1 p134 q134
              cases e134
              have HR134_0 := Aside0.mk hi134_0
              have HC134_0 := Aside0.mk hl134_0
              clear hi134_0 hl134_0
              replace p134 := eq_true p134
              replace q134 := eq_true q134
              go_wp2_with (first | ((with_reducible refine gate_callee (f := 43) rfl ?_); refine goesL_ (some 12) rfl rfl Tryd.func43 (by kernel_rfl) rfl #[.slice A134_0 (rd_L5 l0 x7_1).length c134_0] rfl (by (try simp only [List.map_toArray, List.map_cons, List.map_nil]); first | done | rfl | (simp only [List.length_drop, List.length_take]; rfl)) ?_; (with_reducible refine (spec_OptionValid.calls k1 _ _ (rd_L5 l0 x7_1) true _ ?side1 ?side2 A5.out).mono ?_); (case side1 => repeat (first | exact HR134_0.out | (with_reducible refine Kd.C_alloc ?_ _) | (with_reducible refine Kd.C_drewN ?_ _) | (with_reducible refine Kd.C_drew ?_))); (case side2 => exact HC134_0.out); rintro e w' ⟨rfl, ⟨nd, rfl⟩⟩; refine ⟨_, rfl, ?_⟩))
              go_roundg k1
              case measure => have := HK1.out; omega
              case rel => exact ⟨(wrap64 (x7_1 + 1)), (by first | rfl | (simp; done) | (simp [*]; done)), H', ⟨by have := HK1.out; omega⟩, by repeat (first | exact Drawn0.refl _ | apply Drawn0.step)⟩
            · replace c6 := Bool.eq_false_iff.mpr c6
              subst c6
              have H1 : (some false) = some r := by rw [if_neg (show ¬ (false = true) by decide)] at H; exact H
              clear H
              have H := H1
              clear H1
              obtain rfl := Option.some.inj H
              have p134 : 0 ≤ (x7_1 : Int) := of_decide_eq_true (by first | (with_reducible assumption) | assumption)
              have q134 : x7_1 < (l0.length : Int) := of_decide_eq_true (by first | (with_reducible assumption) | assumption)
              obtain ⟨ad134, A134_0, c134_0, e134, hx134_0, hl134_0, hi134_0⟩ := at_L5 HR0.out x7_1 p134 q134
              cases e134
              have HR134_0 := Aside0.mk hi134_0
              have HC134_0 := Aside0.mk hl134_0
              clear hi134_0 hl134_0
              replace p134 := eq_true p134
              replace q134 := eq_true q134
              go_wp2_with (first | ((with_reducible refine gate_callee (f := 43) rfl ?_); refine goesL_ (some 12) rfl rfl Tryd.func43 (by kernel_rfl) rfl #[.slice A134_0 (rd_L5 l0 x7_1).length c134_0] rfl (by (try simp only [List.map_toArray, List.map_cons, List.map_nil]); first | done | rfl | (simp only [List.length_drop, List.length_take]; rfl)) ?_; (with_reducible refine (spec_OptionValid.calls k1 _ _ (rd_L5 l0 x7_1) false _ ?side1 ?side2 A5.out).mono ?_); (case side1 => repeat (first | exact HR134_0.out | (with_reducible refine Kd.C_alloc ?_ _) | (with_reducible refine Kd.C_drewN ?_ _) | (with_reducible refine Kd.C_drew ?_))); (case side2 => exact HC134_0.out); rintro e w' ⟨rfl, ⟨nd, rfl⟩⟩; refine ⟨_, rfl, ?_⟩))
              go_ret
              exact ⟨by first | rfl | (simp; done) | (simp [*]; done), by repeat (first | exact Drawn0.refl _ | apply Drawn0.step)⟩
          · rw [if_neg c4] at H
            exact absurd H (by simp)
        · rw [if_neg c3] at H
          exact absurd H (by simp)
      · rw [if_neg c2] at H
        have c2b0 : decide (x7_1 < (l0.length : Int)) = false := decide_eq_false c2
        clear c2
        obtain rfl := Option.some.inj H
        go_wp2
        go_ret
        exact ⟨by first | rfl | (simp; done) | (simp [*]; done), by repeat (first | exact Drawn0.refl _ | apply Drawn0.step)⟩


end Go.Proofs.YtknldfighehplaaDoor.PFnTextBack
