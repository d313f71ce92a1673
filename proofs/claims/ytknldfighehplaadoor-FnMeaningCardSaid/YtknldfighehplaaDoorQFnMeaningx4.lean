/- Contracts of functions that FnMeaning reaches, as its print has them; conditions: lengths, and the slices' cells as they were read. -/
import Derived.Test.YtknldfighehplaaDoorPFnMeaningx0
import Derived.Test.YtknldfighehplaaDoorPFnMeaningx1
import Derived.Test.YtknldfighehplaaDoorQFnMeaningx2
import Derived.Test.YtknldfighehplaaDoorQFnMeaningx3
namespace Go.Proofs.YtknldfighehplaaDoor.PFnMeaning
open Go.RowKit Go.Proofs.YtknldfighehplaaDoorW.PrintWords Go.Proofs.YtknldfighehplaaDoorW.PrintLast Go.Proofs.YtknldfighehplaaDoorW.PrintMore
attribute [local go_sem] max2_int min2_int max_two min_two max_three min_three max_four min_four
set_option linter.unusedVariables false
set_option linter.unusedSimpArgs false

/-! ### spec_tagsFields: function 52 -/
mutual
def spec_tagsFields.l0 : Nat → ByteArray → List ByteArray → ByteArray → Int → Option (List ByteArray)
  | 0, _, _, _, _ => none
  | k + 1, x0, x3, x4, x5 => if x5 < (x0.size : Int) then (if 0 ≤ x5 then (if (bt x0 x5) = 32 then (spec_tagsFields.j1 k x0 x3 x4 x5 false) else (if (bt x0 x5) < 9 then (spec_tagsFields.j1 k x0 x3 x4 x5 true) else (spec_tagsFields.j1 k x0 x3 x4 x5 (decide ((bt x0 x5) > 13))))) else (none)) else (if x4.toList = ([] : List UInt8) then (some x3) else (if x3.length < 8796093022208 then (some (x3 ++ [x4])) else (none)))
def spec_tagsFields.j1 : Nat → ByteArray → List ByteArray → ByteArray → Int → Bool → Option (List ByteArray)
  | 0, _, _, _, _, _ => none
  | k + 1, x0, x3, x4, x5, x27 => if x27 = true then (if 0 ≤ x5 then (if x5 ≤ (wrap64 (x5 + 1)) then (if (wrap64 (x5 + 1)) ≤ (x0.size : Int) then (if x4.size + (x0.extract (x5 : Int).toNat ((wrap64 (x5 + 1)) : Int).toNat).size ≤ 9223372036854775807 then (spec_tagsFields.l0 k x0 x3 (x4 ++ (x0.extract (x5 : Int).toNat ((wrap64 (x5 + 1)) : Int).toNat)) (wrap64 (x5 + 1))) else (none)) else (none)) else (none)) else (none)) else (if x4.toList = ([] : List UInt8) then (spec_tagsFields.l0 k x0 x3 x4 (wrap64 (x5 + 1))) else (if x3.length < 8796093022208 then (spec_tagsFields.l0 k x0 (x3 ++ [x4]) (⟨#[]⟩ : ByteArray) (wrap64 (x5 + 1))) else (none)))
end
def spec_tagsFields.f (k : Nat) (a0 : ByteArray) : Option (List ByteArray) := spec_tagsFields.l0 k a0 ([] : List ByteArray) (⟨#[]⟩ : ByteArray) 0
theorem spec_tagsFields.mono_l : ∀ k, (∀ y0 y1 y2 y3, LeO (spec_tagsFields.l0 k y0 y1 y2 y3) (spec_tagsFields.l0 (k + 1) y0 y1 y2 y3)) ∧ (∀ y0 y1 y2 y3 y4, LeO (spec_tagsFields.j1 k y0 y1 y2 y3 y4) (spec_tagsFields.j1 (k + 1) y0 y1 y2 y3 y4))
  | 0 => ⟨fun _ _ _ _ r h => by simp [spec_tagsFields.l0] at h, fun _ _ _ _ _ r h => by simp [spec_tagsFields.j1] at h⟩
  | k + 1 => by
    obtain ⟨ih0, ih1⟩ := spec_tagsFields.mono_l k
    refine ⟨?_, ?_⟩
    · intro y0 y1 y2 y3
      unfold spec_tagsFields.l0
      repeat' first
      | (with_reducible exact ih0 _ _ _ _)
      | (with_reducible exact ih1 _ _ _ _ _)
      | (with_reducible exact LeO.refl _)
      | (with_reducible exact LeO.none _)
      | (with_reducible refine LeO.ite ?_ ?_)
      | (with_reducible refine LeO.bind ?_ (fun _ => ?_))
      | exact ih0 _ _ _ _
      | exact ih1 _ _ _ _ _
      | exact LeO.none _
      | refine LeO.ite ?_ ?_
      | refine LeO.bind ?_ (fun _ => ?_)
    · intro y0 y1 y2 y3 y4
      unfold spec_tagsFields.j1
      repeat' first
      | (with_reducible exact ih0 _ _ _ _)
      | (with_reducible exact ih1 _ _ _ _ _)
      | (with_reducible exact LeO.refl _)
      | (with_reducible exact LeO.none _)
      | (with_reducible refine LeO.ite ?_ ?_)
      | (with_reducible refine LeO.bind ?_ (fun _ => ?_))
      | exact ih0 _ _ _ _
      | exact ih1 _ _ _ _ _
      | exact LeO.none _
      | refine LeO.ite ?_ ?_
      | refine LeO.bind ?_ (fun _ => ?_)
theorem spec_tagsFields.mono : ∀ a0 k, LeO (spec_tagsFields.f k a0) (spec_tagsFields.f (k + 1) a0) := by
  intro a0 k
  obtain ⟨ih0, ih1⟩ := spec_tagsFields.mono_l k
  unfold spec_tagsFields.f
  repeat' first
      | (with_reducible exact ih0 _ _ _ _)
      | (with_reducible exact ih1 _ _ _ _ _)
      | (with_reducible exact LeO.refl _)
      | (with_reducible exact LeO.none _)
      | (with_reducible refine LeO.ite ?_ ?_)
      | (with_reducible refine LeO.bind ?_ (fun _ => ?_))
      | exact ih0 _ _ _ _
      | exact ih1 _ _ _ _ _
      | exact LeO.none _
      | refine LeO.ite ?_ ?_
      | refine LeO.bind ?_ (fun _ => ?_)
set_option maxHeartbeats 8000000 in
set_option maxRecDepth 100000 in
theorem spec_tagsFields.calls (k : Nat) (a0 : ByteArray) (r : List ByteArray) (w : World) (h : spec_tagsFields.f k a0 = some r) :
    Calls Tryd.prog 52 #[.string a0] w fun e w' => ∃ v0_ : Value, e = .returned (v0_) ∧ Kd.R Kd.string 9 w' w.heap.size (fun _ => True) v0_ r ∧ Below w.heap.size w w' := by
  have HB := Aside0.mk (Below.refl w.heap.size w)
  have H : (spec_tagsFields.l0 k a0 ([] : List ByteArray) (⟨#[]⟩ : ByteArray) 0) = some r := h
  clear h
  have H' := Aside0.mk H
  clear H
  go_enter Tryd.func52, Tryd.ntmps52
  go_wp2
  go_loopg [3, 4, 5] k (fun kq v3 v4 v5 w' => ∃ (x3_1 : List ByteArray) (x4_1 : ByteArray) (x5_1 : Int), v4 = .string x4_1 ∧ v5 = .int .i64 x5_1 ∧ Aside0 (spec_tagsFields.l0 kq a0 x3_1 x4_1 x5_1 = some r) ∧ Aside0 (kq ≤ k) ∧ Aside0 (Kd.R Kd.string 9 w' w.heap.size (fun _ => True) v3 x3_1) ∧ Aside0 (Below w.heap.size w w'))
  case atStart => exact ⟨(([] : List ByteArray)), ((⟨#[]⟩ : ByteArray)), (0), (by first | rfl | (simp; done) | (simp [*]; done)), (by first | rfl | (simp; done) | (simp [*]; done)), H', ⟨Nat.le_refl _⟩, ⟨by first | exact Kd.R_nil _ _ _ _ _ | exact Kd.N_nil _ _ _ _ _ | exact Kd.V_nil _ _ _ _ _ | exact Kd.Q_nil _ _ _ _ _ | exact Kd.S_nil _ _ _ _ _⟩, ⟨by repeat (first | (with_reducible first | exact HB.out | apply below_alloc | apply pw_below_drewN | apply below_drew1) | exact HB.out)⟩⟩
  case round =>
    clear H'
    obtain ⟨x3_1, x4_1, x5_1, rfl, rfl, HA, HK1, HO_3, HB⟩ := hrel
    cases gk with
    | zero => exact absurd HA.out (by simp [spec_tagsFields.l0])
    | succ k1 =>
      have H := HA.out
      clear HA
      simp only [spec_tagsFields.l0] at H
      by_cases c2 : x5_1 < (a0.size : Int)
      · rw [if_pos c2] at H
        have c2b0 : decide (x5_1 < (a0.size : Int)) = true := decide_eq_true c2
        clear c2
        have HC3 := Aside0.mk H
        clear H
        go_upto_region 6 with (fail)
        go_cut [27] (fun v27 wc => ∃ (kq : Nat) (x27_2 : Bool), v27 = .bool x27_2 ∧ Aside0 (spec_tagsFields.j1 kq a0 x3_1 x4_1 x5_1 x27_2 = some r) ∧ Aside0 (kq ≤ k1) ∧ Aside0 (Kd.R Kd.string 9 wc w.heap.size (fun _ => True) u3 x3_1) ∧ Aside0 (Below w.heap.size w wc))
        case first =>
          have H := HC3.out
          clear HC3
          by_cases c4 : 0 ≤ x5_1
          · rw [if_pos c4] at H
            have c4b0 : decide (0 ≤ x5_1) = true := decide_eq_true c4
            clear c4
            (first | rw [c4b0] | (simp only [i64_w, i32_w]; rw [c4b0]) | skip)
            by_cases c6 : (bt a0 x5_1) = 32
            · rw [if_pos c6] at H
              have c6b0 : ((bt a0 x5_1) == 32) = true := beq_iff_eq.mpr c6
              have c6b1 : ((bt a0 x5_1) != 32) = false := bne_eq_false_iff_eq.mpr c6
              clear c6
              have H' := Aside0.mk H
              clear H
              have p5 : 0 ≤ (x5_1 : Int) := of_decide_eq_true (by first | (with_reducible assumption) | assumption)
              have q5 : x5_1 < (a0.size : Int) := of_decide_eq_true (by first | (with_reducible assumption) | assumption)
              have hx5 := bt_at a0 x5_1
              replace p5 := eq_true p5
              replace q5 := eq_true q5
              go_wp2
              go_meet
              case rel => exact ⟨_, (false), (by first | rfl | (simp; done) | (simp [*]; done)), H', ⟨by have := HK1.out; first | omega | exact Nat.le_refl _⟩, ⟨by (with_reducible repeat (first | apply Kd.R_alloc | apply Kd.R_drewN | apply Kd.R_drew)); exact HO_3.out⟩, ⟨by repeat (first | (with_reducible first | exact HB.out | apply below_alloc | apply pw_below_drewN | apply below_drew1) | exact HB.out)⟩⟩
            · rw [if_neg c6] at H
              have c6b0 : ((bt a0 x5_1) == 32) = false := beq_eq_false_iff_ne.mpr c6
              have c6b1 : ((bt a0 x5_1) != 32) = true := bne_iff_ne.mpr c6
              by_cases c8 : (bt a0 x5_1) < 9
              · rw [if_pos c8] at H
                have c8b0 : decide ((bt a0 x5_1) < 9) = true := decide_eq_true c8
                clear c8
                have H' := Aside0.mk H
                clear H
                have p5 : 0 ≤ (x5_1 : Int) := of_decide_eq_true (by first | (with_reducible assumption) | assumption)
                have q5 : x5_1 < (a0.size : Int) := of_decide_eq_true (by first | (with_reducible assumption) | assumption)
                have hx5 := bt_at a0 x5_1
                replace p5 := eq_true p5
                replace q5 := eq_true q5
                have p7 : 0 ≤ (x5_1 : Int) := of_decide_eq_true (by first | (with_reducible assumption) | assumption)
                have q7 : x5_1 < (a0.size : Int) := of_decide_eq_true (by first | (with_reducible assumption) | assumption)
                have hx7 := bt_at a0 x5_1
                replace p7 := eq_true p7
                replace q7 := eq_true q7
                go_wp2
                go_meet
                case rel => exact ⟨_, (true), (by first | rfl | (simp; done) | (simp [*]; done)), H', ⟨by have := HK1.out; first | omega | exact Nat.le_refl _⟩, ⟨by (with_reducible repeat (first | apply Kd.R_alloc | apply Kd.R_drewN | apply Kd.R_drew)); exact HO_3.out⟩, ⟨by repeat (first | (with_reducible first | exact HB.out | apply below_alloc | apply pw_below_drewN | apply below_drew1) | exact HB.out)⟩⟩
              · rw [if_neg c8] at H
                have c8b0 : decide ((bt a0 x5_1) < 9) = false := decide_eq_false c8
                clear c8
                have H' := Aside0.mk H
                clear H
                have p5 : 0 ≤ (x5_1 : Int) := of_decide_eq_true (by first | (with_reducible assumption) | assumption)
                have q5 : x5_1 < (a0.size : Int) := of_decide_eq_true (by first | (with_reducible assumption) | assumption)
                have hx5 := bt_at a0 x5_1
                replace p5 := eq_true p5
                replace q5 := eq_true q5
                have p7 : 0 ≤ (x5_1 : Int) := of_decide_eq_true (by first | (with_reducible assumption) | assumption)
                have q7 : x5_1 < (a0.size : Int) := of_decide_eq_true (by first | (with_reducible assumption) | assumption)
                have hx7 := bt_at a0 x5_1
                replace p7 := eq_true p7
                replace q7 := eq_true q7
                have p9 : 0 ≤ (x5_1 : Int) := of_decide_eq_true (by first | (with_reducible assumption) | assumption)
                have q9 : x5_1 < (a0.size : Int) := of_decide_eq_true (by first | (with_reducible assumption) | assumption)
                have hx9 := bt_at a0 x5_1
                replace p9 := eq_true p9
                replace q9 := eq_true q9
                go_wp2
                go_meet
                case rel => exact ⟨_, (decide ((bt a0 x5_1) > 13)), (by first | rfl | (simp; done) | (simp [*]; done)), H', ⟨by have := HK1.out; first | omega | exact Nat.le_refl _⟩, ⟨by (with_reducible repeat (first | apply Kd.R_alloc | apply Kd.R_drewN | apply Kd.R_drew)); exact HO_3.out⟩, ⟨by repeat (first | (with_reducible first | exact HB.out | apply below_alloc | apply pw_below_drewN | apply below_drew1) | exact HB.out)⟩⟩
          · rw [if_neg c4] at H
            exact absurd H (by simp)
        case rest =>
          clear HC3
          try clear c2
          try clear c2b0
          try clear p2
          try clear c4
          try clear c4b0
          try clear c5
          try clear p5
          try clear q5
          try clear hx5
          try clear c6
          try clear c6b0
          try clear c6b1
          try clear p7
          try clear q7
          try clear hx7
          try clear c8
          try clear c8b0
          try clear p9
          try clear q9
          try clear hx9
          try clear p5
          try clear p7
          try clear p9
          try clear q5
          try clear q7
          try clear q9
          obtain ⟨kq, x27_2, rfl, HA, HJ2, HO_3, HB⟩ := hcut
          cases kq with
          | zero => exact absurd HA.out (by simp [spec_tagsFields.j1])
          | succ kj2 =>
            have H := HA.out
            clear HA
            simp only [spec_tagsFields.j1] at H
            by_cases c10 : x27_2 = true
            · subst c10
              have H1 : (if 0 ≤ x5_1 then (if x5_1 ≤ (wrap64 (x5_1 + 1)) then (if (wrap64 (x5_1 + 1)) ≤ (a0.size : Int) then (if x4_1.size + (a0.extract (x5_1 : Int).toNat ((wrap64 (x5_1 + 1)) : Int).toNat).size ≤ 9223372036854775807 then (spec_tagsFields.l0 kj2 a0 x3_1 (x4_1 ++ (a0.extract (x5_1 : Int).toNat ((wrap64 (x5_1 + 1)) : Int).toNat)) (wrap64 (x5_1 + 1))) else (none)) else (none)) else (none)) else (none)) = some r := by rw [if_pos rfl] at H; exact H
              clear H
              have H := H1
              clear H1
              by_cases c11 : 0 ≤ x5_1
              · rw [if_pos c11] at H
                have c11b0 := eq_true c11
                have c11b1 : decide (0 ≤ x5_1) = true := decide_eq_true c11
                clear c11
                by_cases c12 : x5_1 ≤ (wrap64 (x5_1 + 1))
                · rw [if_pos c12] at H
                  have c12b0 := eq_true c12
                  have c12b1 : decide (x5_1 ≤ (wrap64 (x5_1 + 1))) = true := decide_eq_true c12
                  by_cases c13 : (wrap64 (x5_1 + 1)) ≤ (a0.size : Int)
                  · rw [if_pos c13] at H
                    have c13b0 := eq_true c13
                    have c13b1 : decide ((wrap64 (x5_1 + 1)) ≤ (a0.size : Int)) = true := decide_eq_true c13
                    by_cases c14 : x4_1.size + (a0.extract (x5_1 : Int).toNat ((wrap64 (x5_1 + 1)) : Int).toNat).size ≤ 9223372036854775807
                    · rw [if_pos c14] at H
                      have c14b0 := eq_true c14
                      have c14b1 : decide (x4_1.size + (a0.extract (x5_1 : Int).toNat ((wrap64 (x5_1 + 1)) : Int).toNat).size ≤ 9223372036854775807) = true := decide_eq_true c14
                      try have c14b2 : (9223372036854775807 < x4_1.size + (a0.extract (x5_1 : Int).toNat ((wrap64 (x5_1 + 1)) : Int).toNat).size) = False := eq_false (Nat.not_lt.2 c14)
                      have H' := Aside0.mk H
                      clear H
                      go_wp2
                      go_roundg kj2
                      case measure => have := HK1.out; have := HJ2.out; omega
                      case rel => exact ⟨(x3_1), (x4_1 ++ (a0.extract (x5_1 : Int).toNat ((wrap64 (x5_1 + 1)) : Int).toNat)), (wrap64 (x5_1 + 1)), (by first | rfl | (simp; done) | (simp [*]; done)), (by first | rfl | (simp; done) | (simp [*]; done)), H', ⟨by have := HK1.out; have := HJ2.out; omega⟩, ⟨by (with_reducible repeat (first | apply Kd.R_alloc | apply Kd.R_drewN | apply Kd.R_drew)); exact HO_3.out⟩, ⟨by repeat (first | (with_reducible first | exact HB.out | apply below_alloc | apply pw_below_drewN | apply below_drew1) | exact HB.out)⟩⟩
                    · rw [if_neg c14] at H
                      exact absurd H (by simp)
                  · rw [if_neg c13] at H
                    exact absurd H (by simp)
                · rw [if_neg c12] at H
                  exact absurd H (by simp)
              · rw [if_neg c11] at H
                exact absurd H (by simp)
            · replace c10 := Bool.eq_false_iff.mpr c10
              subst c10
              have H1 : (if x4_1.toList = ([] : List UInt8) then (spec_tagsFields.l0 kj2 a0 x3_1 x4_1 (wrap64 (x5_1 + 1))) else (if x3_1.length < 8796093022208 then (spec_tagsFields.l0 kj2 a0 (x3_1 ++ [x4_1]) (⟨#[]⟩ : ByteArray) (wrap64 (x5_1 + 1))) else (none))) = some r := by rw [if_neg (show ¬ (false = true) by decide)] at H; exact H
              clear H
              have H := H1
              clear H1
              by_cases c15 : x4_1.toList = ([] : List UInt8)
              · rw [if_pos c15] at H
                have c15b0 : (x4_1.toList == ([] : List UInt8)) = true := beq_iff_eq.mpr c15
                have c15b1 : (x4_1.toList != ([] : List UInt8)) = false := bne_eq_false_iff_eq.mpr c15
                clear c15
                have H' := Aside0.mk H
                clear H
                go_wp2
                go_roundg kj2
                case measure => have := HK1.out; have := HJ2.out; omega
                case rel => exact ⟨(x3_1), (x4_1), (wrap64 (x5_1 + 1)), (by first | rfl | (simp; done) | (simp [*]; done)), (by first | rfl | (simp; done) | (simp [*]; done)), H', ⟨by have := HK1.out; have := HJ2.out; omega⟩, ⟨by (with_reducible repeat (first | apply Kd.R_alloc | apply Kd.R_drewN | apply Kd.R_drew)); exact HO_3.out⟩, ⟨by repeat (first | (with_reducible first | exact HB.out | apply below_alloc | apply pw_below_drewN | apply below_drew1) | exact HB.out)⟩⟩
              · rw [if_neg c15] at H
                have c15b0 : (x4_1.toList == ([] : List UInt8)) = false := beq_eq_false_iff_ne.mpr c15
                have c15b1 : (x4_1.toList != ([] : List UInt8)) = true := bne_iff_ne.mpr c15
                by_cases c16 : x3_1.length < 8796093022208
                · rw [if_pos c16] at H
                  have LMc16 := Aside0.mk c16
                  clear c16
                  obtain ⟨y162, hy162⟩ : ∃ y_ : List ByteArray, y_ = (x3_1 ++ [x4_1]) := ⟨_, rfl⟩
                  replace H : (spec_tagsFields.l0 kj2 a0 y162 (⟨#[]⟩ : ByteArray) (wrap64 (x5_1 + 1))) = some r := by first | (rw [hy162]; with_reducible exact H) | (have H2_ := (Option.bind_some _ _).symm.trans H; rw [hy162]; with_reducible exact H2_) | (have H2_ := (Option.bind_some _ _).symm.trans H; with_reducible exact H2_) | with_reducible exact H | (rw [hy162]; exact H) | exact H
                  have Ny162 := Aside0.mk hy162
                  clear hy162
                  have H' := Aside0.mk H
                  clear H
                  go_wp2_with (first | ((with_reducible refine gate_builtin (b := .append) (xs := #[.tmp 37, .tmp 39]) rfl ?_); at_builtin; refine Kd.R_append Kd.string (w0 := w) w.heap.size rfl (.tmp 37) (.tmp 39) 22 9 (.string ⟨#[]⟩) 16 rfl Tryd.underlying22 info9 rfl (by decide) (by omega) u3 x3_1 x4_1 [.string x4_1] (fun _ => True) (fun _ => False) rfl rfl ?aP (fun _ hk => hk.elim) ?aF ?aO ?aB ?aS ?aL ?_; (case aP => exact rfl); (case aB => exact (by repeat (first | (with_reducible first | exact HB.out | apply below_alloc | apply pw_below_drewN | apply below_drew1) | exact HB.out))); (case aF => exact (fun _ _ => trivial)); (case aO => exact (by (with_reducible repeat (first | apply Kd.R_alloc | apply Kd.R_drewN | apply Kd.R_drew)); exact HO_3.out)); (case aS => exact (below_size (by repeat (first | (with_reducible first | exact HB.out | apply below_alloc | apply pw_below_drewN | apply below_drew1) | exact HB.out)))); (case aL => have := LMc16.out; omega); intro v163 w17 ho hb hg hat; rw [← Ny162.out] at ho; have n0_ := Aside0.mk (hb); have n1_ := Aside0.mk (ho); clear HB; clear HO_3; have HB := n0_; have HO164 := n1_; clear n0_ n1_; clear ho hb hg hat))
                  go_roundg kj2
                  case measure => have := HK1.out; have := HJ2.out; omega
                  case rel => exact ⟨(y162), ((⟨#[]⟩ : ByteArray)), (wrap64 (x5_1 + 1)), (by first | rfl | (simp; done) | (simp [*]; done)), (by first | rfl | (simp; done) | (simp [*]; done)), H', ⟨by have := HK1.out; have := HJ2.out; omega⟩, ⟨by (with_reducible repeat (first | apply Kd.R_alloc | apply Kd.R_drewN | apply Kd.R_drew)); exact HO164.out⟩, ⟨by repeat (first | (with_reducible first | exact HB.out | apply below_alloc | apply pw_below_drewN | apply below_drew1) | exact HB.out)⟩⟩
                · rw [if_neg c16] at H
                  exact absurd H (by simp)
      · rw [if_neg c2] at H
        have c2b0 : decide (x5_1 < (a0.size : Int)) = false := decide_eq_false c2
        clear c2
        by_cases c18 : x4_1.toList = ([] : List UInt8)
        · rw [if_pos c18] at H
          have c18b0 : (x4_1.toList == ([] : List UInt8)) = true := beq_iff_eq.mpr c18
          have c18b1 : (x4_1.toList != ([] : List UInt8)) = false := bne_eq_false_iff_eq.mpr c18
          clear c18
          obtain rfl := Option.some.inj H
          go_wp2
          go_ret
          exact ⟨_, by first | rfl | (simp [errW_none, errW_some] <;> rfl) | (simp [*, errW_none, errW_some] <;> rfl), by (with_reducible repeat (first | apply Kd.R_alloc | apply Kd.R_drewN | apply Kd.R_drew)); exact HO_3.out, by repeat (first | (with_reducible first | exact HB.out | apply below_alloc | apply pw_below_drewN | apply below_drew1) | exact HB.out)⟩
        · rw [if_neg c18] at H
          have c18b0 : (x4_1.toList == ([] : List UInt8)) = false := beq_eq_false_iff_ne.mpr c18
          have c18b1 : (x4_1.toList != ([] : List UInt8)) = true := bne_iff_ne.mpr c18
          by_cases c19 : x3_1.length < 8796093022208
          · rw [if_pos c19] at H
            have LMc19 := Aside0.mk c19
            clear c19
            obtain ⟨y159, hy159⟩ : ∃ y_ : List ByteArray, y_ = (x3_1 ++ [x4_1]) := ⟨_, rfl⟩
            replace H : (some y159) = some r := by first | (rw [hy159]; with_reducible exact H) | (have H2_ := (Option.bind_some _ _).symm.trans H; rw [hy159]; with_reducible exact H2_) | (have H2_ := (Option.bind_some _ _).symm.trans H; with_reducible exact H2_) | with_reducible exact H | (rw [hy159]; exact H) | exact H
            have Ny159 := Aside0.mk hy159
            clear hy159
            obtain rfl := Option.some.inj H
            go_wp2_with (first | ((with_reducible refine gate_builtin (b := .append) (xs := #[.tmp 43, .tmp 45]) rfl ?_); at_builtin; refine Kd.R_append Kd.string (w0 := w) w.heap.size rfl (.tmp 43) (.tmp 45) 22 9 (.string ⟨#[]⟩) 16 rfl Tryd.underlying22 info9 rfl (by decide) (by omega) u3 x3_1 x4_1 [.string x4_1] (fun _ => True) (fun _ => False) rfl rfl ?aP (fun _ hk => hk.elim) ?aF ?aO ?aB ?aS ?aL ?_; (case aP => exact rfl); (case aB => exact (by repeat (first | (with_reducible first | exact HB.out | apply below_alloc | apply pw_below_drewN | apply below_drew1) | exact HB.out))); (case aF => exact (fun _ _ => trivial)); (case aO => exact (by (with_reducible repeat (first | apply Kd.R_alloc | apply Kd.R_drewN | apply Kd.R_drew)); exact HO_3.out)); (case aS => exact (below_size (by repeat (first | (with_reducible first | exact HB.out | apply below_alloc | apply pw_below_drewN | apply below_drew1) | exact HB.out)))); (case aL => have := LMc19.out; omega); intro v160 w20 ho hb hg hat; rw [← Ny159.out] at ho; have n0_ := Aside0.mk (hb); have n1_ := Aside0.mk (ho); clear HB; clear HO_3; have HB := n0_; have HO161 := n1_; clear n0_ n1_; clear ho hb hg hat))
            go_ret
            exact ⟨_, by first | rfl | (simp [errW_none, errW_some] <;> rfl) | (simp [*, errW_none, errW_some] <;> rfl), by (with_reducible repeat (first | apply Kd.R_alloc | apply Kd.R_drewN | apply Kd.R_drew)); exact HO161.out, by repeat (first | (with_reducible first | exact HB.out | apply below_alloc | apply pw_below_drewN | apply below_drew1) | exact HB.out)⟩
          · rw [if_neg c19] at H
            exact absurd H (by simp)

/-! ### spec_ParseConstraint: function 28 -/
def spec_ParseConstraint.l0 : Nat → List (List ByteArray) → List ByteArray → Int → Int → Option ((List (List ByteArray)) × Bool)
  | 0, _, _, _, _ => none
  | k + 1, x4, x10, x11, x12 => if x12 < x11 then (if 0 ≤ x12 then (if x12 < (x10.length : Int) then ((spec_ParseOption.f k (rdOf ByteArray.empty x10 x12)).bind fun bt169 => (if bt169.2 = true then (if x4.length < 5864062014805 then (spec_ParseConstraint.l0 k (x4 ++ [bt169.1]) x10 x11 (wrap64 (x12 + 1))) else (none)) else (some (x4, false)))) else (none)) else (none)) else (some (x4, true))
def spec_ParseConstraint.f (k : Nat) (a0 : ByteArray) : Option ((List (List ByteArray)) × Bool) := (spec_tagsFields.f k a0).bind fun t165 => (spec_ParseConstraint.l0 k ([] : List (List ByteArray)) t165 (t165.length : Int) 0)
theorem spec_ParseConstraint.mono_l : ∀ k, (∀ y0 y1 y2 y3, LeO (spec_ParseConstraint.l0 k y0 y1 y2 y3) (spec_ParseConstraint.l0 (k + 1) y0 y1 y2 y3))
  | 0 => fun _ _ _ _ r h => by simp [spec_ParseConstraint.l0] at h
  | k + 1 => by
    have ih0 := spec_ParseConstraint.mono_l k
    · intro y0 y1 y2 y3
      unfold spec_ParseConstraint.l0
      repeat' first
      | (with_reducible exact ih0 _ _ _ _)
      | (with_reducible exact spec_ParseOption.mono _ _)
      | (with_reducible exact spec_tagsFields.mono _ _)
      | (with_reducible exact LeO.refl _)
      | (with_reducible exact LeO.none _)
      | (with_reducible refine LeO.ite ?_ ?_)
      | (with_reducible refine LeO.bind ?_ (fun _ => ?_))
      | exact ih0 _ _ _ _
      | exact spec_ParseOption.mono _ _
      | exact spec_tagsFields.mono _ _
      | exact LeO.none _
      | refine LeO.ite ?_ ?_
      | refine LeO.bind ?_ (fun _ => ?_)
theorem spec_ParseConstraint.mono : ∀ a0 k, LeO (spec_ParseConstraint.f k a0) (spec_ParseConstraint.f (k + 1) a0) := by
  intro a0 k
  have ih0 := spec_ParseConstraint.mono_l k
  unfold spec_ParseConstraint.f
  repeat' first
      | (with_reducible exact ih0 _ _ _ _)
      | (with_reducible exact spec_ParseOption.mono _ _)
      | (with_reducible exact spec_tagsFields.mono _ _)
      | (with_reducible exact LeO.refl _)
      | (with_reducible exact LeO.none _)
      | (with_reducible refine LeO.ite ?_ ?_)
      | (with_reducible refine LeO.bind ?_ (fun _ => ?_))
      | exact ih0 _ _ _ _
      | exact spec_ParseOption.mono _ _
      | exact spec_tagsFields.mono _ _
      | exact LeO.none _
      | refine LeO.ite ?_ ?_
      | refine LeO.bind ?_ (fun _ => ?_)
set_option maxHeartbeats 8000000 in
set_option maxRecDepth 100000 in
theorem spec_ParseConstraint.calls (k : Nat) (a0 : ByteArray) (r1 : List (List ByteArray)) (r2 : Bool) (w : World) (h : spec_ParseConstraint.f k a0 = some (r1, r2)) :
    Calls Tryd.prog 28 #[.string a0] w fun e w' => ∃ v0_ : Value, e = .returned (.tuple #[v0_, .bool r2]) ∧ Kd.S (Kd.slice 9 Kd.string) 22 w' w.heap.size (fun _ => True) v0_ r1 ∧ Below w.heap.size w w' := by
  have HB := Aside0.mk (Below.refl w.heap.size w)
  have H : ((spec_tagsFields.f k a0).bind fun t165 => (spec_ParseConstraint.l0 k ([] : List (List ByteArray)) t165 (t165.length : Int) 0)) = some (r1, r2) := h
  clear h
  replace H := Option.bind_eq_some_iff.mp H
  obtain ⟨t165, A20, H⟩ := H
  replace H : (spec_ParseConstraint.l0 k ([] : List (List ByteArray)) t165 (t165.length : Int) 0) = some (r1, r2) := H
  have A2 := Aside0.mk A20
  clear A20
  have H' := Aside0.mk H
  clear H
  go_enter Tryd.func28, Tryd.ntmps28
  go_wp2_with (first | ((with_reducible refine gate_callee (f := 52) rfl ?_); refine goesL_ (some 10) rfl rfl Tryd.func52 (by kernel_rfl) rfl #[.string a0] rfl (by (try simp only [List.map_toArray, List.map_cons, List.map_nil]); first | done | rfl | (simp only [List.length_drop, List.length_take]; rfl)) ?_; (with_reducible refine (spec_tagsFields.calls k a0 t165 _ A2.out).mono ?_); rintro e w3 ⟨v166, rfl, ho0, hb⟩; refine ⟨_, rfl, ?_⟩; have n0_ := Aside0.mk (Kd.R_lower ho0 (below_size (by repeat (first | (with_reducible first | exact HB.out | apply below_alloc | apply pw_below_drewN | apply below_drew1) | exact HB.out)))); have n1_ := Aside0.mk (below_step (by repeat (first | (with_reducible first | exact HB.out | apply below_alloc | apply pw_below_drewN | apply below_drew1) | exact HB.out)) hb); clear HB; have HO167 := n0_; have HB := n1_; clear n0_ n1_; (try clear hb); (try clear hb2); (try clear hk); (try clear hi); (try clear ho0); obtain ⟨Ao4, co4, eo4⟩ := Kd.R_slice HO167.out; subst eo4))
  go_loopg [4, 12] k (fun kq v4 v12 w' => ∃ (x4_1 : List (List ByteArray)) (x12_1 : Int), v12 = .int .i64 x12_1 ∧ Aside0 (spec_ParseConstraint.l0 kq x4_1 t165 (t165.length : Int) x12_1 = some (r1, r2)) ∧ Aside0 (kq ≤ k) ∧ Aside0 (Kd.S (Kd.slice 9 Kd.string) 22 w' w.heap.size (fun k_ => some k_ ≠ ((.slice Ao4 t165.length co4) : Value).ownBlock) v4 x4_1) ∧ Aside0 (Kd.R Kd.string 9 w' w.heap.size (fun _ => True) (.slice Ao4 t165.length co4) t165) ∧ Aside0 (Below w.heap.size w w'))
  case atStart => exact ⟨(([] : List (List ByteArray))), (0), (by first | rfl | (simp; done) | (simp [*]; done)), H', ⟨Nat.le_refl _⟩, ⟨by first | exact Kd.S_nil _ _ _ _ _ | exact Kd.N_nil _ _ _ _ _ | exact Kd.V_nil _ _ _ _ _ | exact Kd.Q_nil _ _ _ _ _ | exact Kd.R_nil _ _ _ _ _⟩, ⟨by (with_reducible repeat (first | apply Kd.R_alloc | apply Kd.R_drewN | apply Kd.R_drew)); exact HO167.out⟩, ⟨by repeat (first | (with_reducible first | exact HB.out | apply below_alloc | apply pw_below_drewN | apply below_drew1) | exact HB.out)⟩⟩
  case round =>
    clear H'
    try clear c2
    try clear p2
    obtain ⟨x4_1, x12_1, rfl, HA, HK1, HO_4, HO_10, HB⟩ := hrel
    cases gk with
    | zero => exact absurd HA.out (by simp [spec_ParseConstraint.l0])
    | succ k1 =>
      have H := HA.out
      clear HA
      simp only [spec_ParseConstraint.l0] at H
      by_cases c5 : x12_1 < (t165.length : Int)
      · rw [if_pos c5] at H
        have c5b0 : decide (x12_1 < (t165.length : Int)) = true := decide_eq_true c5
        clear c5
        by_cases c6 : 0 ≤ x12_1
        · rw [if_pos c6] at H
          have c6b0 : decide (0 ≤ x12_1) = true := decide_eq_true c6
          clear c6
          by_cases c7 : x12_1 < (t165.length : Int)
          · rw [if_pos c7] at H
            have c7b0 : decide (x12_1 < (t165.length : Int)) = true := decide_eq_true c7
            clear c7
            replace H := Option.bind_eq_some_iff.mp H
            obtain ⟨⟨t169, t170⟩, A80, H⟩ := H
            replace H : (if t170 = true then (if x4_1.length < 5864062014805 then (spec_ParseConstraint.l0 k1 (x4_1 ++ [t169]) t165 (t165.length : Int) (wrap64 (x12_1 + 1))) else (none)) else (some (x4_1, false))) = some (r1, r2) := H
            have A8 := Aside0.mk A80
            clear A80
            by_cases c9 : t170 = true
            · subst c9
              have H1 : (if x4_1.length < 5864062014805 then (spec_ParseConstraint.l0 k1 (x4_1 ++ [t169]) t165 (t165.length : Int) (wrap64 (x12_1 + 1))) else (none)) = some (r1, r2) := by rw [if_pos rfl] at H; exact H
              clear H
              have H := H1
              clear H1
              by_cases c10 : x4_1.length < 5864062014805
              · rw [if_pos c10] at H
                have LMc10 := Aside0.mk c10
                clear c10
                obtain ⟨y173, hy173⟩ : ∃ y_ : List (List ByteArray), y_ = (x4_1 ++ [t169]) := ⟨_, rfl⟩
                replace H : (spec_ParseConstraint.l0 k1 y173 t165 (t165.length : Int) (wrap64 (x12_1 + 1))) = some (r1, r2) := by first | (rw [hy173]; with_reducible exact H) | (have H2_ := (Option.bind_some _ _).symm.trans H; rw [hy173]; with_reducible exact H2_) | (have H2_ := (Option.bind_some _ _).symm.trans H; with_reducible exact H2_) | with_reducible exact H | (rw [hy173]; exact H) | exact H
                have Ny173 := Aside0.mk hy173
                clear hy173
                have H' := Aside0.mk H
                clear H
                have p168 : 0 ≤ (x12_1 : Int) := of_decide_eq_true (by first | (with_reducible assumption) | assumption)
                have q168 : x12_1 < (t165.length : Int) := of_decide_eq_true (by first | (with_reducible assumption) | assumption)
                obtain ⟨ad168, e168, hx168_0⟩ := Kd.at_string (Kd.R_reads' HO_10.out).2.2 x12_1 p168 q168
                cases e168
                replace p168 := eq_true p168
                replace q168 := eq_true q168
                go_wp2_with (first | ((with_reducible refine gate_callee (f := 17) rfl ?_); refine goesL_ (some 18) rfl rfl Tryd.func17 (by kernel_rfl) rfl #[.string (rdOf ByteArray.empty t165 x12_1)] rfl (by (try simp only [List.map_toArray, List.map_cons, List.map_nil]); first | done | rfl | (simp only [List.length_drop, List.length_take]; rfl)) ?_; (with_reducible refine (spec_ParseOption.calls k1 (rdOf ByteArray.empty t165 x12_1) t169 true _ A8.out).mono ?_); rintro e w11 ⟨v171, rfl, ho0, hb⟩; refine ⟨_, rfl, ?_⟩; have n0_ := Aside0.mk (Kd.S_elder' (by (with_reducible repeat (first | apply Kd.S_alloc | apply Kd.S_drewN | apply Kd.S_drew)); exact HO_4.out) (Kd.R_base ho0) hb); have n1_ := Aside0.mk (Kd.R_elder' (by (with_reducible repeat (first | apply Kd.R_alloc | apply Kd.R_drewN | apply Kd.R_drew)); exact HO_10.out) (Kd.R_base ho0) hb); have n2_ := Aside0.mk (Kd.R_lower (Kd.R_new' ho0 (Kd.R_lt (by (with_reducible repeat (first | apply Kd.R_alloc | apply Kd.R_drewN | apply Kd.R_drew)); exact HO_10.out))) (below_size (by repeat (first | (with_reducible first | exact HB.out | apply below_alloc | apply pw_below_drewN | apply below_drew1) | exact HB.out)))); have n3_ := Aside0.mk (below_step (by repeat (first | (with_reducible first | exact HB.out | apply below_alloc | apply pw_below_drewN | apply below_drew1) | exact HB.out)) hb); clear HO_4; clear HO_10; clear HB; have HO_4 := n0_; have HO_10 := n1_; have HO172 := n2_; have HB := n3_; clear n0_ n1_ n2_ n3_; (try clear hb); (try clear hb2); (try clear hk); (try clear hi); (try clear ho0); obtain ⟨Ao13, co13, eo13⟩ := Kd.R_slice HO172.out; subst eo13) | ((with_reducible refine gate_builtin (b := .append) (xs := #[.tmp 24, .tmp 26]) rfl ?_); at_builtin; refine Kd.S_append (Kd.slice 9 Kd.string) (w0 := w) w.heap.size rfl (.tmp 24) (.tmp 26) 31 22 (.slice none 0 0) 24 rfl Tryd.underlying31 info22 rfl (by decide) (by omega) u4 x4_1 t169 [.slice Ao13 t169.length co13] (fun k_ => some k_ ≠ (.slice (some ad168) t165.length co4 : Value).ownBlock) (fun k_ => some k_ = (.slice Ao13 t169.length co13 : Value).ownBlock) rfl rfl ?aP (fun k_ hk_ => ((Kd.R_mono (ok' := fun k_ => ((fun k_ => some k_ ≠ (.slice (some ad168) t165.length co4 : Value).ownBlock)) k_ ∧ some k_ ≠ (u4 : Value).ownBlock) (Kd.R_apart' (HO172.out) (Kd.S_typed HO_4.out) (by decide)) (fun k_ hk => ⟨hk.1.2, hk.2⟩))).1 k_ hk_.symm) ?aF ?aO ?aB ?aS ?aL ?_; (case aP => exact Kd.M_row (Kd.R_mono (Kd.R_tight rfl (Kd.R_mono (ok' := fun k_ => ((fun k_ => some k_ ≠ (.slice (some ad168) t165.length co4 : Value).ownBlock)) k_ ∧ some k_ ≠ (u4 : Value).ownBlock) (Kd.R_apart' (HO172.out) (Kd.S_typed HO_4.out) (by decide)) (fun k_ hk => ⟨hk.1.2, hk.2⟩))) (fun _ h_ => h_))); (case aB => exact (by repeat (first | (with_reducible first | exact HB.out | apply below_alloc | apply pw_below_drewN | apply below_drew1) | exact HB.out))); (case aF => exact (fun k_ hk => Kd.fresh' (Kd.R_lt (by (with_reducible repeat (first | apply Kd.R_alloc | apply Kd.R_drewN | apply Kd.R_drew)); exact HO_10.out)) k_ hk)); (case aO => exact (by (with_reducible repeat (first | apply Kd.S_alloc | apply Kd.S_drewN | apply Kd.S_drew)); exact Kd.S_mono HO_4.out (fun k_ hk => ⟨hk.1, fun e_ => hk.2 e_⟩))); (case aS => exact (below_size (by repeat (first | (with_reducible first | exact HB.out | apply below_alloc | apply pw_below_drewN | apply below_drew1) | exact HB.out)))); (case aL => have := LMc10.out; omega); intro v174 w12 ho hb hg hat; rw [← Ny173.out] at ho; have n0_ := Aside0.mk (Kd.R_over' (by (with_reducible repeat (first | apply Kd.R_alloc | apply Kd.R_drewN | apply Kd.R_drew)); exact HO_10.out) (Kd.S_typed (by (with_reducible repeat (first | apply Kd.S_alloc | apply Kd.S_drewN | apply Kd.S_drew)); exact HO_4.out)) (by decide) hg); have n1_ := Aside0.mk (hb); have n2_ := Aside0.mk (ho); clear HO_10; clear HB; clear HO_4; clear HO172; have HO_10 := n0_; have HB := n1_; have HO175 := n2_; clear n0_ n1_ n2_; clear ho hb hg hat))
                go_roundg k1
                case measure => have := HK1.out; omega
                case rel => exact ⟨(y173), (wrap64 (x12_1 + 1)), (by first | rfl | (simp; done) | (simp [*]; done)), H', ⟨by have := HK1.out; omega⟩, ⟨by (with_reducible repeat (first | apply Kd.S_alloc | apply Kd.S_drewN | apply Kd.S_drew)); exact HO175.out⟩, ⟨by (with_reducible repeat (first | apply Kd.R_alloc | apply Kd.R_drewN | apply Kd.R_drew)); exact Kd.R_mono HO_10.out (fun _ hk => trivial)⟩, ⟨by repeat (first | (with_reducible first | exact HB.out | apply below_alloc | apply pw_below_drewN | apply below_drew1) | exact HB.out)⟩⟩
              · rw [if_neg c10] at H
                exact absurd H (by simp)
            · replace c9 := Bool.eq_false_iff.mpr c9
              subst c9
              have H1 : (some (x4_1, false)) = some (r1, r2) := by rw [if_neg (show ¬ (false = true) by decide)] at H; exact H
              clear H
              have H := H1
              clear H1
              simp only [Option.some.injEq, Prod.mk.injEq] at H
              obtain ⟨rfl, rfl⟩ := H
              have p168 : 0 ≤ (x12_1 : Int) := of_decide_eq_true (by first | (with_reducible assumption) | assumption)
              have q168 : x12_1 < (t165.length : Int) := of_decide_eq_true (by first | (with_reducible assumption) | assumption)
              obtain ⟨ad168, e168, hx168_0⟩ := Kd.at_string (Kd.R_reads' HO_10.out).2.2 x12_1 p168 q168
              cases e168
              replace p168 := eq_true p168
              replace q168 := eq_true q168
              go_wp2_with (first | ((with_reducible refine gate_callee (f := 17) rfl ?_); refine goesL_ (some 18) rfl rfl Tryd.func17 (by kernel_rfl) rfl #[.string (rdOf ByteArray.empty t165 x12_1)] rfl (by (try simp only [List.map_toArray, List.map_cons, List.map_nil]); first | done | rfl | (simp only [List.length_drop, List.length_take]; rfl)) ?_; (with_reducible refine (spec_ParseOption.calls k1 (rdOf ByteArray.empty t165 x12_1) t169 false _ A8.out).mono ?_); rintro e w14 ⟨v171, rfl, ho0, hb⟩; refine ⟨_, rfl, ?_⟩; have n0_ := Aside0.mk (Kd.S_elder' (by (with_reducible repeat (first | apply Kd.S_alloc | apply Kd.S_drewN | apply Kd.S_drew)); exact HO_4.out) (Kd.R_base ho0) hb); have n1_ := Aside0.mk (Kd.R_elder' (by (with_reducible repeat (first | apply Kd.R_alloc | apply Kd.R_drewN | apply Kd.R_drew)); exact HO_10.out) (Kd.R_base ho0) hb); have n2_ := Aside0.mk (Kd.R_lower (Kd.R_new' ho0 (Kd.R_lt (by (with_reducible repeat (first | apply Kd.R_alloc | apply Kd.R_drewN | apply Kd.R_drew)); exact HO_10.out))) (below_size (by repeat (first | (with_reducible first | exact HB.out | apply below_alloc | apply pw_below_drewN | apply below_drew1) | exact HB.out)))); have n3_ := Aside0.mk (below_step (by repeat (first | (with_reducible first | exact HB.out | apply below_alloc | apply pw_below_drewN | apply below_drew1) | exact HB.out)) hb); clear HO_4; clear HO_10; clear HB; have HO_4 := n0_; have HO_10 := n1_; have HO172 := n2_; have HB := n3_; clear n0_ n1_ n2_ n3_; (try clear hb); (try clear hb2); (try clear hk); (try clear hi); (try clear ho0)))
              go_ret2
              exact ⟨_, by first | rfl | (simp [errW_none, errW_some] <;> rfl) | (simp [*, errW_none, errW_some] <;> rfl), by (with_reducible repeat (first | apply Kd.S_alloc | apply Kd.S_drewN | apply Kd.S_drew)); exact Kd.S_mono HO_4.out (fun _ hk => trivial), by repeat (first | (with_reducible first | exact HB.out | apply below_alloc | apply pw_below_drewN | apply below_drew1) | exact HB.out)⟩
          · rw [if_neg c7] at H
            exact absurd H (by simp)
        · rw [if_neg c6] at H
          exact absurd H (by simp)
      · rw [if_neg c5] at H
        have c5b0 : decide (x12_1 < (t165.length : Int)) = false := decide_eq_false c5
        clear c5
        simp only [Option.some.injEq, Prod.mk.injEq] at H
        obtain ⟨rfl, rfl⟩ := H
        go_wp2
        go_ret2
        exact ⟨_, by first | rfl | (simp [errW_none, errW_some] <;> rfl) | (simp [*, errW_none, errW_some] <;> rfl), by (with_reducible repeat (first | apply Kd.S_alloc | apply Kd.S_drewN | apply Kd.S_drew)); exact Kd.S_mono HO_4.out (fun _ hk => trivial), by repeat (first | (with_reducible first | exact HB.out | apply below_alloc | apply pw_below_drewN | apply below_drew1) | exact HB.out)⟩

/-! ### spec_TagNames: function 29 -/
mutual
def spec_TagNames.l0 : Nat → List ByteArray → List (List (List ByteArray)) → Int → Int → Option (List ByteArray)
  | 0, _, _, _, _ => none
  | k + 1, x3, x12, x13, x14 => if x14 < x13 then (if 0 ≤ x14 then (if x14 < (x12.length : Int) then (spec_TagNames.l1 k x3 x12 x13 x14 (rd_L7 x12 x14) ((rd_L7 x12 x14).length : Int) 0) else (none)) else (none)) else (some x3)
def spec_TagNames.l1 : Nat → List ByteArray → List (List (List ByteArray)) → Int → Int → List (List ByteArray) → Int → Int → Option (List ByteArray)
  | 0, _, _, _, _, _, _, _ => none
  | k + 1, x3, x12, x13, x14, x18, x19, x20 => if x20 < x19 then (if 0 ≤ x20 then (if x20 < (x18.length : Int) then (spec_TagNames.l2 k x3 x12 x13 x14 x18 x19 x20 (rd_L1 x18 x20) ((rd_L1 x18 x20).length : Int) 0) else (none)) else (none)) else (spec_TagNames.l0 k x3 x12 x13 (wrap64 (x14 + 1)))
def spec_TagNames.l2 : Nat → List ByteArray → List (List (List ByteArray)) → Int → Int → List (List ByteArray) → Int → Int → List ByteArray → Int → Int → Option (List ByteArray)
  | 0, _, _, _, _, _, _, _, _, _, _ => none
  | k + 1, x3, x12, x13, x14, x18, x19, x20, x24, x25, x26 => if x26 < x25 then (if 0 ≤ x26 then (if x26 < (x24.length : Int) then ((spec_TermParts.f (rdOf ByteArray.empty x24 x26)).bind fun bt179 => ((spec_tagsListed.f k x3 bt179.2).bind fun t181 => (if t181 = true then (spec_TagNames.l2 k x3 x12 x13 x14 x18 x19 x20 x24 x25 (wrap64 (x26 + 1))) else (if x3.length < 8796093022208 then (spec_TagNames.l2 k (x3 ++ [bt179.2]) x12 x13 x14 x18 x19 x20 x24 x25 (wrap64 (x26 + 1))) else (none))))) else (none)) else (none)) else (spec_TagNames.l1 k x3 x12 x13 x14 x18 x19 (wrap64 (x20 + 1)))
end
def spec_TagNames.f (k : Nat) (l0 : List (List (List ByteArray))) : Option (List ByteArray) := spec_TagNames.l0 k ([] : List ByteArray) l0 (l0.length : Int) 0
theorem spec_TagNames.mono_l : ∀ k, (∀ y0 y1 y2 y3, LeO (spec_TagNames.l0 k y0 y1 y2 y3) (spec_TagNames.l0 (k + 1) y0 y1 y2 y3)) ∧ (∀ y0 y1 y2 y3 y4 y5 y6, LeO (spec_TagNames.l1 k y0 y1 y2 y3 y4 y5 y6) (spec_TagNames.l1 (k + 1) y0 y1 y2 y3 y4 y5 y6)) ∧ (∀ y0 y1 y2 y3 y4 y5 y6 y7 y8 y9, LeO (spec_TagNames.l2 k y0 y1 y2 y3 y4 y5 y6 y7 y8 y9) (spec_TagNames.l2 (k + 1) y0 y1 y2 y3 y4 y5 y6 y7 y8 y9))
  | 0 => ⟨fun _ _ _ _ r h => by simp [spec_TagNames.l0] at h, fun _ _ _ _ _ _ _ r h => by simp [spec_TagNames.l1] at h, fun _ _ _ _ _ _ _ _ _ _ r h => by simp [spec_TagNames.l2] at h⟩
  | k + 1 => by
    obtain ⟨ih0, ih1, ih2⟩ := spec_TagNames.mono_l k
    refine ⟨?_, ?_, ?_⟩
    · intro y0 y1 y2 y3
      unfold spec_TagNames.l0
      repeat' first
      | (with_reducible exact ih0 _ _ _ _)
      | (with_reducible exact ih1 _ _ _ _ _ _ _)
      | (with_reducible exact ih2 _ _ _ _ _ _ _ _ _ _)
      | (with_reducible exact spec_tagsListed.mono _ _ _)
      | (with_reducible exact LeO.refl _)
      | (with_reducible exact LeO.none _)
      | (with_reducible refine LeO.ite ?_ ?_)
      | (with_reducible refine LeO.bind ?_ (fun _ => ?_))
      | exact ih0 _ _ _ _
      | exact ih1 _ _ _ _ _ _ _
      | exact ih2 _ _ _ _ _ _ _ _ _ _
      | exact spec_tagsListed.mono _ _ _
      | exact LeO.none _
      | refine LeO.ite ?_ ?_
      | refine LeO.bind ?_ (fun _ => ?_)
    · intro y0 y1 y2 y3 y4 y5 y6
      unfold spec_TagNames.l1
      repeat' first
      | (with_reducible exact ih0 _ _ _ _)
      | (with_reducible exact ih1 _ _ _ _ _ _ _)
      | (with_reducible exact ih2 _ _ _ _ _ _ _ _ _ _)
      | (with_reducible exact spec_tagsListed.mono _ _ _)
      | (with_reducible exact LeO.refl _)
      | (with_reducible exact LeO.none _)
      | (with_reducible refine LeO.ite ?_ ?_)
      | (with_reducible refine LeO.bind ?_ (fun _ => ?_))
      | exact ih0 _ _ _ _
      | exact ih1 _ _ _ _ _ _ _
      | exact ih2 _ _ _ _ _ _ _ _ _ _
      | exact spec_tagsListed.mono _ _ _
      | exact LeO.none _
      | refine LeO.ite ?_ ?_
      | refine LeO.bind ?_ (fun _ => ?_)
    · intro y0 y1 y2 y3 y4 y5 y6 y7 y8 y9
      unfold spec_TagNames.l2
      repeat' first
      | (with_reducible exact ih0 _ _ _ _)
      | (with_reducible exact ih1 _ _ _ _ _ _ _)
      | (with_reducible exact ih2 _ _ _ _ _ _ _ _ _ _)
      | (with_reducible exact spec_tagsListed.mono _ _ _)
      | (with_reducible exact LeO.refl _)
      | (with_reducible exact LeO.none _)
      | (with_reducible refine LeO.ite ?_ ?_)
      | (with_reducible refine LeO.bind ?_ (fun _ => ?_))
      | exact ih0 _ _ _ _
      | exact ih1 _ _ _ _ _ _ _
      | exact ih2 _ _ _ _ _ _ _ _ _ _
      | exact spec_tagsListed.mono _ _ _
      | exact LeO.none _
      | refine LeO.ite ?_ ?_
      | refine LeO.bind ?_ (fun _ => ?_)
theorem spec_TagNames.mono : ∀ a0 k, LeO (spec_TagNames.f k a0) (spec_TagNames.f (k + 1) a0) := by
  intro a0 k
  obtain ⟨ih0, ih1, ih2⟩ := spec_TagNames.mono_l k
  unfold spec_TagNames.f
  repeat' first
      | (with_reducible exact ih0 _ _ _ _)
      | (with_reducible exact ih1 _ _ _ _ _ _ _)
      | (with_reducible exact ih2 _ _ _ _ _ _ _ _ _ _)
      | (with_reducible exact spec_tagsListed.mono _ _ _)
      | (with_reducible exact LeO.refl _)
      | (with_reducible exact LeO.none _)
      | (with_reducible refine LeO.ite ?_ ?_)
      | (with_reducible refine LeO.bind ?_ (fun _ => ?_))
      | exact ih0 _ _ _ _
      | exact ih1 _ _ _ _ _ _ _
      | exact ih2 _ _ _ _ _ _ _ _ _ _
      | exact spec_tagsListed.mono _ _ _
      | exact LeO.none _
      | refine LeO.ite ?_ ?_
      | refine LeO.bind ?_ (fun _ => ?_)
set_option maxHeartbeats 8000000 in
set_option maxRecDepth 100000 in
theorem spec_TagNames.calls (k : Nat) (A0 : Option Addr) (c0 : Nat) (l0 : List (List (List ByteArray))) (r : List ByteArray) (w : World) (hr0 : Kd.C (Kd.slice 22 (Kd.slice 9 Kd.string)) w A0 l0.length l0) (hc0 : l0.length ≤ c0) (h : spec_TagNames.f k l0 = some r) :
    Calls Tryd.prog 29 #[.slice A0 l0.length c0] w fun e w' => ∃ v0_ : Value, e = .returned (v0_) ∧ Kd.R Kd.string 9 w' w.heap.size (fun _ => True) v0_ r ∧ Below w.heap.size w w' := by
  have HR0 := Aside0.mk hr0
  have HC0 := Aside0.mk hc0
  clear hr0 hc0
  have HB := Aside0.mk (Below.refl w.heap.size w)
  have H : (spec_TagNames.l0 k ([] : List ByteArray) l0 (l0.length : Int) 0) = some r := h
  clear h
  have H' := Aside0.mk H
  clear H
  go_enter Tryd.func29, Tryd.ntmps29
  go_wp2
  go_loopg [3, 14] k (fun kq v3 v14 w' => ∃ (x3_1 : List ByteArray) (x14_1 : Int), v14 = .int .i64 x14_1 ∧ Aside0 (spec_TagNames.l0 kq x3_1 l0 (l0.length : Int) x14_1 = some r) ∧ Aside0 (kq ≤ k) ∧ Aside0 (Kd.R Kd.string 9 w' w.heap.size (fun _ => True) v3 x3_1) ∧ Aside0 (Below w.heap.size w w'))
  case atStart => exact ⟨(([] : List ByteArray)), (0), (by first | rfl | (simp; done) | (simp [*]; done)), H', ⟨Nat.le_refl _⟩, ⟨by first | exact Kd.R_nil _ _ _ _ _ | exact Kd.N_nil _ _ _ _ _ | exact Kd.V_nil _ _ _ _ _ | exact Kd.Q_nil _ _ _ _ _ | exact Kd.S_nil _ _ _ _ _⟩, ⟨by repeat (first | (with_reducible first | exact HB.out | apply below_alloc | apply pw_below_drewN | apply below_drew1) | exact HB.out)⟩⟩
  case round =>
    clear H'
    obtain ⟨x3_1, x14_1, rfl, HA, HK1, HO_3, HB⟩ := hrel
    cases gk with
    | zero => exact absurd HA.out (by simp [spec_TagNames.l0])
    | succ k1 =>
      have H := HA.out
      clear HA
      simp only [spec_TagNames.l0] at H
      by_cases c2 : x14_1 < (l0.length : Int)
      · rw [if_pos c2] at H
        have c2b0 : decide (x14_1 < (l0.length : Int)) = true := decide_eq_true c2
        clear c2
        by_cases c3 : 0 ≤ x14_1
        · rw [if_pos c3] at H
          have c3b0 : decide (0 ≤ x14_1) = true := decide_eq_true c3
          clear c3
          by_cases c4 : x14_1 < (l0.length : Int)
          · rw [if_pos c4] at H
            have c4b0 : decide (x14_1 < (l0.length : Int)) = true := decide_eq_true c4
            clear c4
            have H' := Aside0.mk H
            clear H
            have p176 : 0 ≤ (x14_1 : Int) := of_decide_eq_true (by first | (with_reducible assumption) | assumption)
            have q176 : x14_1 < (l0.length : Int) := of_decide_eq_true (by first | (with_reducible assumption) | assumption)
            obtain ⟨ad176, A176_0, c176_0, e176, hx176_0, hl176_0, hi176_0⟩ := at_L7 HR0.out x14_1 p176 q176
            cases e176
            replace hx176_0 := (HB.out.cell (World.block_lt_of_cell? w _ hx176_0)).trans hx176_0
            have HR176_0 := Aside0.mk hi176_0
            have HC176_0 := Aside0.mk hl176_0
            clear hi176_0 hl176_0
            replace p176 := eq_true p176
            replace q176 := eq_true q176
            go_wp2
            go_loopg [3, 20] k1 (fun kq v3 v20 w' => ∃ (x3_2 : List ByteArray) (x20_2 : Int), v20 = .int .i64 x20_2 ∧ Aside0 (spec_TagNames.l1 kq x3_2 l0 (l0.length : Int) x14_1 (rd_L7 l0 x14_1) ((rd_L7 l0 x14_1).length : Int) x20_2 = some r) ∧ Aside0 (kq ≤ k1) ∧ Aside0 (Kd.R Kd.string 9 w' w.heap.size (fun _ => True) v3 x3_2) ∧ Aside0 (Below w.heap.size w w'))
            case atStart => exact ⟨(x3_1), (0), (by first | rfl | (simp; done) | (simp [*]; done)), H', ⟨Nat.le_refl _⟩, ⟨by (with_reducible repeat (first | apply Kd.R_alloc | apply Kd.R_drewN | apply Kd.R_drew)); exact HO_3.out⟩, ⟨by repeat (first | (with_reducible first | exact HB.out | apply below_alloc | apply pw_below_drewN | apply below_drew1) | exact HB.out)⟩⟩
            case round =>
              clear H'
              try clear c1
              try clear p1
              try clear q1
              try clear hx1
              try clear c2
              try clear c2b0
              try clear p2
              try clear c3
              try clear c3b0
              try clear c4
              try clear c4b0
              try clear hx176_0
              try clear p176
              try clear q176
              obtain ⟨x3_2, x20_2, rfl, HA, HK2, HO_3, HB⟩ := hrel
              cases gk with
              | zero => exact absurd HA.out (by simp [spec_TagNames.l1])
              | succ k2 =>
                have H := HA.out
                clear HA
                simp only [spec_TagNames.l1] at H
                by_cases c5 : x20_2 < ((rd_L7 l0 x14_1).length : Int)
                · rw [if_pos c5] at H
                  have c5b0 : decide (x20_2 < ((rd_L7 l0 x14_1).length : Int)) = true := decide_eq_true c5
                  clear c5
                  by_cases c6 : 0 ≤ x20_2
                  · rw [if_pos c6] at H
                    have c6b0 : decide (0 ≤ x20_2) = true := decide_eq_true c6
                    clear c6
                    by_cases c7 : x20_2 < ((rd_L7 l0 x14_1).length : Int)
                    · rw [if_pos c7] at H
                      have c7b0 : decide (x20_2 < ((rd_L7 l0 x14_1).length : Int)) = true := decide_eq_true c7
                      clear c7
                      have H' := Aside0.mk H
                      clear H
                      have p177 : 0 ≤ (x20_2 : Int) := of_decide_eq_true (by first | (with_reducible assumption) | assumption)
                      have q177 : x20_2 < ((rd_L7 l0 x14_1).length : Int) := of_decide_eq_true (by first | (with_reducible assumption) | assumption)
                      obtain ⟨ad177, A177_0, c177_0, e177, hx177_0, hl177_0, hi177_0⟩ := at_L1 HR176_0.out x20_2 p177 q177
                      cases e177
                      replace hx177_0 := (HB.out.cell (World.block_lt_of_cell? w _ hx177_0)).trans hx177_0
                      have HR177_0 := Aside0.mk hi177_0
                      have HC177_0 := Aside0.mk hl177_0
                      clear hi177_0 hl177_0
                      replace p177 := eq_true p177
                      replace q177 := eq_true q177
                      go_wp2
                      go_loopg [3, 26] k2 (fun kq v3 v26 w' => ∃ (x3_3 : List ByteArray) (x26_3 : Int), v26 = .int .i64 x26_3 ∧ Aside0 (spec_TagNames.l2 kq x3_3 l0 (l0.length : Int) x14_1 (rd_L7 l0 x14_1) ((rd_L7 l0 x14_1).length : Int) x20_2 (rd_L1 (rd_L7 l0 x14_1) x20_2) ((rd_L1 (rd_L7 l0 x14_1) x20_2).length : Int) x26_3 = some r) ∧ Aside0 (kq ≤ k2) ∧ Aside0 (Kd.R Kd.string 9 w' w.heap.size (fun _ => True) v3 x3_3) ∧ Aside0 (Below w.heap.size w w'))
                      case atStart => exact ⟨(x3_2), (0), (by first | rfl | (simp; done) | (simp [*]; done)), H', ⟨Nat.le_refl _⟩, ⟨by (with_reducible repeat (first | apply Kd.R_alloc | apply Kd.R_drewN | apply Kd.R_drew)); exact HO_3.out⟩, ⟨by repeat (first | (with_reducible first | exact HB.out | apply below_alloc | apply pw_below_drewN | apply below_drew1) | exact HB.out)⟩⟩
                      case round =>
                        clear H'
                        try clear c1
                        try clear p1
                        try clear q1
                        try clear hx1
                        try clear c2
                        try clear c2b0
                        try clear p2
                        try clear c3
                        try clear c3b0
                        try clear c4
                        try clear c4b0
                        try clear c5
                        try clear c5b0
                        try clear c6
                        try clear c6b0
                        try clear c7
                        try clear c7b0
                        try clear hx176_0
                        try clear hx177_0
                        try clear p1
                        try clear p176
                        try clear p177
                        try clear p2
                        try clear q1
                        try clear q176
                        try clear q177
                        obtain ⟨x3_3, x26_3, rfl, HA, HK3, HO_3, HB⟩ := hrel
                        cases gk with
                        | zero => exact absurd HA.out (by simp [spec_TagNames.l2])
                        | succ k3 =>
                          have H := HA.out
                          clear HA
                          simp only [spec_TagNames.l2] at H
                          by_cases c8 : x26_3 < ((rd_L1 (rd_L7 l0 x14_1) x20_2).length : Int)
                          · rw [if_pos c8] at H
                            have c8b0 : decide (x26_3 < ((rd_L1 (rd_L7 l0 x14_1) x20_2).length : Int)) = true := decide_eq_true c8
                            clear c8
                            by_cases c9 : 0 ≤ x26_3
                            · rw [if_pos c9] at H
                              have c9b0 : decide (0 ≤ x26_3) = true := decide_eq_true c9
                              clear c9
                              by_cases c10 : x26_3 < ((rd_L1 (rd_L7 l0 x14_1) x20_2).length : Int)
                              · rw [if_pos c10] at H
                                have c10b0 : decide (x26_3 < ((rd_L1 (rd_L7 l0 x14_1) x20_2).length : Int)) = true := decide_eq_true c10
                                clear c10
                                replace H := Option.bind_eq_some_iff.mp H
                                obtain ⟨⟨t179, t180⟩, A110, H⟩ := H
                                replace H : ((spec_tagsListed.f k3 x3_3 t180).bind fun t181 => (if t181 = true then (spec_TagNames.l2 k3 x3_3 l0 (l0.length : Int) x14_1 (rd_L7 l0 x14_1) ((rd_L7 l0 x14_1).length : Int) x20_2 (rd_L1 (rd_L7 l0 x14_1) x20_2) ((rd_L1 (rd_L7 l0 x14_1) x20_2).length : Int) (wrap64 (x26_3 + 1))) else (if x3_3.length < 8796093022208 then (spec_TagNames.l2 k3 (x3_3 ++ [t180]) l0 (l0.length : Int) x14_1 (rd_L7 l0 x14_1) ((rd_L7 l0 x14_1).length : Int) x20_2 (rd_L1 (rd_L7 l0 x14_1) x20_2) ((rd_L1 (rd_L7 l0 x14_1) x20_2).length : Int) (wrap64 (x26_3 + 1))) else (none)))) = some r := H
                                have A11 := Aside0.mk A110
                                clear A110
                                replace H := Option.bind_eq_some_iff.mp H
                                obtain ⟨t181, A120, H⟩ := H
                                replace H : (if t181 = true then (spec_TagNames.l2 k3 x3_3 l0 (l0.length : Int) x14_1 (rd_L7 l0 x14_1) ((rd_L7 l0 x14_1).length : Int) x20_2 (rd_L1 (rd_L7 l0 x14_1) x20_2) ((rd_L1 (rd_L7 l0 x14_1) x20_2).length : Int) (wrap64 (x26_3 + 1))) else (if x3_3.length < 8796093022208 then (spec_TagNames.l2 k3 (x3_3 ++ [t180]) l0 (l0.length : Int) x14_1 (rd_L7 l0 x14_1) ((rd_L7 l0 x14_1).length : Int) x20_2 (rd_L1 (rd_L7 l0 x14_1) x20_2) ((rd_L1 (rd_L7 l0 x14_1) x20_2).length : Int) (wrap64 (x26_3 + 1))) else (none))) = some r := H
                                have A12 := Aside0.mk A120
                                clear A120
                                by_cases c13 : t181 = true
                                · subst c13
                                  have H1 : (spec_TagNames.l2 k3 x3_3 l0 (l0.length : Int) x14_1 (rd_L7 l0 x14_1) ((rd_L7 l0 x14_1).length : Int) x20_2 (rd_L1 (rd_L7 l0 x14_1) x20_2) ((rd_L1 (rd_L7 l0 x14_1) x20_2).length : Int) (wrap64 (x26_3 + 1))) = some r := by rw [if_pos rfl] at H; exact H
                                  clear H
                                  have H := H1
                                  clear H1
                                  have H' := Aside0.mk H
                                  clear H
                                  have p178 : 0 ≤ (x26_3 : Int) := of_decide_eq_true (by first | (with_reducible assumption) | assumption)
                                  have q178 : x26_3 < ((rd_L1 (rd_L7 l0 x14_1) x20_2).length : Int) := of_decide_eq_true (by first | (with_reducible assumption) | assumption)
                                  obtain ⟨ad178, e178, hx178_0⟩ := Kd.at_string HR177_0.out x26_3 p178 q178
                                  cases e178
                                  replace hx178_0 := (HB.out.cell (World.block_lt_of_cell? w _ hx178_0)).trans hx178_0
                                  replace p178 := eq_true p178
                                  replace q178 := eq_true q178
                                  go_wp2_with (first | ((with_reducible refine gate_callee (f := 11) rfl ?_); refine goesL_ (some 32) rfl rfl Tryd.func11 (by kernel_rfl) rfl #[.string (rdOf ByteArray.empty (rd_L1 (rd_L7 l0 x14_1) x20_2) x26_3)] rfl (by (try simp only [List.map_toArray, List.map_cons, List.map_nil]); first | done | rfl | (simp only [List.length_drop, List.length_take]; rfl)) ?_; (with_reducible refine (spec_TermParts.calls (rdOf ByteArray.empty (rd_L1 (rd_L7 l0 x14_1) x20_2) x26_3) t179 t180 _ A11.out).mono ?_); rintro e w' ⟨rfl, ⟨nd, rfl⟩⟩; refine ⟨_, rfl, ?_⟩; obtain ⟨Ao14, co14, eo14⟩ := Kd.R_slice HO_3.out; subst eo14) | ((with_reducible refine gate_callee (f := 39) rfl ?_); refine goesL_ (some 37) rfl rfl Tryd.func39 (by kernel_rfl) rfl #[.slice Ao14 x3_3.length co14, .string t180] rfl (by (try simp only [List.map_toArray, List.map_cons, List.map_nil]); first | done | rfl | (simp only [List.length_drop, List.length_take]; rfl)) ?_; (with_reducible refine (spec_tagsListed.calls k3 _ _ x3_3 t180 true _ ?side1 ?side2 A12.out).mono ?_); (case side1 => repeat (first | exact (Kd.R_reads' HO_3.out).2.2 | (with_reducible refine Kd.C_alloc ?_ _) | (with_reducible refine Kd.C_drewN ?_ _) | (with_reducible refine Kd.C_drew ?_))); (case side2 => exact (Kd.R_reads' HO_3.out).2.1); rintro e w' ⟨rfl, ⟨nd, rfl⟩⟩; refine ⟨_, rfl, ?_⟩))
                                  go_roundg k3
                                  case measure => have := HK1.out; have := HK2.out; have := HK3.out; omega
                                  case rel => exact ⟨(x3_3), (wrap64 (x26_3 + 1)), (by first | rfl | (simp; done) | (simp [*]; done)), H', ⟨by have := HK1.out; have := HK2.out; have := HK3.out; omega⟩, ⟨by (with_reducible repeat (first | apply Kd.R_alloc | apply Kd.R_drewN | apply Kd.R_drew)); exact HO_3.out⟩, ⟨by repeat (first | (with_reducible first | exact HB.out | apply below_alloc | apply pw_below_drewN | apply below_drew1) | exact HB.out)⟩⟩
                                · replace c13 := Bool.eq_false_iff.mpr c13
                                  subst c13
                                  have H1 : (if x3_3.length < 8796093022208 then (spec_TagNames.l2 k3 (x3_3 ++ [t180]) l0 (l0.length : Int) x14_1 (rd_L7 l0 x14_1) ((rd_L7 l0 x14_1).length : Int) x20_2 (rd_L1 (rd_L7 l0 x14_1) x20_2) ((rd_L1 (rd_L7 l0 x14_1) x20_2).length : Int) (wrap64 (x26_3 + 1))) else (none)) = some r := by rw [if_neg (show ¬ (false = true) by decide)] at H; exact H
                                  clear H
                                  have H := H1
                                  clear H1
                                  by_cases c15 : x3_3.length < 8796093022208
                                  · rw [if_pos c15] at H
                                    have LMc15 := Aside0.mk c15
                                    clear c15
                                    obtain ⟨y182, hy182⟩ : ∃ y_ : List ByteArray, y_ = (x3_3 ++ [t180]) := ⟨_, rfl⟩
                                    replace H : (spec_TagNames.l2 k3 y182 l0 (l0.length : Int) x14_1 (rd_L7 l0 x14_1) ((rd_L7 l0 x14_1).length : Int) x20_2 (rd_L1 (rd_L7 l0 x14_1) x20_2) ((rd_L1 (rd_L7 l0 x14_1) x20_2).length : Int) (wrap64 (x26_3 + 1))) = some r := by first | (rw [hy182]; with_reducible exact H) | (have H2_ := (Option.bind_some _ _).symm.trans H; rw [hy182]; with_reducible exact H2_) | (have H2_ := (Option.bind_some _ _).symm.trans H; with_reducible exact H2_) | with_reducible exact H | (rw [hy182]; exact H) | exact H
                                    have Ny182 := Aside0.mk hy182
                                    clear hy182
                                    have H' := Aside0.mk H
                                    clear H
                                    have p178 : 0 ≤ (x26_3 : Int) := of_decide_eq_true (by first | (with_reducible assumption) | assumption)
                                    have q178 : x26_3 < ((rd_L1 (rd_L7 l0 x14_1) x20_2).length : Int) := of_decide_eq_true (by first | (with_reducible assumption) | assumption)
                                    obtain ⟨ad178, e178, hx178_0⟩ := Kd.at_string HR177_0.out x26_3 p178 q178
                                    cases e178
                                    replace hx178_0 := (HB.out.cell (World.block_lt_of_cell? w _ hx178_0)).trans hx178_0
                                    replace p178 := eq_true p178
                                    replace q178 := eq_true q178
                                    go_wp2_with (first | ((with_reducible refine gate_callee (f := 11) rfl ?_); refine goesL_ (some 32) rfl rfl Tryd.func11 (by kernel_rfl) rfl #[.string (rdOf ByteArray.empty (rd_L1 (rd_L7 l0 x14_1) x20_2) x26_3)] rfl (by (try simp only [List.map_toArray, List.map_cons, List.map_nil]); first | done | rfl | (simp only [List.length_drop, List.length_take]; rfl)) ?_; (with_reducible refine (spec_TermParts.calls (rdOf ByteArray.empty (rd_L1 (rd_L7 l0 x14_1) x20_2) x26_3) t179 t180 _ A11.out).mono ?_); rintro e w' ⟨rfl, ⟨nd, rfl⟩⟩; refine ⟨_, rfl, ?_⟩; obtain ⟨Ao16, co16, eo16⟩ := Kd.R_slice HO_3.out; subst eo16) | ((with_reducible refine gate_callee (f := 39) rfl ?_); refine goesL_ (some 37) rfl rfl Tryd.func39 (by kernel_rfl) rfl #[.slice Ao16 x3_3.length co16, .string t180] rfl (by (try simp only [List.map_toArray, List.map_cons, List.map_nil]); first | done | rfl | (simp only [List.length_drop, List.length_take]; rfl)) ?_; (with_reducible refine (spec_tagsListed.calls k3 _ _ x3_3 t180 false _ ?side1 ?side2 A12.out).mono ?_); (case side1 => repeat (first | exact (Kd.R_reads' HO_3.out).2.2 | (with_reducible refine Kd.C_alloc ?_ _) | (with_reducible refine Kd.C_drewN ?_ _) | (with_reducible refine Kd.C_drew ?_))); (case side2 => exact (Kd.R_reads' HO_3.out).2.1); rintro e w' ⟨rfl, ⟨nd, rfl⟩⟩; refine ⟨_, rfl, ?_⟩) | ((with_reducible refine gate_builtin (b := .append) (xs := #[.tmp 39, .tmp 41]) rfl ?_); at_builtin; refine Kd.R_append Kd.string (w0 := w) w.heap.size rfl (.tmp 39) (.tmp 41) 22 9 (.string ⟨#[]⟩) 16 rfl Tryd.underlying22 info9 rfl (by decide) (by omega) (.slice Ao16 x3_3.length co16) x3_3 t180 [.string t180] (fun _ => True) (fun _ => False) rfl rfl ?aP (fun _ hk => hk.elim) ?aF ?aO ?aB ?aS ?aL ?_; (case aP => exact rfl); (case aB => exact (by repeat (first | (with_reducible first | exact HB.out | apply below_alloc | apply pw_below_drewN | apply below_drew1) | exact HB.out))); (case aF => exact (fun _ _ => trivial)); (case aO => exact (by (with_reducible repeat (first | apply Kd.R_alloc | apply Kd.R_drewN | apply Kd.R_drew)); exact HO_3.out)); (case aS => exact (below_size (by repeat (first | (with_reducible first | exact HB.out | apply below_alloc | apply pw_below_drewN | apply below_drew1) | exact HB.out)))); (case aL => have := LMc15.out; omega); intro v183 w17 ho hb hg hat; rw [← Ny182.out] at ho; have n0_ := Aside0.mk (hb); have n1_ := Aside0.mk (ho); clear HB; clear HO_3; have HB := n0_; have HO184 := n1_; clear n0_ n1_; clear ho hb hg hat))
                                    go_roundg k3
                                    case measure => have := HK1.out; have := HK2.out; have := HK3.out; omega
                                    case rel => exact ⟨(y182), (wrap64 (x26_3 + 1)), (by first | rfl | (simp; done) | (simp [*]; done)), H', ⟨by have := HK1.out; have := HK2.out; have := HK3.out; omega⟩, ⟨by (with_reducible repeat (first | apply Kd.R_alloc | apply Kd.R_drewN | apply Kd.R_drew)); exact HO184.out⟩, ⟨by repeat (first | (with_reducible first | exact HB.out | apply below_alloc | apply pw_below_drewN | apply below_drew1) | exact HB.out)⟩⟩
                                  · rw [if_neg c15] at H
                                    exact absurd H (by simp)
                              · rw [if_neg c10] at H
                                exact absurd H (by simp)
                            · rw [if_neg c9] at H
                              exact absurd H (by simp)
                          · rw [if_neg c8] at H
                            have c8b0 : decide (x26_3 < ((rd_L1 (rd_L7 l0 x14_1) x20_2).length : Int)) = false := decide_eq_false c8
                            clear c8
                            have H' := Aside0.mk H
                            clear H
                            go_wp2
                            go_roundg k3
                            case measure => have := HK1.out; have := HK2.out; have := HK3.out; omega
                            case rel => exact ⟨(x3_3), (wrap64 (x20_2 + 1)), (by first | rfl | (simp; done) | (simp [*]; done)), H', ⟨by have := HK1.out; have := HK2.out; have := HK3.out; omega⟩, ⟨by (with_reducible repeat (first | apply Kd.R_alloc | apply Kd.R_drewN | apply Kd.R_drew)); exact HO_3.out⟩, ⟨by repeat (first | (with_reducible first | exact HB.out | apply below_alloc | apply pw_below_drewN | apply below_drew1) | exact HB.out)⟩⟩
                    · rw [if_neg c7] at H
                      exact absurd H (by simp)
                  · rw [if_neg c6] at H
                    exact absurd H (by simp)
                · rw [if_neg c5] at H
                  have c5b0 : decide (x20_2 < ((rd_L7 l0 x14_1).length : Int)) = false := decide_eq_false c5
                  clear c5
                  have H' := Aside0.mk H
                  clear H
                  go_wp2
                  go_roundg k2
                  case measure => have := HK1.out; have := HK2.out; omega
                  case rel => exact ⟨(x3_2), (wrap64 (x14_1 + 1)), (by first | rfl | (simp; done) | (simp [*]; done)), H', ⟨by have := HK1.out; have := HK2.out; omega⟩, ⟨by (with_reducible repeat (first | apply Kd.R_alloc | apply Kd.R_drewN | apply Kd.R_drew)); exact HO_3.out⟩, ⟨by repeat (first | (with_reducible first | exact HB.out | apply below_alloc | apply pw_below_drewN | apply below_drew1) | exact HB.out)⟩⟩
          · rw [if_neg c4] at H
            exact absurd H (by simp)
        · rw [if_neg c3] at H
          exact absurd H (by simp)
      · rw [if_neg c2] at H
        have c2b0 : decide (x14_1 < (l0.length : Int)) = false := decide_eq_false c2
        clear c2
        obtain rfl := Option.some.inj H
        go_wp2
        go_ret
        exact ⟨_, by first | rfl | (simp [errW_none, errW_some] <;> rfl) | (simp [*, errW_none, errW_some] <;> rfl), by (with_reducible repeat (first | apply Kd.R_alloc | apply Kd.R_drewN | apply Kd.R_drew)); exact HO_3.out, by repeat (first | (with_reducible first | exact HB.out | apply below_alloc | apply pw_below_drewN | apply below_drew1) | exact HB.out)⟩

end Go.Proofs.YtknldfighehplaaDoor.PFnMeaning
