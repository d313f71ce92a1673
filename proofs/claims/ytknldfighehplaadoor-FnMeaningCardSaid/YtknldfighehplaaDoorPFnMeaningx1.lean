-- PRINTED BY print.sh 35421559b90ae4d0a3588c463048766b98c2df88dd9212a6774a882060cdf62d: not written by this session
import Derived.Test.YtknldfighehplaaDoorPFnMeaningx0
namespace Go.Proofs.YtknldfighehplaaDoor.PFnMeaning
open Go.RowKit Go.Proofs.YtknldfighehplaaDoorW.PrintWords Go.Proofs.YtknldfighehplaaDoorW.PrintLast Go.Proofs.YtknldfighehplaaDoorW.PrintMore
attribute [local go_sem] max2_int min2_int max_two min_two max_three min_three max_four min_four   -- for this text's walks alone
set_option linter.unusedVariables false
set_option linter.unusedSimpArgs false

/-! ### spec_Ascii: function 9 -/
def spec_Ascii.l0 : Nat → ByteArray → Int → Option (Bool)
  | 0, _, _ => none
  | k + 1, x0, x3 => if x3 < (x0.size : Int) then (if 0 ≤ x3 then (if (bt x0 x3) > 127 then (some false) else (spec_Ascii.l0 k x0 (wrap64 (x3 + 1)))) else (none)) else (some true)
def spec_Ascii.f (k : Nat) (a0 : ByteArray) : Option (Bool) := spec_Ascii.l0 k a0 0
theorem spec_Ascii.mono_l : ∀ k, (∀ y0 y1, LeO (spec_Ascii.l0 k y0 y1) (spec_Ascii.l0 (k + 1) y0 y1))
  | 0 => fun _ _ r h => by simp [spec_Ascii.l0] at h
  | k + 1 => by
    have ih0 := spec_Ascii.mono_l k
    · intro y0 y1
      unfold spec_Ascii.l0
      repeat' first
      | (with_reducible exact ih0 _ _)
      | (with_reducible exact LeO.refl _)
      | (with_reducible exact LeO.none _)
      | (with_reducible refine LeO.ite ?_ ?_)
      | (with_reducible refine LeO.bind ?_ (fun _ => ?_))
      | exact ih0 _ _
      | exact LeO.none _
      | refine LeO.ite ?_ ?_
      | refine LeO.bind ?_ (fun _ => ?_)
theorem spec_Ascii.mono : ∀ a0 k, LeO (spec_Ascii.f k a0) (spec_Ascii.f (k + 1) a0) := by
  intro a0 k
  have ih0 := spec_Ascii.mono_l k
  unfold spec_Ascii.f
  repeat' first
      | (with_reducible exact ih0 _ _)
      | (with_reducible exact LeO.refl _)
      | (with_reducible exact LeO.none _)
      | (with_reducible refine LeO.ite ?_ ?_)
      | (with_reducible refine LeO.bind ?_ (fun _ => ?_))
      | exact ih0 _ _
      | exact LeO.none _
      | refine LeO.ite ?_ ?_
      | refine LeO.bind ?_ (fun _ => ?_)
set_option maxHeartbeats 8000000 in
set_option maxRecDepth 100000 in
theorem spec_Ascii.calls (k : Nat) (a0 : ByteArray) (r : Bool) (w : World) (h : spec_Ascii.f k a0 = some r) :
    Calls Tryd.prog 9 #[.string a0] w fun e w' => e = .returned (.bool r) ∧ Drawn0 w w' := by
  have H : (spec_Ascii.l0 k a0 0) = some r := h
  clear h
  have H' := Aside0.mk H
  clear H
  go_enter Tryd.func9, Tryd.ntmps9
  go_wp2
  go_loopg [3] k (fun kq v3 w' => ∃ (x3_1 : Int), v3 = .int .i64 x3_1 ∧ Aside0 (spec_Ascii.l0 kq a0 x3_1 = some r) ∧ Aside0 (kq ≤ k) ∧ Drawn0 w w')
  case atStart => exact ⟨(0), (by first | rfl | (simp; done) | (simp [*]; done)), H', ⟨Nat.le_refl _⟩, by repeat (first | exact Drawn0.refl _ | apply Drawn0.step)⟩
  case round =>
    clear H'
    obtain ⟨x3_1, rfl, HA, HK1, ⟨m1, rfl⟩⟩ := hrel
    cases gk with
    | zero => exact absurd HA.out (by simp [spec_Ascii.l0])
    | succ k1 =>
      have H := HA.out
      clear HA
      simp only [spec_Ascii.l0] at H
      by_cases c2 : x3_1 < (a0.size : Int)
      · rw [if_pos c2] at H
        have c2b0 : decide (x3_1 < (a0.size : Int)) = true := decide_eq_true c2
        clear c2
        by_cases c3 : 0 ≤ x3_1
        · rw [if_pos c3] at H
          have c3b0 : decide (0 ≤ x3_1) = true := decide_eq_true c3
          clear c3
          by_cases c5 : (bt a0 x3_1) > 127
          · rw [if_pos c5] at H
            have c5b0 : decide (127 < (bt a0 x3_1)) = true := decide_eq_true c5
            clear c5
            obtain rfl := Option.some.inj H
            have p4 : 0 ≤ (x3_1 : Int) := of_decide_eq_true (by first | (with_reducible assumption) | assumption)
            have q4 : x3_1 < (a0.size : Int) := of_decide_eq_true (by first | (with_reducible assumption) | assumption)
            have hx4 := bt_at a0 x3_1
            replace p4 := eq_true p4
            replace q4 := eq_true q4
            go_wp2
            go_ret
            exact ⟨by first | rfl | (simp; done) | (simp [*]; done), by repeat (first | exact Drawn0.refl _ | apply Drawn0.step)⟩
          · rw [if_neg c5] at H
            have c5b0 : decide (127 < (bt a0 x3_1)) = false := decide_eq_false c5
            clear c5
            have H' := Aside0.mk H
            clear H
            have p4 : 0 ≤ (x3_1 : Int) := of_decide_eq_true (by first | (with_reducible assumption) | assumption)
            have q4 : x3_1 < (a0.size : Int) := of_decide_eq_true (by first | (with_reducible assumption) | assumption)
            have hx4 := bt_at a0 x3_1
            replace p4 := eq_true p4
            replace q4 := eq_true q4
            go_wp2
            go_roundg k1
            case measure => have := HK1.out; omega
            case rel => exact ⟨(wrap64 (x3_1 + 1)), (by first | rfl | (simp; done) | (simp [*]; done)), H', ⟨by have := HK1.out; omega⟩, by repeat (first | exact Drawn0.refl _ | apply Drawn0.step)⟩
        · rw [if_neg c3] at H
          exact absurd H (by simp)
      · rw [if_neg c2] at H
        have c2b0 : decide (x3_1 < (a0.size : Int)) = false := decide_eq_false c2
        clear c2
        obtain rfl := Option.some.inj H
        go_wp2
        go_ret
        exact ⟨by first | rfl | (simp; done) | (simp [*]; done), by repeat (first | exact Drawn0.refl _ | apply Drawn0.step)⟩

-- NOT PRINTED: function 38 (buildtags_SetTags)

/-! ### impl_option: function 55 -/
def impl_option.l0 : Nat → List ByteArray → List ByteArray → Int → Int → Option (List ByteArray)
  | 0, _, _, _, _ => none
  | k + 1, x3, x6, x7, x8 => if x8 < x7 then (if 0 ≤ x8 then (if x8 < (x6.length : Int) then (if x3.length < 8796093022208 then (impl_option.l0 k (x3 ++ [rdOf ByteArray.empty x6 x8]) x6 x7 (wrap64 (x8 + 1))) else (none)) else (none)) else (none)) else (some x3)
def impl_option.f (k : Nat) (l0 : List ByteArray) : Option (List ByteArray) := impl_option.l0 k ([] : List ByteArray) l0 (l0.length : Int) 0
theorem impl_option.mono_l : ∀ k, (∀ y0 y1 y2 y3, LeO (impl_option.l0 k y0 y1 y2 y3) (impl_option.l0 (k + 1) y0 y1 y2 y3))
  | 0 => fun _ _ _ _ r h => by simp [impl_option.l0] at h
  | k + 1 => by
    have ih0 := impl_option.mono_l k
    · intro y0 y1 y2 y3
      unfold impl_option.l0
      repeat' first
      | (with_reducible exact ih0 _ _ _ _)
      | (with_reducible exact LeO.refl _)
      | (with_reducible exact LeO.none _)
      | (with_reducible refine LeO.ite ?_ ?_)
      | (with_reducible refine LeO.bind ?_ (fun _ => ?_))
      | exact ih0 _ _ _ _
      | exact LeO.none _
      | refine LeO.ite ?_ ?_
      | refine LeO.bind ?_ (fun _ => ?_)
theorem impl_option.mono : ∀ a0 k, LeO (impl_option.f k a0) (impl_option.f (k + 1) a0) := by
  intro a0 k
  have ih0 := impl_option.mono_l k
  unfold impl_option.f
  repeat' first
      | (with_reducible exact ih0 _ _ _ _)
      | (with_reducible exact LeO.refl _)
      | (with_reducible exact LeO.none _)
      | (with_reducible refine LeO.ite ?_ ?_)
      | (with_reducible refine LeO.bind ?_ (fun _ => ?_))
      | exact ih0 _ _ _ _
      | exact LeO.none _
      | refine LeO.ite ?_ ?_
      | refine LeO.bind ?_ (fun _ => ?_)
set_option maxHeartbeats 8000000 in
set_option maxRecDepth 100000 in
theorem impl_option.calls (k : Nat) (A0 : Option Addr) (c0 : Nat) (l0 : List ByteArray) (r : List ByteArray) (w : World) (hr0 : Kd.C Kd.string w A0 l0.length l0) (hc0 : l0.length ≤ c0) (h : impl_option.f k l0 = some r) :
    Calls Tryd.prog 55 #[.slice A0 l0.length c0] w fun e w' => ∃ v0_ : Value, e = .returned (v0_) ∧ Kd.R Kd.string 44 w' w.heap.size (fun _ => True) v0_ r ∧ Below w.heap.size w w' := by
  have HR0 := Aside0.mk hr0
  have HC0 := Aside0.mk hc0
  clear hr0 hc0
  have HB := Aside0.mk (Below.refl w.heap.size w)
  have H : (impl_option.l0 k ([] : List ByteArray) l0 (l0.length : Int) 0) = some r := h
  clear h
  have H' := Aside0.mk H
  clear H
  go_enter Tryd.func55, Tryd.ntmps55
  go_wp2
  go_loopg [3, 8] k (fun kq v3 v8 w' => ∃ (x3_1 : List ByteArray) (x8_1 : Int), v8 = .int .i64 x8_1 ∧ Aside0 (impl_option.l0 kq x3_1 l0 (l0.length : Int) x8_1 = some r) ∧ Aside0 (kq ≤ k) ∧ Aside0 (Kd.R Kd.string 44 w' w.heap.size (fun _ => True) v3 x3_1) ∧ Aside0 (Below w.heap.size w w'))
  case atStart => exact ⟨(([] : List ByteArray)), (0), (by first | rfl | (simp; done) | (simp [*]; done)), H', ⟨Nat.le_refl _⟩, ⟨by first | exact Kd.R_nil _ _ _ _ _ | exact Kd.N_nil _ _ _ _ _ | exact Kd.V_nil _ _ _ _ _ | exact Kd.Q_nil _ _ _ _ _ | exact Kd.S_nil _ _ _ _ _⟩, ⟨by repeat (first | (with_reducible first | exact HB.out | apply below_alloc | apply pw_below_drewN | apply below_drew1) | exact HB.out)⟩⟩
  case round =>
    clear H'
    obtain ⟨x3_1, x8_1, rfl, HA, HK1, HO_3, HB⟩ := hrel
    cases gk with
    | zero => exact absurd HA.out (by simp [impl_option.l0])
    | succ k1 =>
      have H := HA.out
      clear HA
      simp only [impl_option.l0] at H
      by_cases c2 : x8_1 < (l0.length : Int)
      · rw [if_pos c2] at H
        have c2b0 : decide (x8_1 < (l0.length : Int)) = true := decide_eq_true c2
        clear c2
        by_cases c3 : 0 ≤ x8_1
        · rw [if_pos c3] at H
          have c3b0 : decide (0 ≤ x8_1) = true := decide_eq_true c3
          clear c3
          by_cases c4 : x8_1 < (l0.length : Int)
          · rw [if_pos c4] at H
            have c4b0 : decide (x8_1 < (l0.length : Int)) = true := decide_eq_true c4
            clear c4
            by_cases c5 : x3_1.length < 8796093022208
            · rw [if_pos c5] at H
              have LMc5 := Aside0.mk c5
              clear c5
              obtain ⟨y102, hy102⟩ : ∃ y_ : List ByteArray, y_ = (x3_1 ++ [rdOf ByteArray.empty l0 x8_1]) := ⟨_, rfl⟩
              replace H : (impl_option.l0 k1 y102 l0 (l0.length : Int) (wrap64 (x8_1 + 1))) = some r := by first | (rw [hy102]; with_reducible exact H) | (have H2_ := (Option.bind_some _ _).symm.trans H; rw [hy102]; with_reducible exact H2_) | (have H2_ := (Option.bind_some _ _).symm.trans H; with_reducible exact H2_) | with_reducible exact H | (rw [hy102]; exact H) | exact H
              have Ny102 := Aside0.mk hy102
              clear hy102
              have H' := Aside0.mk H
              clear H
              have p101 : 0 ≤ (x8_1 : Int) := of_decide_eq_true (by first | (with_reducible assumption) | assumption)
              have q101 : x8_1 < (l0.length : Int) := of_decide_eq_true (by first | (with_reducible assumption) | assumption)
              obtain ⟨ad101, e101, hx101_0⟩ := Kd.at_string HR0.out x8_1 p101 q101
              cases e101
              replace hx101_0 := (HB.out.cell (World.block_lt_of_cell? w _ hx101_0)).trans hx101_0
              replace p101 := eq_true p101
              replace q101 := eq_true q101
              go_wp2_with (first | ((with_reducible refine gate_builtin (b := .append) (xs := #[.tmp 12, .tmp 14]) rfl ?_); at_builtin; refine Kd.R_append Kd.string (w0 := w) w.heap.size rfl (.tmp 12) (.tmp 14) 55 44 (.string ⟨#[]⟩) 16 rfl Tryd.underlying55 info44 rfl (by decide) (by omega) u3 x3_1 (rdOf ByteArray.empty l0 x8_1) [.string (rdOf ByteArray.empty l0 x8_1)] (fun _ => True) (fun _ => False) rfl rfl ?aP (fun _ hk => hk.elim) ?aF ?aO ?aB ?aS ?aL ?_; (case aP => exact rfl); (case aB => exact (by repeat (first | (with_reducible first | exact HB.out | apply below_alloc | apply pw_below_drewN | apply below_drew1) | exact HB.out))); (case aF => exact (fun _ _ => trivial)); (case aO => exact (by (with_reducible repeat (first | apply Kd.R_alloc | apply Kd.R_drewN | apply Kd.R_drew)); exact HO_3.out)); (case aS => exact (below_size (by repeat (first | (with_reducible first | exact HB.out | apply below_alloc | apply pw_below_drewN | apply below_drew1) | exact HB.out)))); (case aL => have := LMc5.out; omega); intro v103 w6 ho hb hg hat; rw [← Ny102.out] at ho; have n0_ := Aside0.mk (hb); have n1_ := Aside0.mk (ho); clear HB; clear HO_3; have HB := n0_; have HO104 := n1_; clear n0_ n1_; clear ho hb hg hat))
              go_roundg k1
              case measure => have := HK1.out; omega
              case rel => exact ⟨(y102), (wrap64 (x8_1 + 1)), (by first | rfl | (simp; done) | (simp [*]; done)), H', ⟨by have := HK1.out; omega⟩, ⟨by (with_reducible repeat (first | apply Kd.R_alloc | apply Kd.R_drewN | apply Kd.R_drew)); exact HO104.out⟩, ⟨by repeat (first | (with_reducible first | exact HB.out | apply below_alloc | apply pw_below_drewN | apply below_drew1) | exact HB.out)⟩⟩
            · rw [if_neg c5] at H
              exact absurd H (by simp)
          · rw [if_neg c4] at H
            exact absurd H (by simp)
        · rw [if_neg c3] at H
          exact absurd H (by simp)
      · rw [if_neg c2] at H
        have c2b0 : decide (x8_1 < (l0.length : Int)) = false := decide_eq_false c2
        clear c2
        obtain rfl := Option.some.inj H
        go_wp2
        go_ret
        exact ⟨_, by first | rfl | (simp [errW_none, errW_some] <;> rfl) | (simp [*, errW_none, errW_some] <;> rfl), by (with_reducible repeat (first | apply Kd.R_alloc | apply Kd.R_drewN | apply Kd.R_drew)); exact HO_3.out, by repeat (first | (with_reducible first | exact HB.out | apply below_alloc | apply pw_below_drewN | apply below_drew1) | exact HB.out)⟩

/-! ### impl_constraint: function 45 -/
def impl_constraint.l0 : Nat → List (List ByteArray) → List (List ByteArray) → Int → Int → Option ((List (List ByteArray)))
  | 0, _, _, _, _ => none
  | k + 1, x3, x6, x7, x8 => if x8 < x7 then (if 0 ≤ x8 then (if x8 < (x6.length : Int) then ((impl_option.f k (rd_L1 x6 x8)).bind fun t106 => (if x3.length < 5864062014805 then (impl_constraint.l0 k (x3 ++ [t106]) x6 x7 (wrap64 (x8 + 1))) else (none))) else (none)) else (none)) else (some x3)
def impl_constraint.f (k : Nat) (l0 : List (List ByteArray)) : Option ((List (List ByteArray))) := impl_constraint.l0 k ([] : List (List ByteArray)) l0 (l0.length : Int) 0
theorem impl_constraint.mono_l : ∀ k, (∀ y0 y1 y2 y3, LeO (impl_constraint.l0 k y0 y1 y2 y3) (impl_constraint.l0 (k + 1) y0 y1 y2 y3))
  | 0 => fun _ _ _ _ r h => by simp [impl_constraint.l0] at h
  | k + 1 => by
    have ih0 := impl_constraint.mono_l k
    · intro y0 y1 y2 y3
      unfold impl_constraint.l0
      repeat' first
      | (with_reducible exact ih0 _ _ _ _)
      | (with_reducible exact impl_option.mono _ _)
      | (with_reducible exact LeO.refl _)
      | (with_reducible exact LeO.none _)
      | (with_reducible refine LeO.ite ?_ ?_)
      | (with_reducible refine LeO.bind ?_ (fun _ => ?_))
      | exact ih0 _ _ _ _
      | exact impl_option.mono _ _
      | exact LeO.none _
      | refine LeO.ite ?_ ?_
      | refine LeO.bind ?_ (fun _ => ?_)
theorem impl_constraint.mono : ∀ a0 k, LeO (impl_constraint.f k a0) (impl_constraint.f (k + 1) a0) := by
  intro a0 k
  have ih0 := impl_constraint.mono_l k
  unfold impl_constraint.f
  repeat' first
      | (with_reducible exact ih0 _ _ _ _)
      | (with_reducible exact impl_option.mono _ _)
      | (with_reducible exact LeO.refl _)
      | (with_reducible exact LeO.none _)
      | (with_reducible refine LeO.ite ?_ ?_)
      | (with_reducible refine LeO.bind ?_ (fun _ => ?_))
      | exact ih0 _ _ _ _
      | exact impl_option.mono _ _
      | exact LeO.none _
      | refine LeO.ite ?_ ?_
      | refine LeO.bind ?_ (fun _ => ?_)
set_option maxHeartbeats 8000000 in
set_option maxRecDepth 100000 in
theorem impl_constraint.calls (k : Nat) (A0 : Option Addr) (c0 : Nat) (l0 : List (List ByteArray)) (r : List (List ByteArray)) (w : World) (hr0 : Kd.C (Kd.slice 9 Kd.string) w A0 l0.length l0) (hc0 : l0.length ≤ c0) (h : impl_constraint.f k l0 = some r) :
    Calls Tryd.prog 45 #[.slice A0 l0.length c0] w fun e w' => ∃ v0_ : Value, e = .returned (v0_) ∧ Kd.S (Kd.slice 44 Kd.string) 55 w' w.heap.size (fun _ => True) v0_ r ∧ Below w.heap.size w w' := by
  have HR0 := Aside0.mk hr0
  have HC0 := Aside0.mk hc0
  clear hr0 hc0
  have HB := Aside0.mk (Below.refl w.heap.size w)
  have H : (impl_constraint.l0 k ([] : List (List ByteArray)) l0 (l0.length : Int) 0) = some r := h
  clear h
  have H' := Aside0.mk H
  clear H
  go_enter Tryd.func45, Tryd.ntmps45
  go_wp2
  go_loopg [3, 8] k (fun kq v3 v8 w' => ∃ (x3_1 : List (List ByteArray)) (x8_1 : Int), v8 = .int .i64 x8_1 ∧ Aside0 (impl_constraint.l0 kq x3_1 l0 (l0.length : Int) x8_1 = some r) ∧ Aside0 (kq ≤ k) ∧ Aside0 (Kd.S (Kd.slice 44 Kd.string) 55 w' w.heap.size (fun _ => True) v3 x3_1) ∧ Aside0 (Below w.heap.size w w'))
  case atStart => exact ⟨(([] : List (List ByteArray))), (0), (by first | rfl | (simp; done) | (simp [*]; done)), H', ⟨Nat.le_refl _⟩, ⟨by first | exact Kd.S_nil _ _ _ _ _ | exact Kd.N_nil _ _ _ _ _ | exact Kd.V_nil _ _ _ _ _ | exact Kd.Q_nil _ _ _ _ _ | exact Kd.R_nil _ _ _ _ _⟩, ⟨by repeat (first | (with_reducible first | exact HB.out | apply below_alloc | apply pw_below_drewN | apply below_drew1) | exact HB.out)⟩⟩
  case round =>
    clear H'
    obtain ⟨x3_1, x8_1, rfl, HA, HK1, HO_3, HB⟩ := hrel
    cases gk with
    | zero => exact absurd HA.out (by simp [impl_constraint.l0])
    | succ k1 =>
      have H := HA.out
      clear HA
      simp only [impl_constraint.l0] at H
      by_cases c2 : x8_1 < (l0.length : Int)
      · rw [if_pos c2] at H
        have c2b0 : decide (x8_1 < (l0.length : Int)) = true := decide_eq_true c2
        clear c2
        by_cases c3 : 0 ≤ x8_1
        · rw [if_pos c3] at H
          have c3b0 : decide (0 ≤ x8_1) = true := decide_eq_true c3
          clear c3
          by_cases c4 : x8_1 < (l0.length : Int)
          · rw [if_pos c4] at H
            have c4b0 : decide (x8_1 < (l0.length : Int)) = true := decide_eq_true c4
            clear c4
            replace H := Option.bind_eq_some_iff.mp H
            obtain ⟨t106, A50, H⟩ := H
            replace H : (if x3_1.length < 5864062014805 then (impl_constraint.l0 k1 (x3_1 ++ [t106]) l0 (l0.length : Int) (wrap64 (x8_1 + 1))) else (none)) = some r := H
            have A5 := Aside0.mk A50
            clear A50
            by_cases c6 : x3_1.length < 5864062014805
            · rw [if_pos c6] at H
              have LMc6 := Aside0.mk c6
              clear c6
              obtain ⟨y109, hy109⟩ : ∃ y_ : List (List ByteArray), y_ = (x3_1 ++ [t106]) := ⟨_, rfl⟩
              replace H : (impl_constraint.l0 k1 y109 l0 (l0.length : Int) (wrap64 (x8_1 + 1))) = some r := by first | (rw [hy109]; with_reducible exact H) | (have H2_ := (Option.bind_some _ _).symm.trans H; rw [hy109]; with_reducible exact H2_) | (have H2_ := (Option.bind_some _ _).symm.trans H; with_reducible exact H2_) | with_reducible exact H | (rw [hy109]; exact H) | exact H
              have Ny109 := Aside0.mk hy109
              clear hy109
              have H' := Aside0.mk H
              clear H
              have p105 : 0 ≤ (x8_1 : Int) := of_decide_eq_true (by first | (with_reducible assumption) | assumption)
              have q105 : x8_1 < (l0.length : Int) := of_decide_eq_true (by first | (with_reducible assumption) | assumption)
              obtain ⟨ad105, A105_0, c105_0, e105, hx105_0, hl105_0, hi105_0⟩ := at_L1 HR0.out x8_1 p105 q105
              cases e105
              replace hx105_0 := (HB.out.cell (World.block_lt_of_cell? w _ hx105_0)).trans hx105_0
              have HR105_0 := Aside0.mk hi105_0
              have HC105_0 := Aside0.mk hl105_0
              clear hi105_0 hl105_0
              replace p105 := eq_true p105
              replace q105 := eq_true q105
              go_wp2_with (first | ((with_reducible refine gate_callee (f := 55) rfl ?_); refine goesL_ (some 14) rfl rfl Tryd.func55 (by kernel_rfl) rfl #[.slice A105_0 (rd_L1 l0 x8_1).length c105_0] rfl (by (try simp only [List.map_toArray, List.map_cons, List.map_nil]); first | done | rfl | (simp only [List.length_drop, List.length_take]; rfl)) ?_; (with_reducible refine (impl_option.calls k1 _ _ (rd_L1 l0 x8_1) t106 _ ?side1 ?side2 A5.out).mono ?_); (case side1 => repeat (first | exact (Kd.C_below HR105_0.out HB.out) | (with_reducible refine Kd.C_alloc ?_ _) | (with_reducible refine Kd.C_drewN ?_ _) | (with_reducible refine Kd.C_drew ?_))); (case side2 => exact HC105_0.out); rintro e w7 ⟨v107, rfl, ho0, hb⟩; refine ⟨_, rfl, ?_⟩; have n0_ := Aside0.mk (Kd.S_elder' (by (with_reducible repeat (first | apply Kd.S_alloc | apply Kd.S_drewN | apply Kd.S_drew)); exact HO_3.out) (Kd.R_base ho0) hb); have n1_ := Aside0.mk (Kd.R_lower ho0 (below_size (by repeat (first | (with_reducible first | exact HB.out | apply below_alloc | apply pw_below_drewN | apply below_drew1) | exact HB.out)))); have n2_ := Aside0.mk (below_step (by repeat (first | (with_reducible first | exact HB.out | apply below_alloc | apply pw_below_drewN | apply below_drew1) | exact HB.out)) hb); clear HO_3; clear HB; have HO_3 := n0_; have HO108 := n1_; have HB := n2_; clear n0_ n1_ n2_; (try clear hb); (try clear hb2); (try clear hk); (try clear hi); (try clear ho0); obtain ⟨Ao9, co9, eo9⟩ := Kd.R_slice HO108.out; subst eo9) | ((with_reducible refine gate_builtin (b := .append) (xs := #[.tmp 12, .tmp 15]) rfl ?_); at_builtin; refine Kd.S_append (Kd.slice 44 Kd.string) (w0 := w) w.heap.size rfl (.tmp 12) (.tmp 15) 62 55 (.slice none 0 0) 24 rfl Tryd.underlying62 info55 rfl (by decide) (by omega) u3 x3_1 t106 [.slice Ao9 t106.length co9] (fun _ => True) (fun k_ => some k_ = (.slice Ao9 t106.length co9 : Value).ownBlock) rfl rfl ?aP (fun k_ hk_ => ((Kd.R_mono (ok' := fun k_ => ((fun _ => True)) k_ ∧ some k_ ≠ (u3 : Value).ownBlock) (Kd.R_apart' (HO108.out) (Kd.S_typed HO_3.out) (by decide)) (fun k_ hk => ⟨trivial, hk.2⟩))).1 k_ hk_.symm) ?aF ?aO ?aB ?aS ?aL ?_; (case aP => exact Kd.M_row (Kd.R_mono (Kd.R_tight rfl (Kd.R_mono (ok' := fun k_ => ((fun _ => True)) k_ ∧ some k_ ≠ (u3 : Value).ownBlock) (Kd.R_apart' (HO108.out) (Kd.S_typed HO_3.out) (by decide)) (fun k_ hk => ⟨trivial, hk.2⟩))) (fun _ h_ => h_))); (case aB => exact (by repeat (first | (with_reducible first | exact HB.out | apply below_alloc | apply pw_below_drewN | apply below_drew1) | exact HB.out))); (case aF => exact (fun _ _ => trivial)); (case aO => exact (by (with_reducible repeat (first | apply Kd.S_alloc | apply Kd.S_drewN | apply Kd.S_drew)); exact Kd.S_mono HO_3.out (fun k_ hk => ⟨trivial, fun e_ => hk.2 e_⟩))); (case aS => exact (below_size (by repeat (first | (with_reducible first | exact HB.out | apply below_alloc | apply pw_below_drewN | apply below_drew1) | exact HB.out)))); (case aL => have := LMc6.out; omega); intro v110 w8 ho hb hg hat; rw [← Ny109.out] at ho; have n0_ := Aside0.mk (hb); have n1_ := Aside0.mk (ho); clear HB; clear HO_3; clear HO108; have HB := n0_; have HO111 := n1_; clear n0_ n1_; clear ho hb hg hat))
              go_roundg k1
              case measure => have := HK1.out; omega
              case rel => exact ⟨(y109), (wrap64 (x8_1 + 1)), (by first | rfl | (simp; done) | (simp [*]; done)), H', ⟨by have := HK1.out; omega⟩, ⟨by (with_reducible repeat (first | apply Kd.S_alloc | apply Kd.S_drewN | apply Kd.S_drew)); exact HO111.out⟩, ⟨by repeat (first | (with_reducible first | exact HB.out | apply below_alloc | apply pw_below_drewN | apply below_drew1) | exact HB.out)⟩⟩
            · rw [if_neg c6] at H
              exact absurd H (by simp)
          · rw [if_neg c4] at H
            exact absurd H (by simp)
        · rw [if_neg c3] at H
          exact absurd H (by simp)
      · rw [if_neg c2] at H
        have c2b0 : decide (x8_1 < (l0.length : Int)) = false := decide_eq_false c2
        clear c2
        obtain rfl := Option.some.inj H
        go_wp2
        go_ret
        exact ⟨_, by first | rfl | (simp [errW_none, errW_some] <;> rfl) | (simp [*, errW_none, errW_some] <;> rfl), by (with_reducible repeat (first | apply Kd.S_alloc | apply Kd.S_drewN | apply Kd.S_drew)); exact HO_3.out, by repeat (first | (with_reducible first | exact HB.out | apply below_alloc | apply pw_below_drewN | apply below_drew1) | exact HB.out)⟩

/-! ### stringslite_HasPrefix: function 68 -/
def stringslite_HasPrefix.f (a0 : ByteArray) (a1 : ByteArray) : Option (Bool) := if (a0.size : Int) ≥ (a1.size : Int) then (if 0 ≤ (a1.size : Int) then (if (a1.size : Int) ≤ (a0.size : Int) then (some ((a0.extract 0 ((a1.size : Int) : Int).toNat).toList == a1.toList)) else (none)) else (none)) else (some false)
set_option maxHeartbeats 8000000 in
set_option maxRecDepth 100000 in
theorem stringslite_HasPrefix.calls (a0 : ByteArray) (a1 : ByteArray) (r : Bool) (w : World) (h : stringslite_HasPrefix.f a0 a1 = some r) :
    Calls Tryd.prog 68 #[.string a0, .string a1] w fun e w' => e = .returned (.bool r) ∧ Drawn0 w w' := by
  have H : (if (a0.size : Int) ≥ (a1.size : Int) then (if 0 ≤ (a1.size : Int) then (if (a1.size : Int) ≤ (a0.size : Int) then (some ((a0.extract 0 ((a1.size : Int) : Int).toNat).toList == a1.toList)) else (none)) else (none)) else (some false)) = some r := h
  clear h
  by_cases c3 : (a0.size : Int) ≥ (a1.size : Int)
  · rw [if_pos c3] at H
    have c3b0 : decide ((a1.size : Int) ≤ (a0.size : Int)) = true := decide_eq_true c3
    have c3b1 : decide (a1.size ≤ a0.size) = true := decide_eq_true (Int.ofNat_le.mp c3)
    clear c3
    by_cases c4 : 0 ≤ (a1.size : Int)
    · rw [if_pos c4] at H
      have c4b0 := eq_true c4
      have c4b1 : decide (0 ≤ (a1.size : Int)) = true := decide_eq_true c4
      clear c4
      by_cases c5 : (a1.size : Int) ≤ (a0.size : Int)
      · rw [if_pos c5] at H
        have c5b0 := eq_true c5
        have c5b1 : decide ((a1.size : Int) ≤ (a0.size : Int)) = true := decide_eq_true c5
        clear c5
        obtain rfl := Option.some.inj H
        go_enter Tryd.func68, Tryd.ntmps68
        go_wp2
        go_ret
        exact ⟨by first | rfl | (simp; done) | (simp [*]; done), by repeat (first | exact Drawn0.refl _ | apply Drawn0.step)⟩
      · rw [if_neg c5] at H
        exact absurd H (by simp)
    · rw [if_neg c4] at H
      exact absurd H (by simp)
  · rw [if_neg c3] at H
    have c3b0 : decide ((a1.size : Int) ≤ (a0.size : Int)) = false := decide_eq_false c3
    have c3b1 : decide (a1.size ≤ a0.size) = false := decide_eq_false (fun h => c3 (Int.ofNat_le.mpr h))
    clear c3
    obtain rfl := Option.some.inj H
    go_enter Tryd.func68, Tryd.ntmps68
    go_wp2
    go_ret
    exact ⟨by first | rfl | (simp; done) | (simp [*]; done), by repeat (first | exact Drawn0.refl _ | apply Drawn0.step)⟩

/-! ### strings_HasPrefix: function 57 -/
def strings_HasPrefix.f (a0 : ByteArray) (a1 : ByteArray) : Option (Bool) := (stringslite_HasPrefix.f a0 a1).bind fun t112 => (some t112)
set_option maxHeartbeats 8000000 in
set_option maxRecDepth 100000 in
theorem strings_HasPrefix.calls (a0 : ByteArray) (a1 : ByteArray) (r : Bool) (w : World) (h : strings_HasPrefix.f a0 a1 = some r) :
    Calls Tryd.prog 57 #[.string a0, .string a1] w fun e w' => e = .returned (.bool r) ∧ Drawn0 w w' := by
  have H : ((stringslite_HasPrefix.f a0 a1).bind fun t112 => (some t112)) = some r := h
  clear h
  replace H := Option.bind_eq_some_iff.mp H
  obtain ⟨t112, A30, H⟩ := H
  replace H : (some t112) = some r := H
  have A3 := Aside0.mk A30
  clear A30
  obtain rfl := Option.some.inj H
  go_enter Tryd.func57, Tryd.ntmps57
  go_wp2_with (first | ((with_reducible refine gate_callee (f := 68) rfl ?_); refine goesL_ (some 7) rfl rfl Tryd.func68 (by kernel_rfl) rfl #[.string a0, .string a1] rfl (by (try simp only [List.map_toArray, List.map_cons, List.map_nil]); first | done | rfl | (simp only [List.length_drop, List.length_take]; rfl)) ?_; (with_reducible refine (stringslite_HasPrefix.calls a0 a1 t112 _ A3.out).mono ?_); rintro e w' ⟨rfl, ⟨nd, rfl⟩⟩; refine ⟨_, rfl, ?_⟩))
  go_ret
  exact ⟨by first | rfl | (simp; done) | (simp [*]; done), by repeat (first | exact Drawn0.refl _ | apply Drawn0.step)⟩

/-! ### buildtags_Term_IsNegated: function 34 -/
def buildtags_Term_IsNegated.f (a0 : ByteArray) : Option (Bool) := (strings_HasPrefix.f a0 (⟨#[33]⟩ : ByteArray)).bind fun t113 => (some t113)
set_option maxHeartbeats 8000000 in
set_option maxRecDepth 100000 in
theorem buildtags_Term_IsNegated.calls (a0 : ByteArray) (r : Bool) (w : World) (h : buildtags_Term_IsNegated.f a0 = some r) :
    Calls Tryd.prog 34 #[.string a0] w fun e w' => e = .returned (.bool r) ∧ Drawn0 w w' := by
  have H : ((strings_HasPrefix.f a0 (⟨#[33]⟩ : ByteArray)).bind fun t113 => (some t113)) = some r := h
  clear h
  replace H := Option.bind_eq_some_iff.mp H
  obtain ⟨t113, A20, H⟩ := H
  replace H : (some t113) = some r := H
  have A2 := Aside0.mk A20
  clear A20
  obtain rfl := Option.some.inj H
  go_enter Tryd.func34, Tryd.ntmps34
  go_wp2_with (first | ((with_reducible refine gate_callee (f := 57) rfl ?_); refine goesL_ (some 4) rfl rfl Tryd.func57 (by kernel_rfl) rfl #[.string a0, .string (⟨#[33]⟩ : ByteArray)] rfl (by (try simp only [List.map_toArray, List.map_cons, List.map_nil]); first | done | rfl | (simp only [List.length_drop, List.length_take]; rfl)) ?_; (with_reducible refine (strings_HasPrefix.calls a0 (⟨#[33]⟩ : ByteArray) t113 _ A2.out).mono ?_); rintro e w' ⟨rfl, ⟨nd, rfl⟩⟩; refine ⟨_, rfl, ?_⟩))
  go_ret
  exact ⟨by first | rfl | (simp; done) | (simp [*]; done), by repeat (first | exact Drawn0.refl _ | apply Drawn0.step)⟩

/-! ### stringslite_TrimPrefix: function 69 -/
def stringslite_TrimPrefix.f (a0 : ByteArray) (a1 : ByteArray) : Option (ByteArray) := (stringslite_HasPrefix.f a0 a1).bind fun t114 => (if t114 = true then (if 0 ≤ (a1.size : Int) then (if (a1.size : Int) ≤ (a0.size : Int) then (some (a0.extract ((a1.size : Int) : Int).toNat a0.size)) else (none)) else (none)) else (some a0))
set_option maxHeartbeats 8000000 in
set_option maxRecDepth 100000 in
theorem stringslite_TrimPrefix.calls (a0 : ByteArray) (a1 : ByteArray) (r : ByteArray) (w : World) (h : stringslite_TrimPrefix.f a0 a1 = some r) :
    Calls Tryd.prog 69 #[.string a0, .string a1] w fun e w' => e = .returned (.string r) ∧ Drawn0 w w' := by
  have H : ((stringslite_HasPrefix.f a0 a1).bind fun t114 => (if t114 = true then (if 0 ≤ (a1.size : Int) then (if (a1.size : Int) ≤ (a0.size : Int) then (some (a0.extract ((a1.size : Int) : Int).toNat a0.size)) else (none)) else (none)) else (some a0))) = some r := h
  clear h
  replace H := Option.bind_eq_some_iff.mp H
  obtain ⟨t114, A30, H⟩ := H
  replace H : (if t114 = true then (if 0 ≤ (a1.size : Int) then (if (a1.size : Int) ≤ (a0.size : Int) then (some (a0.extract ((a1.size : Int) : Int).toNat a0.size)) else (none)) else (none)) else (some a0)) = some r := H
  have A3 := Aside0.mk A30
  clear A30
  by_cases c4 : t114 = true
  · subst c4
    have H1 : (if 0 ≤ (a1.size : Int) then (if (a1.size : Int) ≤ (a0.size : Int) then (some (a0.extract ((a1.size : Int) : Int).toNat a0.size)) else (none)) else (none)) = some r := by rw [if_pos rfl] at H; exact H
    clear H
    have H := H1
    clear H1
    by_cases c5 : 0 ≤ (a1.size : Int)
    · rw [if_pos c5] at H
      have c5b0 := eq_true c5
      have c5b1 : decide (0 ≤ (a1.size : Int)) = true := decide_eq_true c5
      clear c5
      by_cases c6 : (a1.size : Int) ≤ (a0.size : Int)
      · rw [if_pos c6] at H
        have c6b0 := eq_true c6
        have c6b1 : decide ((a1.size : Int) ≤ (a0.size : Int)) = true := decide_eq_true c6
        clear c6
        obtain rfl := Option.some.inj H
        go_enter Tryd.func69, Tryd.ntmps69
        go_wp2_with (first | ((with_reducible refine gate_callee (f := 68) rfl ?_); refine goesL_ (some 7) rfl rfl Tryd.func68 (by kernel_rfl) rfl #[.string a0, .string a1] rfl (by (try simp only [List.map_toArray, List.map_cons, List.map_nil]); first | done | rfl | (simp only [List.length_drop, List.length_take]; rfl)) ?_; (with_reducible refine (stringslite_HasPrefix.calls a0 a1 true _ A3.out).mono ?_); rintro e w' ⟨rfl, ⟨nd, rfl⟩⟩; refine ⟨_, rfl, ?_⟩))
        go_ret
        exact ⟨by first | rfl | (simp; done) | (simp [*]; done), by repeat (first | exact Drawn0.refl _ | apply Drawn0.step)⟩
      · rw [if_neg c6] at H
        exact absurd H (by simp)
    · rw [if_neg c5] at H
      exact absurd H (by simp)
  · replace c4 := Bool.eq_false_iff.mpr c4
    subst c4
    have H1 : (some a0) = some r := by rw [if_neg (show ¬ (false = true) by decide)] at H; exact H
    clear H
    have H := H1
    clear H1
    obtain rfl := Option.some.inj H
    go_enter Tryd.func69, Tryd.ntmps69
    go_wp2_with (first | ((with_reducible refine gate_callee (f := 68) rfl ?_); refine goesL_ (some 7) rfl rfl Tryd.func68 (by kernel_rfl) rfl #[.string a0, .string a1] rfl (by (try simp only [List.map_toArray, List.map_cons, List.map_nil]); first | done | rfl | (simp only [List.length_drop, List.length_take]; rfl)) ?_; (with_reducible refine (stringslite_HasPrefix.calls a0 a1 false _ A3.out).mono ?_); rintro e w' ⟨rfl, ⟨nd, rfl⟩⟩; refine ⟨_, rfl, ?_⟩))
    go_ret
    exact ⟨by first | rfl | (simp; done) | (simp [*]; done), by repeat (first | exact Drawn0.refl _ | apply Drawn0.step)⟩

/-! ### strings_TrimPrefix: function 58 -/
def strings_TrimPrefix.f (a0 : ByteArray) (a1 : ByteArray) : Option (ByteArray) := (stringslite_TrimPrefix.f a0 a1).bind fun t115 => (some t115)
set_option maxHeartbeats 8000000 in
set_option maxRecDepth 100000 in
theorem strings_TrimPrefix.calls (a0 : ByteArray) (a1 : ByteArray) (r : ByteArray) (w : World) (h : strings_TrimPrefix.f a0 a1 = some r) :
    Calls Tryd.prog 58 #[.string a0, .string a1] w fun e w' => e = .returned (.string r) ∧ Drawn0 w w' := by
  have H : ((stringslite_TrimPrefix.f a0 a1).bind fun t115 => (some t115)) = some r := h
  clear h
  replace H := Option.bind_eq_some_iff.mp H
  obtain ⟨t115, A30, H⟩ := H
  replace H : (some t115) = some r := H
  have A3 := Aside0.mk A30
  clear A30
  obtain rfl := Option.some.inj H
  go_enter Tryd.func58, Tryd.ntmps58
  go_wp2_with (first | ((with_reducible refine gate_callee (f := 69) rfl ?_); refine goesL_ (some 7) rfl rfl Tryd.func69 (by kernel_rfl) rfl #[.string a0, .string a1] rfl (by (try simp only [List.map_toArray, List.map_cons, List.map_nil]); first | done | rfl | (simp only [List.length_drop, List.length_take]; rfl)) ?_; (with_reducible refine (stringslite_TrimPrefix.calls a0 a1 t115 _ A3.out).mono ?_); rintro e w' ⟨rfl, ⟨nd, rfl⟩⟩; refine ⟨_, rfl, ?_⟩))
  go_ret
  exact ⟨by first | rfl | (simp; done) | (simp [*]; done), by repeat (first | exact Drawn0.refl _ | apply Drawn0.step)⟩

/-! ### buildtags_Term_Name: function 35 -/
def buildtags_Term_Name.f (a0 : ByteArray) : Option (ByteArray) := (strings_TrimPrefix.f a0 (⟨#[33]⟩ : ByteArray)).bind fun t116 => (some t116)
set_option maxHeartbeats 8000000 in
set_option maxRecDepth 100000 in
theorem buildtags_Term_Name.calls (a0 : ByteArray) (r : ByteArray) (w : World) (h : buildtags_Term_Name.f a0 = some r) :
    Calls Tryd.prog 35 #[.string a0] w fun e w' => e = .returned (.string r) ∧ Drawn0 w w' := by
  have H : ((strings_TrimPrefix.f a0 (⟨#[33]⟩ : ByteArray)).bind fun t116 => (some t116)) = some r := h
  clear h
  replace H := Option.bind_eq_some_iff.mp H
  obtain ⟨t116, A20, H⟩ := H
  replace H : (some t116) = some r := H
  have A2 := Aside0.mk A20
  clear A20
  obtain rfl := Option.some.inj H
  go_enter Tryd.func35, Tryd.ntmps35
  go_wp2_with (first | ((with_reducible refine gate_callee (f := 58) rfl ?_); refine goesL_ (some 4) rfl rfl Tryd.func58 (by kernel_rfl) rfl #[.string a0, .string (⟨#[33]⟩ : ByteArray)] rfl (by (try simp only [List.map_toArray, List.map_cons, List.map_nil]); first | done | rfl | (simp only [List.length_drop, List.length_take]; rfl)) ?_; (with_reducible refine (strings_TrimPrefix.calls a0 (⟨#[33]⟩ : ByteArray) t116 _ A2.out).mono ?_); rintro e w' ⟨rfl, ⟨nd, rfl⟩⟩; refine ⟨_, rfl, ?_⟩))
  go_ret
  exact ⟨by first | rfl | (simp; done) | (simp [*]; done), by repeat (first | exact Drawn0.refl _ | apply Drawn0.step)⟩

-- NOT PRINTED: function 59 (errors_New)

-- NOT PRINTED: function 77 (unicode_is16)

-- NOT PRINTED: function 78 (unicode_is32)

-- NOT PRINTED: function 70 (unicode_isExcludingLatin)

-- NOT PRINTED: function 60 (unicode_IsLetter)

-- NOT PRINTED: function 61 (unicode_IsDigit)

-- NOT PRINTED: function 36 (buildtags_Term_Validate)

-- NOT PRINTED: function 37 (buildtags_Term_Evaluate)

-- NOT PRINTED: function 64 (buildtags_Option_Evaluate)

-- NOT PRINTED: function 47 (buildtags_Constraint_Evaluate)

-- NOT PRINTED: function 23 (impl_ConstraintEvaluate)

/-! ### spec_TermParts: function 11 -/
def spec_TermParts.f (a0 : ByteArray) : Option (Bool × ByteArray) := if (a0.size : Int) > 0 then (if 0 < (a0.size : Int) then (if (bt a0 0) = 33 then (if 1 ≤ (a0.size : Int) then (some (true, a0.extract 1 a0.size)) else (none)) else (some (false, a0))) else (none)) else (some (false, a0))
set_option maxHeartbeats 8000000 in
set_option maxRecDepth 100000 in
theorem spec_TermParts.calls (a0 : ByteArray) (r1 : Bool) (r2 : ByteArray) (w : World) (h : spec_TermParts.f a0 = some (r1, r2)) :
    Calls Tryd.prog 11 #[.string a0] w fun e w' => e = .returned (.tuple #[.bool r1, .string r2]) ∧ Drawn0 w w' := by
  have H : (if (a0.size : Int) > 0 then (if 0 < (a0.size : Int) then (if (bt a0 0) = 33 then (if 1 ≤ (a0.size : Int) then (some (true, a0.extract 1 a0.size)) else (none)) else (some (false, a0))) else (none)) else (some (false, a0))) = some (r1, r2) := h
  clear h
  by_cases c2 : (a0.size : Int) > 0
  · rw [if_pos c2] at H
    have c2b0 : decide (0 < (a0.size : Int)) = true := decide_eq_true c2
    have c2b1 : decide (0 < a0.size) = true := decide_eq_true (by omega)
    clear c2
    by_cases c3 : 0 < (a0.size : Int)
    · rw [if_pos c3] at H
      have c3b0 : decide (0 < (a0.size : Int)) = true := decide_eq_true c3
      have c3b1 : decide (0 < a0.size) = true := decide_eq_true (by omega)
      clear c3
      by_cases c5 : (bt a0 0) = 33
      · rw [if_pos c5] at H
        have c5b0 : ((bt a0 0) == 33) = true := beq_iff_eq.mpr c5
        have c5b1 : ((bt a0 0) != 33) = false := bne_eq_false_iff_eq.mpr c5
        clear c5
        by_cases c6 : 1 ≤ (a0.size : Int)
        · rw [if_pos c6] at H
          have c6b0 := eq_true c6
          have c6b1 : decide (1 ≤ (a0.size : Int)) = true := decide_eq_true c6
          clear c6
          simp only [Option.some.injEq, Prod.mk.injEq] at H
          obtain ⟨rfl, rfl⟩ := H
          have p4 : 0 ≤ (0 : Int) := (by omega)
          have q4 : 0 < a0.size := (by have : (0 : Int) < (a0.size : Int) := of_decide_eq_true (by first | (with_reducible assumption) | assumption); omega)
          have hx4 : ∀ h : 0 < a0.size, ((a0[0]'h).toNat : Int) = bt a0 0 := bt_at a0 0
          clear p4
          have qi4 : (0 < (a0.size : Int)) = True := eq_true (of_decide_eq_true (by first | (with_reducible assumption) | assumption))
          replace q4 := eq_true q4
          go_enter Tryd.func11, Tryd.ntmps11
          go_wp2
          repeat (go_quiet (fail); try go_wp2)
          go_ret2
          exact ⟨by first | rfl | (simp; done) | (simp [*]; done), by repeat (first | exact Drawn0.refl _ | apply Drawn0.step)⟩
        · rw [if_neg c6] at H
          exact absurd H (by simp)
      · rw [if_neg c5] at H
        have c5b0 : ((bt a0 0) == 33) = false := beq_eq_false_iff_ne.mpr c5
        have c5b1 : ((bt a0 0) != 33) = true := bne_iff_ne.mpr c5
        simp only [Option.some.injEq, Prod.mk.injEq] at H
        obtain ⟨rfl, rfl⟩ := H
        have p4 : 0 ≤ (0 : Int) := (by omega)
        have q4 : 0 < a0.size := (by have : (0 : Int) < (a0.size : Int) := of_decide_eq_true (by first | (with_reducible assumption) | assumption); omega)
        have hx4 : ∀ h : 0 < a0.size, ((a0[0]'h).toNat : Int) = bt a0 0 := bt_at a0 0
        clear p4
        have qi4 : (0 < (a0.size : Int)) = True := eq_true (of_decide_eq_true (by first | (with_reducible assumption) | assumption))
        replace q4 := eq_true q4
        go_enter Tryd.func11, Tryd.ntmps11
        go_wp2
        repeat (go_quiet (fail); try go_wp2)
        go_ret2
        exact ⟨by first | rfl | (simp; done) | (simp [*]; done), by repeat (first | exact Drawn0.refl _ | apply Drawn0.step)⟩
    · rw [if_neg c3] at H
      exact absurd H (by simp)
  · rw [if_neg c2] at H
    have c2b0 : decide (0 < (a0.size : Int)) = false := decide_eq_false c2
    have c2b1 : decide (0 < a0.size) = false := decide_eq_false (by omega)
    clear c2
    simp only [Option.some.injEq, Prod.mk.injEq] at H
    obtain ⟨rfl, rfl⟩ := H
    go_enter Tryd.func11, Tryd.ntmps11
    go_wp2
    repeat (go_quiet (fail); try go_wp2)
    go_ret2
    exact ⟨by first | rfl | (simp; done) | (simp [*]; done), by repeat (first | exact Drawn0.refl _ | apply Drawn0.step)⟩

end Go.Proofs.YtknldfighehplaaDoor.PFnMeaning
