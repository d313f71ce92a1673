-- PRINTED BY print.sh 35421559b90ae4d0a3588c463048766b98c2df88dd9212a6774a882060cdf62d: not written by this session
import Derived.Test.YtknldfighehplaaPFnSameMasksx0
import Derived.Test.YtknldfighehplaaPFnSameMasksx1
namespace Go.Proofs.Ytknldfighehplaa.PFnSameMasks
open Go.RowKit Go.Proofs.YtknldfighehplaaW.PrintWords Go.Proofs.YtknldfighehplaaW.PrintLast Go.Proofs.YtknldfighehplaaW.PrintMore
attribute [local go_sem] max2_int min2_int max_two min_two max_three min_three max_four min_four   -- for this text's walks alone
set_option linter.unusedVariables false
set_option linter.unusedSimpArgs false

attribute [local go_sem high] eqA74
/-! ### laws_solid: function 19 -/
def laws_solid.l0 : Nat → List (S74) → List (S74) → Int → Int → Option (Bool)
  | 0, _, _, _, _ => none
  | k + 1, x0, x5, x6, x7 => if x7 < x6 then (if 0 ≤ x7 then (if x7 < (x5.length : Int) then (if ((rd_T74 x5 x7).f1) = 0 then (some false) else (laws_solid.l0 k x0 x5 x6 (wrap64 (x7 + 1)))) else (none)) else (none)) else (some (decide ((x0.length : Int) ≤ 2000)))
def laws_solid.f (k : Nat) (l0 : List (S74)) : Option (Bool) := laws_solid.l0 k l0 l0 (l0.length : Int) 0
theorem laws_solid.mono_l : ∀ k, (∀ y0 y1 y2 y3, LeO (laws_solid.l0 k y0 y1 y2 y3) (laws_solid.l0 (k + 1) y0 y1 y2 y3))
  | 0 => fun _ _ _ _ r h => by simp [laws_solid.l0] at h
  | k + 1 => by
    have ih0 := laws_solid.mono_l k
    · intro y0 y1 y2 y3
      unfold laws_solid.l0
      repeat' first
      | (with_reducible exact ih0 _ _ _ _)
      | (with_reducible exact LeO.refl _)
      | (with_reducible exact LeO.none _)
      | (with_reducible refine LeO.ite ?_ ?_)
      | (with_reducible refine LeO.bind ?_ (fun _ => ?_))
      | exact ih0 _ _ _ _
      | exact LeO.none _
      | refine LeO.ite ?_ ?_
      | refine LeO.bind ?_ (fun _ => ?_)
theorem laws_solid.mono : ∀ a0 k, LeO (laws_solid.f k a0) (laws_solid.f (k + 1) a0) := by
  intro a0 k
  have ih0 := laws_solid.mono_l k
  unfold laws_solid.f
  repeat' first
      | (with_reducible exact ih0 _ _ _ _)
      | (with_reducible exact LeO.refl _)
      | (with_reducible exact LeO.none _)
      | (with_reducible refine LeO.ite ?_ ?_)
      | (with_reducible refine LeO.bind ?_ (fun _ => ?_))
      | exact ih0 _ _ _ _
      | exact LeO.none _
      | refine LeO.ite ?_ ?_
      | refine LeO.bind ?_ (fun _ => ?_)
set_option maxHeartbeats 8000000 in
set_option maxRecDepth 100000 in
theorem laws_solid.calls (k : Nat) (A0 : Option Addr) (c0 : Nat) (l0 : List (S74)) (r : Bool) (w : World) (hr0 : Kd.C k74 w A0 l0.length l0) (hc0 : l0.length ≤ c0) (h : laws_solid.f k l0 = some r) :
    Calls Try.prog 19 #[.slice A0 l0.length c0] w fun e w' => e = .returned (.bool r) ∧ Below w.heap.size w w' := by
  have hu74 := Try.underlying74
  have HR0 := Aside0.mk hr0
  have HC0 := Aside0.mk hc0
  clear hr0 hc0
  have HB := Aside0.mk (Below.refl w.heap.size w)
  have H : (laws_solid.l0 k l0 l0 (l0.length : Int) 0) = some r := h
  clear h
  have H' := Aside0.mk H
  clear H
  go_enter Try.func19, Try.ntmps19
  go_wp2
  go_loopg [7] k (fun kq v7 w' => ∃ (x7_1 : Int), v7 = .int .i64 x7_1 ∧ Aside0 (laws_solid.l0 kq l0 l0 (l0.length : Int) x7_1 = some r) ∧ Aside0 (kq ≤ k) ∧ Aside0 (Below w.heap.size w w'))
  case atStart => exact ⟨(0), (by first | rfl | (simp; done) | (simp [*]; done)), H', ⟨Nat.le_refl _⟩, ⟨by repeat (first | (with_reducible first | exact HB.out | apply below_alloc | apply pw_below_drewN | apply below_drew1) | exact HB.out)⟩⟩
  case round =>
    clear H'
    try clear c1
    obtain ⟨x7_1, rfl, HA, HK1, HB⟩ := hrel
    cases gk with
    | zero => exact absurd HA.out (by simp [laws_solid.l0])
    | succ k1 =>
      have H := HA.out
      clear HA
      simp only [laws_solid.l0] at H
      by_cases c2 : x7_1 < (l0.length : Int)
      · rw [if_pos c2] at H
        have c2b0 : decide (x7_1 < (l0.length : Int)) = true := decide_eq_true c2
        clear c2
        by_cases c3 : 0 ≤ x7_1
        · rw [if_pos c3] at H
          have c3b0 : decide (0 ≤ x7_1) = true := decide_eq_true c3
          clear c3
          by_cases c4 : x7_1 < (l0.length : Int)
          · rw [if_pos c4] at H
            have c4b0 : decide (x7_1 < (l0.length : Int)) = true := decide_eq_true c4
            clear c4
            by_cases c5 : ((rd_T74 l0 x7_1).f1) = 0
            · rw [if_pos c5] at H
              have c5b0 : (((rd_T74 l0 x7_1).f1) == 0) = true := beq_iff_eq.mpr c5
              have c5b1 : (((rd_T74 l0 x7_1).f1) != 0) = false := bne_eq_false_iff_eq.mpr c5
              clear c5
              obtain rfl := Option.some.inj H
              have p101 : 0 ≤ (x7_1 : Int) := of_decide_eq_true (by first | (with_reducible assumption) | assumption)
              have q101 : x7_1 < (l0.length : Int) := of_decide_eq_true (by first | (with_reducible assumption) | assumption)
              obtain ⟨ad101, e101, hx101_0, hx101_1⟩ := at_T74 HR0.out x7_1 p101 q101
              cases e101
              replace hx101_0 := (HB.out.cell (World.block_lt_of_cell? w _ hx101_0)).trans hx101_0
              replace hx101_1 := (HB.out.cell (World.block_lt_of_cell? w _ hx101_1)).trans hx101_1
              replace p101 := eq_true p101
              replace q101 := eq_true q101
              go_wp2_with (first | ((with_reducible refine gate_dst (N := 4) rfl ?_); refine box_event ?hg (N := 4) ?hd (cs := #[.int .u32 0, .int .u16 0]) (t := 74) ?hr ?_; (case hd => rfl); (case hg => rfl); (case hr => first | (go_simp; done) | (go_simp; rfl)); intro gb102 hg w6 hbox hb; have n0_ := Aside0.mk (below_step (by repeat (first | (with_reducible first | exact HB.out | apply below_alloc | apply pw_below_drewN | apply below_drew1) | exact HB.out)) hb); have n1_ := Aside0.mk (hbox); have n2_ := Aside0.mk ((by rw [hg]; exact (below_size (by repeat (first | (with_reducible first | exact HB.out | apply below_alloc | apply pw_below_drewN | apply below_drew1) | exact HB.out))) : w.heap.size ≤ gb102)); have n3_ := Aside0.mk ((by rw [hg]; exact (below_size (by repeat (first | (with_reducible first | exact HB.out | apply below_alloc | apply pw_below_drewN | apply below_drew1) | exact HB.out))) : w.heap.size ≤ gb102)); clear HB; have HB := n0_; have BK102 := n1_; have GW102 := n2_; have GE102 := n3_; clear n0_ n1_ n2_ n3_; clear hb hbox hg; have hcz7_0 : w6.cell? ⟨gb102, 0, none⟩ = some (.int .u32 0) := (blk_cell BK102.out 0).trans rfl; have hcz7_1 : w6.cell? ⟨gb102, 1, none⟩ = some (.int .u16 0) := (blk_cell BK102.out 1).trans rfl; have hfz7_0 := blk_frozen BK102.out 0; have hfz7_1 := blk_frozen BK102.out 1))
              go_ret
              exact ⟨by first | rfl | (simp [errW_none, errW_some] <;> rfl) | (simp [*, errW_none, errW_some] <;> rfl), by repeat (first | (with_reducible first | exact HB.out | apply below_alloc | apply pw_below_drewN | apply below_drew1 | refine below_set ?_ GE102.out) | exact HB.out)⟩
            · rw [if_neg c5] at H
              have c5b0 : (((rd_T74 l0 x7_1).f1) == 0) = false := beq_eq_false_iff_ne.mpr c5
              have c5b1 : (((rd_T74 l0 x7_1).f1) != 0) = true := bne_iff_ne.mpr c5
              have H' := Aside0.mk H
              clear H
              have p101 : 0 ≤ (x7_1 : Int) := of_decide_eq_true (by first | (with_reducible assumption) | assumption)
              have q101 : x7_1 < (l0.length : Int) := of_decide_eq_true (by first | (with_reducible assumption) | assumption)
              obtain ⟨ad101, e101, hx101_0, hx101_1⟩ := at_T74 HR0.out x7_1 p101 q101
              cases e101
              replace hx101_0 := (HB.out.cell (World.block_lt_of_cell? w _ hx101_0)).trans hx101_0
              replace hx101_1 := (HB.out.cell (World.block_lt_of_cell? w _ hx101_1)).trans hx101_1
              replace p101 := eq_true p101
              replace q101 := eq_true q101
              go_wp2_with (first | ((with_reducible refine gate_dst (N := 4) rfl ?_); refine box_event ?hg (N := 4) ?hd (cs := #[.int .u32 0, .int .u16 0]) (t := 74) ?hr ?_; (case hd => rfl); (case hg => rfl); (case hr => first | (go_simp; done) | (go_simp; rfl)); intro gb102 hg w8 hbox hb; have n0_ := Aside0.mk (below_step (by repeat (first | (with_reducible first | exact HB.out | apply below_alloc | apply pw_below_drewN | apply below_drew1) | exact HB.out)) hb); have n1_ := Aside0.mk (hbox); have n2_ := Aside0.mk ((by rw [hg]; exact (below_size (by repeat (first | (with_reducible first | exact HB.out | apply below_alloc | apply pw_below_drewN | apply below_drew1) | exact HB.out))) : w.heap.size ≤ gb102)); have n3_ := Aside0.mk ((by rw [hg]; exact (below_size (by repeat (first | (with_reducible first | exact HB.out | apply below_alloc | apply pw_below_drewN | apply below_drew1) | exact HB.out))) : w.heap.size ≤ gb102)); clear HB; have HB := n0_; have BK102 := n1_; have GW102 := n2_; have GE102 := n3_; clear n0_ n1_ n2_ n3_; clear hb hbox hg; have hcz9_0 : w8.cell? ⟨gb102, 0, none⟩ = some (.int .u32 0) := (blk_cell BK102.out 0).trans rfl; have hcz9_1 : w8.cell? ⟨gb102, 1, none⟩ = some (.int .u16 0) := (blk_cell BK102.out 1).trans rfl; have hfz9_0 := blk_frozen BK102.out 0; have hfz9_1 := blk_frozen BK102.out 1))
              go_roundg k1
              case measure => have := HK1.out; omega
              case rel => exact ⟨(wrap64 (x7_1 + 1)), (by first | rfl | (simp; done) | (simp [*]; done)), H', ⟨by have := HK1.out; omega⟩, ⟨by repeat (first | (with_reducible first | exact HB.out | apply below_alloc | apply pw_below_drewN | apply below_drew1 | refine below_set ?_ GE102.out) | exact HB.out)⟩⟩
          · rw [if_neg c4] at H
            exact absurd H (by simp)
        · rw [if_neg c3] at H
          exact absurd H (by simp)
      · rw [if_neg c2] at H
        have c2b0 : decide (x7_1 < (l0.length : Int)) = false := decide_eq_false c2
        clear c2
        obtain rfl := Option.some.inj H
        go_wp2
        go_ret
        exact ⟨by first | rfl | (simp [errW_none, errW_some] <;> rfl) | (simp [*, errW_none, errW_some] <;> rfl), by repeat (first | (with_reducible first | exact HB.out | apply below_alloc | apply pw_below_drewN | apply below_drew1) | exact HB.out)⟩

-- NOT PRINTED: function 68 (reg_NewEmptyMaskSet)

-- NOT PRINTED: function 45 (impl_masks)

-- NOT PRINTED: function 46 (reg_MaskSet_Equals)

-- NOT PRINTED: function 20 (impl_SameMasks)

/-! ### spec_SameLive: function 21 -/
def spec_SameLive.l0 : Nat → List (S74) → List (S74) → Int → Option (Bool)
  | 0, _, _, _ => none
  | k + 1, x0, x1, x5 => if x5 < (x0.length : Int) then (if 0 ≤ x5 then (if x5 < (x1.length : Int) then (if (!(((rd_T74 x0 x5).f0) == ((rd_T74 x1 x5).f0)) || (!(((rd_T74 x0 x5).f1) == ((rd_T74 x1 x5).f1)))) = true then (some false) else (spec_SameLive.l0 k x0 x1 (wrap64 (x5 + 1)))) else (none)) else (none)) else (some true)
def spec_SameLive.f (k : Nat) (l0 : List (S74)) (l1 : List (S74)) : Option (Bool) := if (l0.length : Int) = (l1.length : Int) then (spec_SameLive.l0 k l0 l1 0) else (some false)
theorem spec_SameLive.mono_l : ∀ k, (∀ y0 y1 y2, LeO (spec_SameLive.l0 k y0 y1 y2) (spec_SameLive.l0 (k + 1) y0 y1 y2))
  | 0 => fun _ _ _ r h => by simp [spec_SameLive.l0] at h
  | k + 1 => by
    have ih0 := spec_SameLive.mono_l k
    · intro y0 y1 y2
      unfold spec_SameLive.l0
      repeat' first
      | (with_reducible exact ih0 _ _ _)
      | (with_reducible exact LeO.refl _)
      | (with_reducible exact LeO.none _)
      | (with_reducible refine LeO.ite ?_ ?_)
      | (with_reducible refine LeO.bind ?_ (fun _ => ?_))
      | exact ih0 _ _ _
      | exact LeO.none _
      | refine LeO.ite ?_ ?_
      | refine LeO.bind ?_ (fun _ => ?_)
theorem spec_SameLive.mono : ∀ a0 a1 k, LeO (spec_SameLive.f k a0 a1) (spec_SameLive.f (k + 1) a0 a1) := by
  intro a0 a1 k
  have ih0 := spec_SameLive.mono_l k
  unfold spec_SameLive.f
  repeat' first
      | (with_reducible exact ih0 _ _ _)
      | (with_reducible exact LeO.refl _)
      | (with_reducible exact LeO.none _)
      | (with_reducible refine LeO.ite ?_ ?_)
      | (with_reducible refine LeO.bind ?_ (fun _ => ?_))
      | exact ih0 _ _ _
      | exact LeO.none _
      | refine LeO.ite ?_ ?_
      | refine LeO.bind ?_ (fun _ => ?_)
set_option maxHeartbeats 8000000 in
set_option maxRecDepth 100000 in
theorem spec_SameLive.calls (k : Nat) (A0 : Option Addr) (c0 : Nat) (l0 : List (S74)) (A1 : Option Addr) (c1 : Nat) (l1 : List (S74)) (r : Bool) (w : World) (hr0 : Kd.C k74 w A0 l0.length l0) (hc0 : l0.length ≤ c0) (hr1 : Kd.C k74 w A1 l1.length l1) (hc1 : l1.length ≤ c1) (h : spec_SameLive.f k l0 l1 = some r) :
    Calls Try.prog 21 #[.slice A0 l0.length c0, .slice A1 l1.length c1] w fun e w' => e = .returned (.bool r) ∧ Drawn0 w w' := by
  have hu74 := Try.underlying74
  have HR0 := Aside0.mk hr0
  have HC0 := Aside0.mk hc0
  clear hr0 hc0
  have HR1 := Aside0.mk hr1
  have HC1 := Aside0.mk hc1
  clear hr1 hc1
  have H : (if (l0.length : Int) = (l1.length : Int) then (spec_SameLive.l0 k l0 l1 0) else (some false)) = some r := h
  clear h
  by_cases c3 : (l0.length : Int) = (l1.length : Int)
  · rw [if_pos c3] at H
    have c3b0 : ((l0.length : Int) == (l1.length : Int)) = true := beq_iff_eq.mpr c3
    have c3b1 : ((l0.length : Int) != (l1.length : Int)) = false := bne_eq_false_iff_eq.mpr c3
    have c3b2 : (l0.length == l1.length) = true := by first | simpa using c3 | (simp at c3 ⊢; omega)
    clear c3
    have H' := Aside0.mk H
    clear H
    go_enter Try.func21, Try.ntmps21
    go_wp2
    repeat (go_quiet (fail); try go_wp2)
    go_loopg [5] k (fun kq v5 w' => ∃ (x5_1 : Int), v5 = .int .i64 x5_1 ∧ Aside0 (spec_SameLive.l0 kq l0 l1 x5_1 = some r) ∧ Aside0 (kq ≤ k) ∧ Drawn0 w w')
    case atStart => exact ⟨(0), (by first | rfl | (simp; done) | (simp [*]; done)), H', ⟨Nat.le_refl _⟩, by repeat (first | exact Drawn0.refl _ | apply Drawn0.step)⟩
    case round =>
      clear H'
      try clear c1
      try clear c2
      try clear p2
      try clear c3
      try clear c3b0
      try clear c3b1
      try clear c3b2
      obtain ⟨x5_1, rfl, HA, HK1, ⟨m1, rfl⟩⟩ := hrel
      cases gk with
      | zero => exact absurd HA.out (by simp [spec_SameLive.l0])
      | succ k1 =>
        have H := HA.out
        clear HA
        simp only [spec_SameLive.l0] at H
        by_cases c4 : x5_1 < (l0.length : Int)
        · rw [if_pos c4] at H
          have c4b0 : decide (x5_1 < (l0.length : Int)) = true := decide_eq_true c4
          clear c4
          by_cases c5 : 0 ≤ x5_1
          · rw [if_pos c5] at H
            have c5b0 : decide (0 ≤ x5_1) = true := decide_eq_true c5
            clear c5
            by_cases c6 : x5_1 < (l1.length : Int)
            · rw [if_pos c6] at H
              have c6b0 : decide (x5_1 < (l1.length : Int)) = true := decide_eq_true c6
              clear c6
              by_cases c7 : (!(((rd_T74 l0 x5_1).f0) == ((rd_T74 l1 x5_1).f0)) || (!(((rd_T74 l0 x5_1).f1) == ((rd_T74 l1 x5_1).f1)))) = true
              · rw [if_pos c7] at H
                have c7b0 : (!(((rd_T74 l0 x5_1).f0) == ((rd_T74 l1 x5_1).f0)) || (!(((rd_T74 l0 x5_1).f1) == ((rd_T74 l1 x5_1).f1)))) = true := c7
                clear c7
                obtain rfl := Option.some.inj H
                have p103 : 0 ≤ (x5_1 : Int) := of_decide_eq_true (by first | (with_reducible assumption) | assumption)
                have q103 : x5_1 < (l0.length : Int) := of_decide_eq_true (by first | (with_reducible assumption) | assumption)
                obtain ⟨ad103, e103, hx103_0, hx103_1⟩ := at_T74 HR0.out x5_1 p103 q103
                cases e103
                replace p103 := eq_true p103
                replace q103 := eq_true q103
                have p104 : 0 ≤ (x5_1 : Int) := of_decide_eq_true (by first | (with_reducible assumption) | assumption)
                have q104 : x5_1 < (l1.length : Int) := of_decide_eq_true (by first | (with_reducible assumption) | assumption)
                obtain ⟨ad104, e104, hx104_0, hx104_1⟩ := at_T74 HR1.out x5_1 p104 q104
                cases e104
                replace p104 := eq_true p104
                replace q104 := eq_true q104
                go_wp2
                repeat (go_quiet (fail); try go_wp2)
                go_ret
                exact ⟨by first | rfl | (simp; done) | (simp [*]; done), by repeat (first | exact Drawn0.refl _ | apply Drawn0.step)⟩
              · rw [if_neg c7] at H
                have c7b0 : (!(((rd_T74 l0 x5_1).f0) == ((rd_T74 l1 x5_1).f0)) || (!(((rd_T74 l0 x5_1).f1) == ((rd_T74 l1 x5_1).f1)))) = false := by simpa using c7
                clear c7
                have H' := Aside0.mk H
                clear H
                have p103 : 0 ≤ (x5_1 : Int) := of_decide_eq_true (by first | (with_reducible assumption) | assumption)
                have q103 : x5_1 < (l0.length : Int) := of_decide_eq_true (by first | (with_reducible assumption) | assumption)
                obtain ⟨ad103, e103, hx103_0, hx103_1⟩ := at_T74 HR0.out x5_1 p103 q103
                cases e103
                replace p103 := eq_true p103
                replace q103 := eq_true q103
                have p104 : 0 ≤ (x5_1 : Int) := of_decide_eq_true (by first | (with_reducible assumption) | assumption)
                have q104 : x5_1 < (l1.length : Int) := of_decide_eq_true (by first | (with_reducible assumption) | assumption)
                obtain ⟨ad104, e104, hx104_0, hx104_1⟩ := at_T74 HR1.out x5_1 p104 q104
                cases e104
                replace p104 := eq_true p104
                replace q104 := eq_true q104
                go_wp2
                repeat (go_quiet (fail); try go_wp2)
                go_roundg k1
                case measure => have := HK1.out; omega
                case rel => exact ⟨(wrap64 (x5_1 + 1)), (by first | rfl | (simp; done) | (simp [*]; done)), H', ⟨by have := HK1.out; omega⟩, by repeat (first | exact Drawn0.refl _ | apply Drawn0.step)⟩
            · rw [if_neg c6] at H
              exact absurd H (by simp)
          · rw [if_neg c5] at H
            exact absurd H (by simp)
        · rw [if_neg c4] at H
          have c4b0 : decide (x5_1 < (l0.length : Int)) = false := decide_eq_false c4
          clear c4
          obtain rfl := Option.some.inj H
          go_wp2
          repeat (go_quiet (fail); try go_wp2)
          go_ret
          exact ⟨by first | rfl | (simp; done) | (simp [*]; done), by repeat (first | exact Drawn0.refl _ | apply Drawn0.step)⟩
  · rw [if_neg c3] at H
    have c3b0 : ((l0.length : Int) == (l1.length : Int)) = false := beq_eq_false_iff_ne.mpr c3
    have c3b1 : ((l0.length : Int) != (l1.length : Int)) = true := bne_iff_ne.mpr c3
    have c3b2 : (l0.length == l1.length) = false := by first | simpa using c3 | (simp at c3 ⊢; omega)
    obtain rfl := Option.some.inj H
    go_enter Try.func21, Try.ntmps21
    go_wp2
    repeat (go_quiet (fail); try go_wp2)
    go_ret
    exact ⟨by first | rfl | (simp; done) | (simp [*]; done), by repeat (first | exact Drawn0.refl _ | apply Drawn0.step)⟩

/-! ### spec_maskAdd: function 47 -/
mutual
def spec_maskAdd.l0 : Nat → List (S74) → Int → Int → List (S74) → Bool → Int → Option ((List (S74)))
  | 0, _, _, _, _, _, _ => none
  | k + 1, x0, x1, x2, x7, x8, x9 => if x9 < (x0.length : Int) then (if x8 = true then (spec_maskAdd.j1 k x0 x1 x2 x7 x8 x9 false) else (if 0 ≤ x9 then (spec_maskAdd.j1 k x0 x1 x2 x7 x8 x9 (decide (((rd_T74 x0 x9).f0) ≥ x1))) else (none))) else (if x8 = true then (some x7) else (if x7.length < 17592186044416 then (some (x7 ++ [(⟨x1, x2⟩ : S74)])) else (none)))
def spec_maskAdd.j1 : Nat → List (S74) → Int → Int → List (S74) → Bool → Int → Bool → Option ((List (S74)))
  | 0, _, _, _, _, _, _, _ => none
  | k + 1, x0, x1, x2, x7, x8, x9, x29 => if x29 = true then (if 0 ≤ x9 then (if x9 < (x0.length : Int) then (if ((rd_T74 x0 x9).f0) = x1 then (if x7.length < 17592186044416 then (spec_maskAdd.l0 k x0 x1 x2 (x7 ++ [(⟨x1, Go.bits .or .u16 ((rd_T74 x0 x9).f1) x2⟩ : S74)]) true (wrap64 (x9 + 1))) else (none)) else (if x7.length < 17592186044416 then ((some (x7 ++ [(⟨x1, x2⟩ : S74)] : List (S74))).bind fun y114 => (if y114.length < 17592186044416 then (spec_maskAdd.l0 k x0 x1 x2 (y114 ++ [(⟨(rd_T74 x0 x9).f0, (rd_T74 x0 x9).f1⟩ : S74)]) true (wrap64 (x9 + 1))) else (none))) else (none))) else (none)) else (none)) else (if 0 ≤ x9 then (if x9 < (x0.length : Int) then (if x7.length < 17592186044416 then (spec_maskAdd.l0 k x0 x1 x2 (x7 ++ [(⟨(rd_T74 x0 x9).f0, (rd_T74 x0 x9).f1⟩ : S74)]) x8 (wrap64 (x9 + 1))) else (none)) else (none)) else (none))
end
def spec_maskAdd.f (k : Nat) (l0 : List (S74)) (a1 : Int) (a2 : Int) : Option ((List (S74))) := if a2 = 0 then (some l0) else (spec_maskAdd.l0 k l0 a1 a2 ([] : List (S74)) false 0)
theorem spec_maskAdd.mono_l : ∀ k, (∀ y0 y1 y2 y3 y4 y5, LeO (spec_maskAdd.l0 k y0 y1 y2 y3 y4 y5) (spec_maskAdd.l0 (k + 1) y0 y1 y2 y3 y4 y5)) ∧ (∀ y0 y1 y2 y3 y4 y5 y6, LeO (spec_maskAdd.j1 k y0 y1 y2 y3 y4 y5 y6) (spec_maskAdd.j1 (k + 1) y0 y1 y2 y3 y4 y5 y6))
  | 0 => ⟨fun _ _ _ _ _ _ r h => by simp [spec_maskAdd.l0] at h, fun _ _ _ _ _ _ _ r h => by simp [spec_maskAdd.j1] at h⟩
  | k + 1 => by
    obtain ⟨ih0, ih1⟩ := spec_maskAdd.mono_l k
    refine ⟨?_, ?_⟩
    · intro y0 y1 y2 y3 y4 y5
      unfold spec_maskAdd.l0
      repeat' first
      | (with_reducible exact ih0 _ _ _ _ _ _)
      | (with_reducible exact ih1 _ _ _ _ _ _ _)
      | (with_reducible exact LeO.refl _)
      | (with_reducible exact LeO.none _)
      | (with_reducible refine LeO.ite ?_ ?_)
      | (with_reducible refine LeO.bind ?_ (fun _ => ?_))
      | exact ih0 _ _ _ _ _ _
      | exact ih1 _ _ _ _ _ _ _
      | exact LeO.none _
      | refine LeO.ite ?_ ?_
      | refine LeO.bind ?_ (fun _ => ?_)
    · intro y0 y1 y2 y3 y4 y5 y6
      unfold spec_maskAdd.j1
      repeat' first
      | (with_reducible exact ih0 _ _ _ _ _ _)
      | (with_reducible exact ih1 _ _ _ _ _ _ _)
      | (with_reducible exact LeO.refl _)
      | (with_reducible exact LeO.none _)
      | (with_reducible refine LeO.ite ?_ ?_)
      | (with_reducible refine LeO.bind ?_ (fun _ => ?_))
      | exact ih0 _ _ _ _ _ _
      | exact ih1 _ _ _ _ _ _ _
      | exact LeO.none _
      | refine LeO.ite ?_ ?_
      | refine LeO.bind ?_ (fun _ => ?_)
theorem spec_maskAdd.mono : ∀ a0 a1 a2 k, LeO (spec_maskAdd.f k a0 a1 a2) (spec_maskAdd.f (k + 1) a0 a1 a2) := by
  intro a0 a1 a2 k
  obtain ⟨ih0, ih1⟩ := spec_maskAdd.mono_l k
  unfold spec_maskAdd.f
  repeat' first
      | (with_reducible exact ih0 _ _ _ _ _ _)
      | (with_reducible exact ih1 _ _ _ _ _ _ _)
      | (with_reducible exact LeO.refl _)
      | (with_reducible exact LeO.none _)
      | (with_reducible refine LeO.ite ?_ ?_)
      | (with_reducible refine LeO.bind ?_ (fun _ => ?_))
      | exact ih0 _ _ _ _ _ _
      | exact ih1 _ _ _ _ _ _ _
      | exact LeO.none _
      | refine LeO.ite ?_ ?_
      | refine LeO.bind ?_ (fun _ => ?_)
set_option maxHeartbeats 8000000 in
set_option maxRecDepth 100000 in
theorem spec_maskAdd.calls (k : Nat) (P0_ : Nat → Prop) (u9000_ : Value) (l0 : List (S74)) (a1 : Int) (a2 : Int) (r : List (S74)) (w0 w : World) (hB : Below w0.heap.size w0 w) (ho0 : Kd.R k74 74 w w0.heap.size P0_ u9000_ l0) (h : spec_maskAdd.f k l0 a1 a2 = some r) :
    Calls Try.prog 47 #[u9000_, .int .u32 a1, .int .u16 a2] w fun e w' => ∃ v0_ : Value, e = .returned (v0_) ∧ Kd.R k74 74 w' w0.heap.size (fun k_ => (P0_ k_ ∨ w.heap.size ≤ k_)) v0_ r ∧ Below w0.heap.size w0 w' ∧ Kept w w' (fun k_ => P0_ k_) := by
  have hu74 := Try.underlying74
  have HO0 := Aside0.mk (show Kd.R k74 74 w w0.heap.size (fun k_ => (P0_ k_ ∨ w.heap.size ≤ k_)) u9000_ l0 from Kd.R_mono ho0 (fun k_ hk => (.inl hk)))
  have HK := Aside0.mk (Kept.refl w (fun k_ => P0_ k_))
  have HW0 := Aside0.mk hB.size
  have HB := Aside0.mk hB
  clear hB
  have H : (if a2 = 0 then (some l0) else (spec_maskAdd.l0 k l0 a1 a2 ([] : List (S74)) false 0)) = some r := h
  clear h
  by_cases c4 : a2 = 0
  · rw [if_pos c4] at H
    have c4b0 : (a2 == 0) = true := beq_iff_eq.mpr c4
    have c4b1 : (a2 != 0) = false := bne_eq_false_iff_eq.mpr c4
    clear c4
    obtain rfl := Option.some.inj H
    go_enter Try.func47, Try.ntmps47
    go_wp2
    go_ret
    exact ⟨_, by first | rfl | (simp [errW_none, errW_some] <;> rfl) | (simp [*, errW_none, errW_some] <;> rfl), by (with_reducible repeat (first | apply Kd.R_alloc | apply Kd.R_drewN | apply Kd.R_drew)); exact HO0.out, by repeat (first | (with_reducible first | exact HB.out | apply below_alloc | apply pw_below_drewN | apply below_drew1) | exact HB.out), by repeat (first | (with_reducible first | exact HK.out | apply Kept.alloc | apply Kept.drewN | apply Kept.drew) | exact HK.out)⟩
  · rw [if_neg c4] at H
    have c4b0 : (a2 == 0) = false := beq_eq_false_iff_ne.mpr c4
    have c4b1 : (a2 != 0) = true := bne_iff_ne.mpr c4
    have H' := Aside0.mk H
    clear H
    go_enter Try.func47, Try.ntmps47
    go_wp2
    go_loopg [7, 8, 9] k (fun kq v7 v8 v9 w' => ∃ (x7_1 : List (S74)) (x8_1 : Bool) (x9_1 : Int), v8 = .bool x8_1 ∧ v9 = .int .i64 x9_1 ∧ Aside0 (spec_maskAdd.l0 kq l0 a1 a2 x7_1 x8_1 x9_1 = some r) ∧ Aside0 (kq ≤ k) ∧ Aside0 (Kd.R k74 74 w' w0.heap.size (fun k_ => (P0_ k_ ∨ w.heap.size ≤ k_) ∧ some k_ ≠ (v7 : Value).ownBlock) u9000_ l0) ∧ Aside0 (Kd.R k74 74 w' w0.heap.size (fun k_ => (P0_ k_ ∨ w.heap.size ≤ k_) ∧ some k_ ≠ (u9000_ : Value).ownBlock) v7 x7_1) ∧ Aside0 (Kept w w' (fun k_ => P0_ k_)) ∧ Aside0 (Below w0.heap.size w0 w'))
    case atStart => exact ⟨(([] : List (S74))), (false), (0), (by first | rfl | (simp; done) | (simp [*]; done)), (by first | rfl | (simp; done) | (simp [*]; done)), H', ⟨Nat.le_refl _⟩, ⟨by (with_reducible repeat (first | apply Kd.R_alloc | apply Kd.R_drewN | apply Kd.R_drew)); exact Kd.R_mono HO0.out (fun _ hk => ⟨hk, (by simp [Value.ownBlock])⟩)⟩, ⟨by first | exact Kd.R_nil _ _ _ _ _ | exact Kd.N_nil _ _ _ _ _ | exact Kd.V_nil _ _ _ _ _ | exact Kd.Q_nil _ _ _ _ _ | exact Kd.S_nil _ _ _ _ _⟩, ⟨by repeat (first | (with_reducible first | exact HK.out | apply Kept.alloc | apply Kept.drewN | apply Kept.drew) | exact HK.out)⟩, ⟨by repeat (first | (with_reducible first | exact HB.out | apply below_alloc | apply pw_below_drewN | apply below_drew1) | exact HB.out)⟩⟩
    case round =>
      clear H'
      try clear p2
      try clear c4
      try clear c4b0
      try clear c4b1
      obtain ⟨x7_1, x8_1, x9_1, rfl, rfl, HA, HK1, HO_0, HO_7, HK, HB⟩ := hrel
      cases gk with
      | zero => exact absurd HA.out (by simp [spec_maskAdd.l0])
      | succ k1 =>
        have H := HA.out
        clear HA
        simp only [spec_maskAdd.l0] at H
        by_cases c5 : x9_1 < (l0.length : Int)
        · rw [if_pos c5] at H
          have c5b0 : decide (x9_1 < (l0.length : Int)) = true := decide_eq_true c5
          clear c5
          have HC6 := Aside0.mk H
          clear H
          obtain ⟨Ao7, co7, eo7⟩ := Kd.R_slice HO_0.out
          subst eo7
          go_upto_region 8 with (fail)
          go_cut [29] (fun v29 wc => ∃ (kq : Nat) (x29_5 : Bool), v29 = .bool x29_5 ∧ Aside0 (spec_maskAdd.j1 kq l0 a1 a2 x7_1 x8_1 x9_1 x29_5 = some r) ∧ Aside0 (kq ≤ k1) ∧ Aside0 (Kd.R k74 74 wc w0.heap.size (fun k_ => (P0_ k_ ∨ w.heap.size ≤ k_) ∧ some k_ ≠ (u7 : Value).ownBlock) (.slice Ao7 l0.length co7) l0) ∧ Aside0 (Kd.R k74 74 wc w0.heap.size (fun k_ => (P0_ k_ ∨ w.heap.size ≤ k_) ∧ some k_ ≠ ((.slice Ao7 l0.length co7) : Value).ownBlock) u7 x7_1) ∧ Aside0 (Kept w wc (fun k_ => P0_ k_)) ∧ Aside0 (Below w0.heap.size w0 wc))
          case first =>
            have H := HC6.out
            clear HC6
            by_cases c8 : x8_1 = true
            · subst c8
              have H1 : (spec_maskAdd.j1 k1 l0 a1 a2 x7_1 true x9_1 false) = some r := by rw [if_pos rfl] at H; exact H
              clear H
              have H := H1
              clear H1
              have H' := Aside0.mk H
              clear H
              go_wp2
              go_meet
              case rel => exact ⟨_, (false), (by first | rfl | (simp; done) | (simp [*]; done)), H', ⟨by have := HK1.out; first | omega | exact Nat.le_refl _⟩, ⟨by (with_reducible repeat (first | apply Kd.R_alloc | apply Kd.R_drewN | apply Kd.R_drew)); exact HO_0.out⟩, ⟨by (with_reducible repeat (first | apply Kd.R_alloc | apply Kd.R_drewN | apply Kd.R_drew)); exact HO_7.out⟩, ⟨by repeat (first | (with_reducible first | exact HK.out | apply Kept.alloc | apply Kept.drewN | apply Kept.drew) | exact HK.out)⟩, ⟨by repeat (first | (with_reducible first | exact HB.out | apply below_alloc | apply pw_below_drewN | apply below_drew1) | exact HB.out)⟩⟩
            · replace c8 := Bool.eq_false_iff.mpr c8
              subst c8
              have H1 : (if 0 ≤ x9_1 then (spec_maskAdd.j1 k1 l0 a1 a2 x7_1 false x9_1 (decide (((rd_T74 l0 x9_1).f0) ≥ a1))) else (none)) = some r := by rw [if_neg (show ¬ (false = true) by decide)] at H; exact H
              clear H
              have H := H1
              clear H1
              by_cases c9 : 0 ≤ x9_1
              · rw [if_pos c9] at H
                have c9b0 : decide (0 ≤ x9_1) = true := decide_eq_true c9
                clear c9
                (first | rw [c9b0] | (simp only [i64_w, i32_w]; rw [c9b0]) | skip)
                have H' := Aside0.mk H
                clear H
                have p108 : 0 ≤ (x9_1 : Int) := of_decide_eq_true (by first | (with_reducible assumption) | assumption)
                have q108 : x9_1 < (l0.length : Int) := of_decide_eq_true (by first | (with_reducible assumption) | assumption)
                obtain ⟨ad108, e108, hx108_0, hx108_1⟩ := at_T74 (Kd.R_reads' HO_0.out).2.2 x9_1 p108 q108
                cases e108
                replace p108 := eq_true p108
                replace q108 := eq_true q108
                go_wp2
                go_meet
                case rel => exact ⟨_, (decide (((rd_T74 l0 x9_1).f0) ≥ a1)), (by first | rfl | (simp; done) | (simp [*]; done)), H', ⟨by have := HK1.out; first | omega | exact Nat.le_refl _⟩, ⟨by (with_reducible repeat (first | apply Kd.R_alloc | apply Kd.R_drewN | apply Kd.R_drew)); exact HO_0.out⟩, ⟨by (with_reducible repeat (first | apply Kd.R_alloc | apply Kd.R_drewN | apply Kd.R_drew)); exact HO_7.out⟩, ⟨by repeat (first | (with_reducible first | exact HK.out | apply Kept.alloc | apply Kept.drewN | apply Kept.drew) | exact HK.out)⟩, ⟨by repeat (first | (with_reducible first | exact HB.out | apply below_alloc | apply pw_below_drewN | apply below_drew1) | exact HB.out)⟩⟩
              · rw [if_neg c9] at H
                exact absurd H (by simp)
          case rest =>
            clear HC6
            try clear p1
            try clear q1
            try clear hx1
            try clear p2
            try clear c4
            try clear c4b0
            try clear c4b1
            try clear c5
            try clear c5b0
            try clear c8
            try clear c9
            try clear c9b0
            try clear hx108_0
            try clear hx108_1
            try clear p108
            try clear p2
            try clear q108
            obtain ⟨kq, x29_5, rfl, HA, HJ5, HO_0, HO_7, HK, HB⟩ := hcut
            cases kq with
            | zero => exact absurd HA.out (by simp [spec_maskAdd.j1])
            | succ kj5 =>
              have H := HA.out
              clear HA
              simp only [spec_maskAdd.j1] at H
              by_cases c10 : x29_5 = true
              · subst c10
                have H1 : (if 0 ≤ x9_1 then (if x9_1 < (l0.length : Int) then (if ((rd_T74 l0 x9_1).f0) = a1 then (if x7_1.length < 17592186044416 then (spec_maskAdd.l0 kj5 l0 a1 a2 (x7_1 ++ [(⟨a1, Go.bits .or .u16 ((rd_T74 l0 x9_1).f1) a2⟩ : S74)]) true (wrap64 (x9_1 + 1))) else (none)) else (if x7_1.length < 17592186044416 then ((some (x7_1 ++ [(⟨a1, a2⟩ : S74)] : List (S74))).bind fun y114 => (if y114.length < 17592186044416 then (spec_maskAdd.l0 kj5 l0 a1 a2 (y114 ++ [(⟨(rd_T74 l0 x9_1).f0, (rd_T74 l0 x9_1).f1⟩ : S74)]) true (wrap64 (x9_1 + 1))) else (none))) else (none))) else (none)) else (none)) = some r := by rw [if_pos rfl] at H; exact H
                clear H
                have H := H1
                clear H1
                by_cases c11 : 0 ≤ x9_1
                · rw [if_pos c11] at H
                  have c11b0 : decide (0 ≤ x9_1) = true := decide_eq_true c11
                  clear c11
                  by_cases c12 : x9_1 < (l0.length : Int)
                  · rw [if_pos c12] at H
                    have c12b0 : decide (x9_1 < (l0.length : Int)) = true := decide_eq_true c12
                    clear c12
                    by_cases c13 : ((rd_T74 l0 x9_1).f0) = a1
                    · rw [if_pos c13] at H
                      have c13b0 : (((rd_T74 l0 x9_1).f0) == a1) = true := beq_iff_eq.mpr c13
                      have c13b1 : (((rd_T74 l0 x9_1).f0) != a1) = false := bne_eq_false_iff_eq.mpr c13
                      clear c13
                      by_cases c14 : x7_1.length < 17592186044416
                      · rw [if_pos c14] at H
                        have LMc14 := Aside0.mk c14
                        clear c14
                        obtain ⟨y111, hy111⟩ : ∃ y_ : List (S74), y_ = (x7_1 ++ [(⟨a1, Go.bits .or .u16 ((rd_T74 l0 x9_1).f1) a2⟩ : S74)]) := ⟨_, rfl⟩
                        replace H : (spec_maskAdd.l0 kj5 l0 a1 a2 y111 true (wrap64 (x9_1 + 1))) = some r := by first | (rw [hy111]; with_reducible exact H) | (have H2_ := (Option.bind_some _ _).symm.trans H; rw [hy111]; with_reducible exact H2_) | (have H2_ := (Option.bind_some _ _).symm.trans H; with_reducible exact H2_) | with_reducible exact H | (rw [hy111]; exact H) | exact H
                        have Ny111 := Aside0.mk hy111
                        clear hy111
                        have H' := Aside0.mk H
                        clear H
                        have p109 : 0 ≤ (x9_1 : Int) := of_decide_eq_true (by first | (with_reducible assumption) | assumption)
                        have q109 : x9_1 < (l0.length : Int) := of_decide_eq_true (by first | (with_reducible assumption) | assumption)
                        obtain ⟨ad109, e109, hx109_0, hx109_1⟩ := at_T74 (Kd.R_reads' HO_0.out).2.2 x9_1 p109 q109
                        cases e109
                        replace p109 := eq_true p109
                        replace q109 := eq_true q109
                        have p110 : 0 ≤ (x9_1 : Int) := of_decide_eq_true (by first | (with_reducible assumption) | assumption)
                        have q110 : x9_1 < (l0.length : Int) := of_decide_eq_true (by first | (with_reducible assumption) | assumption)
                        obtain ⟨ad110, e110, hx110_0, hx110_1⟩ := at_T74 (Kd.R_reads' HO_0.out).2.2 x9_1 p110 q110
                        obtain rfl : ad109 = ad110 := (by injection e110)
                        replace p110 := eq_true p110
                        replace q110 := eq_true q110
                        go_wp2_with (first | ((with_reducible refine gate_builtin (b := .append) (xs := #[.tmp 37, .tmp 47]) rfl ?_); at_builtin; refine Kd.R_append k74 (w0 := w0) w0.heap.size rfl (.tmp 37) (.tmp 47) 32 74 (.agg #[(.int .u32 0), (.int .u16 0)]) 8 rfl Try.underlying32 info74 rfl (by decide) (by omega) u7 x7_1 (⟨a1, Go.bits .or .u16 ((rd_T74 l0 x9_1).f1) a2⟩ : S74) [.int .u32 a1, .int .u16 (Go.bits .or .u16 ((rd_T74 l0 x9_1).f1) a2)] (fun k_ => (P0_ k_ ∨ w.heap.size ≤ k_) ∧ some k_ ≠ (.slice (some ad109) l0.length co7 : Value).ownBlock) (fun _ => False) rfl rfl ?aP (fun _ hk => hk.elim) ?aF ?aO ?aB ?aS ?aL ?_; (case aP => exact k74_mkM _ _ _ (⟨a1, Go.bits .or .u16 ((rd_T74 l0 x9_1).f1) a2⟩ : S74)); (case aB => exact (by repeat (first | (with_reducible first | exact HB.out | apply below_alloc | apply pw_below_drewN | apply below_drew1) | exact HB.out))); (case aF => exact (fun k_ hk => ⟨(.inr (Nat.le_trans (by first | exact HK.out.1 | exact (show Kept w _ (fun k_ => P0_ k_) from by repeat (first | (with_reducible first | exact HK.out | apply Kept.alloc | apply Kept.drewN | apply Kept.drew) | exact HK.out)).1) hk)), Kd.fresh' (Kd.R_lt (by (with_reducible repeat (first | apply Kd.R_alloc | apply Kd.R_drewN | apply Kd.R_drew)); exact HO_0.out)) k_ hk⟩)); (case aO => exact (by (with_reducible repeat (first | apply Kd.R_alloc | apply Kd.R_drewN | apply Kd.R_drew)); exact HO_7.out)); (case aS => exact (below_size (by repeat (first | (with_reducible first | exact HB.out | apply below_alloc | apply pw_below_drewN | apply below_drew1) | exact HB.out)))); (case aL => have := LMc14.out; omega); intro v112 w15 ho hb hg hat; rw [← Ny111.out] at ho; have n0_ := Aside0.mk (Kd.R_after (ok := (fun k_ => (P0_ k_ ∨ w.heap.size ≤ k_))) (by (with_reducible repeat (first | apply Kd.R_alloc | apply Kd.R_drewN | apply Kd.R_drew)); exact HO_0.out) hg hat); have n1_ := Aside0.mk (hb); have n2_ := Aside0.mk (Kept.of_grown (S := (fun k_ => P0_ k_)) hg (by repeat (first | (with_reducible first | exact HK.out | apply Kept.alloc | apply Kept.drewN | apply Kept.drew) | exact HK.out)) (fun k_ e_ => (HO_7.out.1 k_ e_).1)); have n3_ := Aside0.mk (ho); clear HO_0; clear HB; clear HK; clear HO_7; have HO_0 := n0_; have HB := n1_; have HK := n2_; have HO113 := n3_; clear n0_ n1_ n2_ n3_; clear ho hb hg hat))
                        go_roundg kj5
                        case measure => have := HK1.out; have := HJ5.out; omega
                        case rel => exact ⟨(y111), (true), (wrap64 (x9_1 + 1)), (by first | rfl | (simp; done) | (simp [*]; done)), (by first | rfl | (simp; done) | (simp [*]; done)), H', ⟨by have := HK1.out; have := HJ5.out; omega⟩, ⟨by (with_reducible repeat (first | apply Kd.R_alloc | apply Kd.R_drewN | apply Kd.R_drew)); exact HO_0.out⟩, ⟨by (with_reducible repeat (first | apply Kd.R_alloc | apply Kd.R_drewN | apply Kd.R_drew)); exact HO113.out⟩, ⟨by repeat (first | (with_reducible first | exact HK.out | apply Kept.alloc | apply Kept.drewN | apply Kept.drew) | exact HK.out)⟩, ⟨by repeat (first | (with_reducible first | exact HB.out | apply below_alloc | apply pw_below_drewN | apply below_drew1) | exact HB.out)⟩⟩
                      · rw [if_neg c14] at H
                        exact absurd H (by simp)
                    · rw [if_neg c13] at H
                      have c13b0 : (((rd_T74 l0 x9_1).f0) == a1) = false := beq_eq_false_iff_ne.mpr c13
                      have c13b1 : (((rd_T74 l0 x9_1).f0) != a1) = true := bne_iff_ne.mpr c13
                      by_cases c16 : x7_1.length < 17592186044416
                      · rw [if_pos c16] at H
                        have LMc16 := Aside0.mk c16
                        clear c16
                        obtain ⟨y114, hy114⟩ : ∃ y_ : List (S74), y_ = (x7_1 ++ [(⟨a1, a2⟩ : S74)]) := ⟨_, rfl⟩
                        replace H : (if y114.length < 17592186044416 then (spec_maskAdd.l0 kj5 l0 a1 a2 (y114 ++ [(⟨(rd_T74 l0 x9_1).f0, (rd_T74 l0 x9_1).f1⟩ : S74)]) true (wrap64 (x9_1 + 1))) else (none)) = some r := by first | (rw [hy114]; with_reducible exact H) | (have H2_ := (Option.bind_some _ _).symm.trans H; rw [hy114]; with_reducible exact H2_) | (have H2_ := (Option.bind_some _ _).symm.trans H; with_reducible exact H2_) | with_reducible exact H | (rw [hy114]; exact H) | exact H
                        have Ny114 := Aside0.mk hy114
                        clear hy114
                        by_cases c17 : y114.length < 17592186044416
                        · rw [if_pos c17] at H
                          have LMc17 := Aside0.mk c17
                          clear c17
                          obtain ⟨y118, hy118⟩ : ∃ y_ : List (S74), y_ = (y114 ++ [(⟨(rd_T74 l0 x9_1).f0, (rd_T74 l0 x9_1).f1⟩ : S74)]) := ⟨_, rfl⟩
                          replace H : (spec_maskAdd.l0 kj5 l0 a1 a2 y118 true (wrap64 (x9_1 + 1))) = some r := by first | (rw [hy118]; with_reducible exact H) | (have H2_ := (Option.bind_some _ _).symm.trans H; rw [hy118]; with_reducible exact H2_) | (have H2_ := (Option.bind_some _ _).symm.trans H; with_reducible exact H2_) | with_reducible exact H | (rw [hy118]; exact H) | exact H
                          have Ny118 := Aside0.mk hy118
                          clear hy118
                          have H' := Aside0.mk H
                          clear H
                          have p109 : 0 ≤ (x9_1 : Int) := of_decide_eq_true (by first | (with_reducible assumption) | assumption)
                          have q109 : x9_1 < (l0.length : Int) := of_decide_eq_true (by first | (with_reducible assumption) | assumption)
                          obtain ⟨ad109, e109, hx109_0, hx109_1⟩ := at_T74 (Kd.R_reads' HO_0.out).2.2 x9_1 p109 q109
                          cases e109
                          replace p109 := eq_true p109
                          replace q109 := eq_true q109
                          go_wp2_with (first | ((with_reducible refine gate_builtin (b := .append) (xs := #[.tmp 49, .tmp 53]) rfl ?_); at_builtin; refine Kd.R_append k74 (w0 := w0) w0.heap.size rfl (.tmp 49) (.tmp 53) 32 74 (.agg #[(.int .u32 0), (.int .u16 0)]) 8 rfl Try.underlying32 info74 rfl (by decide) (by omega) u7 x7_1 (⟨a1, a2⟩ : S74) [.int .u32 a1, .int .u16 a2] (fun k_ => (P0_ k_ ∨ w.heap.size ≤ k_) ∧ some k_ ≠ (.slice (some ad109) l0.length co7 : Value).ownBlock) (fun _ => False) rfl rfl ?aP (fun _ hk => hk.elim) ?aF ?aO ?aB ?aS ?aL ?_; (case aP => exact k74_mkM _ _ _ (⟨a1, a2⟩ : S74)); (case aB => exact (by repeat (first | (with_reducible first | exact HB.out | apply below_alloc | apply pw_below_drewN | apply below_drew1) | exact HB.out))); (case aF => exact (fun k_ hk => ⟨(.inr (Nat.le_trans (by first | exact HK.out.1 | exact (show Kept w _ (fun k_ => P0_ k_) from by repeat (first | (with_reducible first | exact HK.out | apply Kept.alloc | apply Kept.drewN | apply Kept.drew) | exact HK.out)).1) hk)), Kd.fresh' (Kd.R_lt (by (with_reducible repeat (first | apply Kd.R_alloc | apply Kd.R_drewN | apply Kd.R_drew)); exact HO_0.out)) k_ hk⟩)); (case aO => exact (by (with_reducible repeat (first | apply Kd.R_alloc | apply Kd.R_drewN | apply Kd.R_drew)); exact HO_7.out)); (case aS => exact (below_size (by repeat (first | (with_reducible first | exact HB.out | apply below_alloc | apply pw_below_drewN | apply below_drew1) | exact HB.out)))); (case aL => have := LMc16.out; omega); intro v115 w18 ho hb hg hat; rw [← Ny114.out] at ho; have n0_ := Aside0.mk (Kd.R_after (ok := (fun k_ => (P0_ k_ ∨ w.heap.size ≤ k_))) (by (with_reducible repeat (first | apply Kd.R_alloc | apply Kd.R_drewN | apply Kd.R_drew)); exact HO_0.out) hg hat); have n1_ := Aside0.mk (hb); have n2_ := Aside0.mk (Kept.of_grown (S := (fun k_ => P0_ k_)) hg (by repeat (first | (with_reducible first | exact HK.out | apply Kept.alloc | apply Kept.drewN | apply Kept.drew) | exact HK.out)) (fun k_ e_ => (HO_7.out.1 k_ e_).1)); have n3_ := Aside0.mk (ho); clear HO_0; clear HB; clear HK; clear HO_7; have HO_0 := n0_; have HB := n1_; have HK := n2_; have HO116 := n3_; clear n0_ n1_ n2_ n3_; clear ho hb hg hat; have p117 : 0 ≤ (x9_1 : Int) := of_decide_eq_true (by first | (with_reducible assumption) | assumption); have q117 : x9_1 < (l0.length : Int) := of_decide_eq_true (by first | (with_reducible assumption) | assumption); obtain ⟨ad117, e117, hx117_0, hx117_1⟩ := at_T74 (Kd.R_reads' HO_0.out).2.2 x9_1 p117 q117; obtain rfl : ad109 = ad117 := (by injection e117); replace p117 := eq_true p117; replace q117 := eq_true q117) | ((with_reducible refine gate_builtin (b := .append) (xs := #[.tmp 55, .tmp 60]) rfl ?_); at_builtin; refine Kd.R_append k74 (w0 := w0) w0.heap.size rfl (.tmp 55) (.tmp 60) 32 74 (.agg #[(.int .u32 0), (.int .u16 0)]) 8 rfl Try.underlying32 info74 rfl (by decide) (by omega) v115 y114 (⟨(rd_T74 l0 x9_1).f0, (rd_T74 l0 x9_1).f1⟩ : S74) [.int .u32 ((rd_T74 l0 x9_1).f0), .int .u16 ((rd_T74 l0 x9_1).f1)] (fun k_ => (P0_ k_ ∨ w.heap.size ≤ k_) ∧ some k_ ≠ (.slice (some ad109) l0.length co7 : Value).ownBlock) (fun _ => False) rfl rfl ?aP (fun _ hk => hk.elim) ?aF ?aO ?aB ?aS ?aL ?_; (case aP => exact k74_mkM _ _ _ (⟨(rd_T74 l0 x9_1).f0, (rd_T74 l0 x9_1).f1⟩ : S74)); (case aB => exact (by repeat (first | (with_reducible first | exact HB.out | apply below_alloc | apply pw_below_drewN | apply below_drew1) | exact HB.out))); (case aF => exact (fun k_ hk => ⟨(.inr (Nat.le_trans (by first | exact HK.out.1 | exact (show Kept w _ (fun k_ => P0_ k_) from by repeat (first | (with_reducible first | exact HK.out | apply Kept.alloc | apply Kept.drewN | apply Kept.drew) | exact HK.out)).1) hk)), Kd.fresh' (Kd.R_lt (by (with_reducible repeat (first | apply Kd.R_alloc | apply Kd.R_drewN | apply Kd.R_drew)); exact HO_0.out)) k_ hk⟩)); (case aO => exact (by (with_reducible repeat (first | apply Kd.R_alloc | apply Kd.R_drewN | apply Kd.R_drew)); exact HO116.out)); (case aS => exact (below_size (by repeat (first | (with_reducible first | exact HB.out | apply below_alloc | apply pw_below_drewN | apply below_drew1) | exact HB.out)))); (case aL => have := LMc17.out; omega); intro v119 w19 ho hb hg hat; rw [← Ny118.out] at ho; have n0_ := Aside0.mk (Kd.R_after (ok := (fun k_ => (P0_ k_ ∨ w.heap.size ≤ k_))) (by (with_reducible repeat (first | apply Kd.R_alloc | apply Kd.R_drewN | apply Kd.R_drew)); exact HO_0.out) hg hat); have n1_ := Aside0.mk (hb); have n2_ := Aside0.mk (Kept.of_grown (S := (fun k_ => P0_ k_)) hg (by repeat (first | (with_reducible first | exact HK.out | apply Kept.alloc | apply Kept.drewN | apply Kept.drew) | exact HK.out)) (fun k_ e_ => (HO116.out.1 k_ e_).1)); have n3_ := Aside0.mk (ho); clear HO_0; clear HB; clear HK; clear HO116; have HO_0 := n0_; have HB := n1_; have HK := n2_; have HO120 := n3_; clear n0_ n1_ n2_ n3_; clear ho hb hg hat))
                          go_roundg kj5
                          case measure => have := HK1.out; have := HJ5.out; omega
                          case rel => exact ⟨(y118), (true), (wrap64 (x9_1 + 1)), (by first | rfl | (simp; done) | (simp [*]; done)), (by first | rfl | (simp; done) | (simp [*]; done)), H', ⟨by have := HK1.out; have := HJ5.out; omega⟩, ⟨by (with_reducible repeat (first | apply Kd.R_alloc | apply Kd.R_drewN | apply Kd.R_drew)); exact HO_0.out⟩, ⟨by (with_reducible repeat (first | apply Kd.R_alloc | apply Kd.R_drewN | apply Kd.R_drew)); exact HO120.out⟩, ⟨by repeat (first | (with_reducible first | exact HK.out | apply Kept.alloc | apply Kept.drewN | apply Kept.drew) | exact HK.out)⟩, ⟨by repeat (first | (with_reducible first | exact HB.out | apply below_alloc | apply pw_below_drewN | apply below_drew1) | exact HB.out)⟩⟩
                        · rw [if_neg c17] at H
                          exact absurd H (by simp)
                      · rw [if_neg c16] at H
                        exact absurd H (by simp)
                  · rw [if_neg c12] at H
                    exact absurd H (by simp)
                · rw [if_neg c11] at H
                  exact absurd H (by simp)
              · replace c10 := Bool.eq_false_iff.mpr c10
                subst c10
                have H1 : (if 0 ≤ x9_1 then (if x9_1 < (l0.length : Int) then (if x7_1.length < 17592186044416 then (spec_maskAdd.l0 kj5 l0 a1 a2 (x7_1 ++ [(⟨(rd_T74 l0 x9_1).f0, (rd_T74 l0 x9_1).f1⟩ : S74)]) x8_1 (wrap64 (x9_1 + 1))) else (none)) else (none)) else (none)) = some r := by rw [if_neg (show ¬ (false = true) by decide)] at H; exact H
                clear H
                have H := H1
                clear H1
                by_cases c20 : 0 ≤ x9_1
                · rw [if_pos c20] at H
                  have c20b0 : decide (0 ≤ x9_1) = true := decide_eq_true c20
                  clear c20
                  by_cases c21 : x9_1 < (l0.length : Int)
                  · rw [if_pos c21] at H
                    have c21b0 : decide (x9_1 < (l0.length : Int)) = true := decide_eq_true c21
                    clear c21
                    by_cases c22 : x7_1.length < 17592186044416
                    · rw [if_pos c22] at H
                      have LMc22 := Aside0.mk c22
                      clear c22
                      obtain ⟨y122, hy122⟩ : ∃ y_ : List (S74), y_ = (x7_1 ++ [(⟨(rd_T74 l0 x9_1).f0, (rd_T74 l0 x9_1).f1⟩ : S74)]) := ⟨_, rfl⟩
                      replace H : (spec_maskAdd.l0 kj5 l0 a1 a2 y122 x8_1 (wrap64 (x9_1 + 1))) = some r := by first | (rw [hy122]; with_reducible exact H) | (have H2_ := (Option.bind_some _ _).symm.trans H; rw [hy122]; with_reducible exact H2_) | (have H2_ := (Option.bind_some _ _).symm.trans H; with_reducible exact H2_) | with_reducible exact H | (rw [hy122]; exact H) | exact H
                      have Ny122 := Aside0.mk hy122
                      clear hy122
                      have H' := Aside0.mk H
                      clear H
                      have p121 : 0 ≤ (x9_1 : Int) := of_decide_eq_true (by first | (with_reducible assumption) | assumption)
                      have q121 : x9_1 < (l0.length : Int) := of_decide_eq_true (by first | (with_reducible assumption) | assumption)
                      obtain ⟨ad121, e121, hx121_0, hx121_1⟩ := at_T74 (Kd.R_reads' HO_0.out).2.2 x9_1 p121 q121
                      cases e121
                      replace p121 := eq_true p121
                      replace q121 := eq_true q121
                      go_wp2_with (first | ((with_reducible refine gate_builtin (b := .append) (xs := #[.tmp 55, .tmp 60]) rfl ?_); at_builtin; refine Kd.R_append k74 (w0 := w0) w0.heap.size rfl (.tmp 55) (.tmp 60) 32 74 (.agg #[(.int .u32 0), (.int .u16 0)]) 8 rfl Try.underlying32 info74 rfl (by decide) (by omega) u7 x7_1 (⟨(rd_T74 l0 x9_1).f0, (rd_T74 l0 x9_1).f1⟩ : S74) [.int .u32 ((rd_T74 l0 x9_1).f0), .int .u16 ((rd_T74 l0 x9_1).f1)] (fun k_ => (P0_ k_ ∨ w.heap.size ≤ k_) ∧ some k_ ≠ (.slice (some ad121) l0.length co7 : Value).ownBlock) (fun _ => False) rfl rfl ?aP (fun _ hk => hk.elim) ?aF ?aO ?aB ?aS ?aL ?_; (case aP => exact k74_mkM _ _ _ (⟨(rd_T74 l0 x9_1).f0, (rd_T74 l0 x9_1).f1⟩ : S74)); (case aB => exact (by repeat (first | (with_reducible first | exact HB.out | apply below_alloc | apply pw_below_drewN | apply below_drew1) | exact HB.out))); (case aF => exact (fun k_ hk => ⟨(.inr (Nat.le_trans (by first | exact HK.out.1 | exact (show Kept w _ (fun k_ => P0_ k_) from by repeat (first | (with_reducible first | exact HK.out | apply Kept.alloc | apply Kept.drewN | apply Kept.drew) | exact HK.out)).1) hk)), Kd.fresh' (Kd.R_lt (by (with_reducible repeat (first | apply Kd.R_alloc | apply Kd.R_drewN | apply Kd.R_drew)); exact HO_0.out)) k_ hk⟩)); (case aO => exact (by (with_reducible repeat (first | apply Kd.R_alloc | apply Kd.R_drewN | apply Kd.R_drew)); exact HO_7.out)); (case aS => exact (below_size (by repeat (first | (with_reducible first | exact HB.out | apply below_alloc | apply pw_below_drewN | apply below_drew1) | exact HB.out)))); (case aL => have := LMc22.out; omega); intro v123 w23 ho hb hg hat; rw [← Ny122.out] at ho; have n0_ := Aside0.mk (Kd.R_after (ok := (fun k_ => (P0_ k_ ∨ w.heap.size ≤ k_))) (by (with_reducible repeat (first | apply Kd.R_alloc | apply Kd.R_drewN | apply Kd.R_drew)); exact HO_0.out) hg hat); have n1_ := Aside0.mk (hb); have n2_ := Aside0.mk (Kept.of_grown (S := (fun k_ => P0_ k_)) hg (by repeat (first | (with_reducible first | exact HK.out | apply Kept.alloc | apply Kept.drewN | apply Kept.drew) | exact HK.out)) (fun k_ e_ => (HO_7.out.1 k_ e_).1)); have n3_ := Aside0.mk (ho); clear HO_0; clear HB; clear HK; clear HO_7; have HO_0 := n0_; have HB := n1_; have HK := n2_; have HO124 := n3_; clear n0_ n1_ n2_ n3_; clear ho hb hg hat))
                      go_roundg kj5
                      case measure => have := HK1.out; have := HJ5.out; omega
                      case rel => exact ⟨(y122), (x8_1), (wrap64 (x9_1 + 1)), (by first | rfl | (simp; done) | (simp [*]; done)), (by first | rfl | (simp; done) | (simp [*]; done)), H', ⟨by have := HK1.out; have := HJ5.out; omega⟩, ⟨by (with_reducible repeat (first | apply Kd.R_alloc | apply Kd.R_drewN | apply Kd.R_drew)); exact HO_0.out⟩, ⟨by (with_reducible repeat (first | apply Kd.R_alloc | apply Kd.R_drewN | apply Kd.R_drew)); exact HO124.out⟩, ⟨by repeat (first | (with_reducible first | exact HK.out | apply Kept.alloc | apply Kept.drewN | apply Kept.drew) | exact HK.out)⟩, ⟨by repeat (first | (with_reducible first | exact HB.out | apply below_alloc | apply pw_below_drewN | apply below_drew1) | exact HB.out)⟩⟩
                    · rw [if_neg c22] at H
                      exact absurd H (by simp)
                  · rw [if_neg c21] at H
                    exact absurd H (by simp)
                · rw [if_neg c20] at H
                  exact absurd H (by simp)
        · rw [if_neg c5] at H
          have c5b0 : decide (x9_1 < (l0.length : Int)) = false := decide_eq_false c5
          clear c5
          by_cases c24 : x8_1 = true
          · subst c24
            have H1 : (some x7_1) = some r := by rw [if_pos rfl] at H; exact H
            clear H
            have H := H1
            clear H1
            obtain rfl := Option.some.inj H
            obtain ⟨Ao25, co25, eo25⟩ := Kd.R_slice HO_0.out
            subst eo25
            go_wp2
            go_ret
            exact ⟨_, by first | rfl | (simp [errW_none, errW_some] <;> rfl) | (simp [*, errW_none, errW_some] <;> rfl), by (with_reducible repeat (first | apply Kd.R_alloc | apply Kd.R_drewN | apply Kd.R_drew)); exact Kd.R_mono HO_7.out (fun _ hk => hk.1), by repeat (first | (with_reducible first | exact HB.out | apply below_alloc | apply pw_below_drewN | apply below_drew1) | exact HB.out), by repeat (first | (with_reducible first | exact HK.out | apply Kept.alloc | apply Kept.drewN | apply Kept.drew) | exact HK.out)⟩
          · replace c24 := Bool.eq_false_iff.mpr c24
            subst c24
            have H1 : (if x7_1.length < 17592186044416 then (some (x7_1 ++ [(⟨a1, a2⟩ : S74)])) else (none)) = some r := by rw [if_neg (show ¬ (false = true) by decide)] at H; exact H
            clear H
            have H := H1
            clear H1
            by_cases c26 : x7_1.length < 17592186044416
            · rw [if_pos c26] at H
              have LMc26 := Aside0.mk c26
              clear c26
              obtain ⟨y105, hy105⟩ : ∃ y_ : List (S74), y_ = (x7_1 ++ [(⟨a1, a2⟩ : S74)]) := ⟨_, rfl⟩
              replace H : (some y105) = some r := by first | (rw [hy105]; with_reducible exact H) | (have H2_ := (Option.bind_some _ _).symm.trans H; rw [hy105]; with_reducible exact H2_) | (have H2_ := (Option.bind_some _ _).symm.trans H; with_reducible exact H2_) | with_reducible exact H | (rw [hy105]; exact H) | exact H
              have Ny105 := Aside0.mk hy105
              clear hy105
              obtain rfl := Option.some.inj H
              obtain ⟨Ao27, co27, eo27⟩ := Kd.R_slice HO_0.out
              subst eo27
              go_wp2_with (first | ((with_reducible refine gate_builtin (b := .append) (xs := #[.tmp 64, .tmp 68]) rfl ?_); at_builtin; refine Kd.R_append k74 (w0 := w0) w0.heap.size rfl (.tmp 64) (.tmp 68) 32 74 (.agg #[(.int .u32 0), (.int .u16 0)]) 8 rfl Try.underlying32 info74 rfl (by decide) (by omega) u7 x7_1 (⟨a1, a2⟩ : S74) [.int .u32 a1, .int .u16 a2] (fun k_ => (P0_ k_ ∨ w.heap.size ≤ k_) ∧ some k_ ≠ (.slice Ao27 l0.length co27 : Value).ownBlock) (fun _ => False) rfl rfl ?aP (fun _ hk => hk.elim) ?aF ?aO ?aB ?aS ?aL ?_; (case aP => exact k74_mkM _ _ _ (⟨a1, a2⟩ : S74)); (case aB => exact (by repeat (first | (with_reducible first | exact HB.out | apply below_alloc | apply pw_below_drewN | apply below_drew1) | exact HB.out))); (case aF => exact (fun k_ hk => ⟨(.inr (Nat.le_trans (by first | exact HK.out.1 | exact (show Kept w _ (fun k_ => P0_ k_) from by repeat (first | (with_reducible first | exact HK.out | apply Kept.alloc | apply Kept.drewN | apply Kept.drew) | exact HK.out)).1) hk)), Kd.fresh' (Kd.R_lt (by (with_reducible repeat (first | apply Kd.R_alloc | apply Kd.R_drewN | apply Kd.R_drew)); exact HO_0.out)) k_ hk⟩)); (case aO => exact (by (with_reducible repeat (first | apply Kd.R_alloc | apply Kd.R_drewN | apply Kd.R_drew)); exact HO_7.out)); (case aS => exact (below_size (by repeat (first | (with_reducible first | exact HB.out | apply below_alloc | apply pw_below_drewN | apply below_drew1) | exact HB.out)))); (case aL => have := LMc26.out; omega); intro v106 w28 ho hb hg hat; rw [← Ny105.out] at ho; have n0_ := Aside0.mk (Kd.R_after (ok := (fun k_ => (P0_ k_ ∨ w.heap.size ≤ k_))) (by (with_reducible repeat (first | apply Kd.R_alloc | apply Kd.R_drewN | apply Kd.R_drew)); exact HO_0.out) hg hat); have n1_ := Aside0.mk (hb); have n2_ := Aside0.mk (Kept.of_grown (S := (fun k_ => P0_ k_)) hg (by repeat (first | (with_reducible first | exact HK.out | apply Kept.alloc | apply Kept.drewN | apply Kept.drew) | exact HK.out)) (fun k_ e_ => (HO_7.out.1 k_ e_).1)); have n3_ := Aside0.mk (ho); clear HO_0; clear HB; clear HK; clear HO_7; have HO_0 := n0_; have HB := n1_; have HK := n2_; have HO107 := n3_; clear n0_ n1_ n2_ n3_; clear ho hb hg hat))
              go_ret
              exact ⟨_, by first | rfl | (simp [errW_none, errW_some] <;> rfl) | (simp [*, errW_none, errW_some] <;> rfl), by (with_reducible repeat (first | apply Kd.R_alloc | apply Kd.R_drewN | apply Kd.R_drew)); exact Kd.R_mono HO107.out (fun _ hk => hk.1), by repeat (first | (with_reducible first | exact HB.out | apply below_alloc | apply pw_below_drewN | apply below_drew1) | exact HB.out), by repeat (first | (with_reducible first | exact HK.out | apply Kept.alloc | apply Kept.drewN | apply Kept.drew) | exact HK.out)⟩
            · rw [if_neg c26] at H
              exact absurd H (by simp)

end Go.Proofs.Ytknldfighehplaa.PFnSameMasks
