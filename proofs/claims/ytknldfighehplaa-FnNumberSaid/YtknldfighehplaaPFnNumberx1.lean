-- PRINTED BY print.sh 35421559b90ae4d0a3588c463048766b98c2df88dd9212a6774a882060cdf62d: not written by this session
import Derived.Test.YtknldfighehplaaPFnNumberx0
namespace Go.Proofs.Ytknldfighehplaa.PFnNumber
open Go.RowKit Go.Proofs.YtknldfighehplaaW.PrintWords Go.Proofs.YtknldfighehplaaW.PrintLast Go.Proofs.YtknldfighehplaaW.PrintMore
attribute [local go_sem] max2_int min2_int max_two min_two max_three min_three max_four min_four   -- for this text's walks alone
set_option linter.unusedVariables false
set_option linter.unusedSimpArgs false

/-! ### reg_ID_IsVirtual: function 39 -/
def reg_ID_IsVirtual.f (a0 : Int) : Option (Bool) := some ((Go.bits .and .u32 a0 1) == 1)
set_option maxHeartbeats 8000000 in
set_option maxRecDepth 100000 in
theorem reg_ID_IsVirtual.calls (a0 : Int) (r : Bool) (w : World) (h : reg_ID_IsVirtual.f a0 = some r) :
    Calls Try.prog 39 #[.int .u32 a0] w fun e w' => e = .returned (.bool r) ∧ Drawn0 w w' := by
  have H : (some ((Go.bits .and .u32 a0 1) == 1)) = some r := h
  clear h
  obtain rfl := Option.some.inj H
  go_enter Try.func39, Try.ntmps39
  go_wp2
  go_ret
  exact ⟨by first | rfl | (simp; done) | (simp [*]; done), by repeat (first | exact Drawn0.refl _ | apply Drawn0.step)⟩

/-! ### reg_ID_Kind: function 40 -/
def reg_ID_Kind.f (a0 : Int) : Option (Int) := some ((a0 / 256) % 256)
set_option maxHeartbeats 8000000 in
set_option maxRecDepth 100000 in
theorem reg_ID_Kind.calls (a0 : Int) (r : Int) (w : World) (h : reg_ID_Kind.f a0 = some r) :
    Calls Try.prog 40 #[.int .u32 a0] w fun e w' => e = .returned (.int .u8 r) ∧ Drawn0 w w' := by
  have H : (some ((a0 / 256) % 256)) = some r := h
  clear h
  obtain rfl := Option.some.inj H
  go_enter Try.func40, Try.ntmps40
  go_wp2
  go_ret
  exact ⟨by first | rfl | (simp; done) | (simp [*]; done), by repeat (first | exact Drawn0.refl _ | apply Drawn0.step)⟩

/-! ### reg_ID_Index: function 41 -/
def reg_ID_Index.f (a0 : Int) : Option (Int) := some (IntKind.u16.wrap (a0 / 65536))
set_option maxHeartbeats 8000000 in
set_option maxRecDepth 100000 in
theorem reg_ID_Index.calls (a0 : Int) (r : Int) (w : World) (h : reg_ID_Index.f a0 = some r) :
    Calls Try.prog 41 #[.int .u32 a0] w fun e w' => e = .returned (.int .u16 r) ∧ Drawn0 w w' := by
  have H : (some (IntKind.u16.wrap (a0 / 65536))) = some r := h
  clear h
  obtain rfl := Option.some.inj H
  go_enter Try.func41, Try.ntmps41
  go_wp2
  go_ret
  exact ⟨by first | rfl | (simp; done) | (simp [*]; done), by repeat (first | exact Drawn0.refl _ | apply Drawn0.step)⟩

/-! ### impl_IDParts: function 14 -/
def impl_IDParts.f (a0 : Int) : Option (Bool × Int × Int) := (reg_ID_IsVirtual.f a0).bind fun t101 => ((reg_ID_Kind.f a0).bind fun t102 => ((reg_ID_Index.f a0).bind fun t103 => (some (t101, t102, t103))))
set_option maxHeartbeats 8000000 in
set_option maxRecDepth 100000 in
theorem impl_IDParts.calls (a0 : Int) (r1 : Bool) (r2 : Int) (r3 : Int) (w : World) (h : impl_IDParts.f a0 = some (r1, r2, r3)) :
    Calls Try.prog 14 #[.int .u32 a0] w fun e w' => e = .returned (.tuple #[.bool r1, .int .u8 r2, .int .u16 r3]) ∧ Drawn0 w w' := by
  have H : ((reg_ID_IsVirtual.f a0).bind fun t101 => ((reg_ID_Kind.f a0).bind fun t102 => ((reg_ID_Index.f a0).bind fun t103 => (some (t101, t102, t103))))) = some (r1, r2, r3) := h
  clear h
  replace H := Option.bind_eq_some_iff.mp H
  obtain ⟨t101, A20, H⟩ := H
  replace H : ((reg_ID_Kind.f a0).bind fun t102 => ((reg_ID_Index.f a0).bind fun t103 => (some (t101, t102, t103)))) = some (r1, r2, r3) := H
  have A2 := Aside0.mk A20
  clear A20
  replace H := Option.bind_eq_some_iff.mp H
  obtain ⟨t102, A30, H⟩ := H
  replace H : ((reg_ID_Index.f a0).bind fun t103 => (some (t101, t102, t103))) = some (r1, r2, r3) := H
  have A3 := Aside0.mk A30
  clear A30
  replace H := Option.bind_eq_some_iff.mp H
  obtain ⟨t103, A40, H⟩ := H
  replace H : (some (t101, t102, t103)) = some (r1, r2, r3) := H
  have A4 := Aside0.mk A40
  clear A40
  simp only [Option.some.injEq, Prod.mk.injEq] at H
  obtain ⟨rfl, rfl, rfl⟩ := H
  go_enter Try.func14, Try.ntmps14
  go_wp2_with (first | ((with_reducible refine gate_callee (f := 39) rfl ?_); refine goesL_ (some 8) rfl rfl Try.func39 (by kernel_rfl) rfl #[.int .u32 a0] rfl (by (try simp only [List.map_toArray, List.map_cons, List.map_nil]); first | done | rfl | (simp only [List.length_drop, List.length_take]; rfl)) ?_; (with_reducible refine (reg_ID_IsVirtual.calls a0 t101 _ A2.out).mono ?_); rintro e w' ⟨rfl, ⟨nd, rfl⟩⟩; refine ⟨_, rfl, ?_⟩) | ((with_reducible refine gate_callee (f := 40) rfl ?_); refine goesL_ (some 10) rfl rfl Try.func40 (by kernel_rfl) rfl #[.int .u32 a0] rfl (by (try simp only [List.map_toArray, List.map_cons, List.map_nil]); first | done | rfl | (simp only [List.length_drop, List.length_take]; rfl)) ?_; (with_reducible refine (reg_ID_Kind.calls a0 t102 _ A3.out).mono ?_); rintro e w' ⟨rfl, ⟨nd, rfl⟩⟩; refine ⟨_, rfl, ?_⟩) | ((with_reducible refine gate_callee (f := 41) rfl ?_); refine goesL_ (some 12) rfl rfl Try.func41 (by kernel_rfl) rfl #[.int .u32 a0] rfl (by (try simp only [List.map_toArray, List.map_cons, List.map_nil]); first | done | rfl | (simp only [List.length_drop, List.length_take]; rfl)) ?_; (with_reducible refine (reg_ID_Index.calls a0 t103 _ A4.out).mono ?_); rintro e w' ⟨rfl, ⟨nd, rfl⟩⟩; refine ⟨_, rfl, ?_⟩))
  go_ret3
  exact ⟨by first | rfl | (simp; done) | (simp [*]; done), by repeat (first | exact Drawn0.refl _ | apply Drawn0.step)⟩

/-! ### spec_IDParts: function 15 -/
def spec_IDParts.f (a0 : Int) : Option (Bool × Int × Int) := some (((Go.bits .and .u32 a0 1) == 1), (a0 / 256) % 256, IntKind.u16.wrap (a0 / 65536))
set_option maxHeartbeats 8000000 in
set_option maxRecDepth 100000 in
theorem spec_IDParts.calls (a0 : Int) (r1 : Bool) (r2 : Int) (r3 : Int) (w : World) (h : spec_IDParts.f a0 = some (r1, r2, r3)) :
    Calls Try.prog 15 #[.int .u32 a0] w fun e w' => e = .returned (.tuple #[.bool r1, .int .u8 r2, .int .u16 r3]) ∧ Drawn0 w w' := by
  have H : (some (((Go.bits .and .u32 a0 1) == 1), (a0 / 256) % 256, IntKind.u16.wrap (a0 / 65536))) = some (r1, r2, r3) := h
  clear h
  simp only [Option.some.injEq, Prod.mk.injEq] at H
  obtain ⟨rfl, rfl, rfl⟩ := H
  go_enter Try.func15, Try.ntmps15
  go_wp2
  go_ret3
  exact ⟨by first | rfl | (simp; done) | (simp [*]; done), by repeat (first | exact Drawn0.refl _ | apply Drawn0.step)⟩

/-! ### reg_ID_IsPhysical: function 42 -/
def reg_ID_IsPhysical.f (a0 : Int) : Option (Bool) := (reg_ID_IsVirtual.f a0).bind fun t104 => (some (!t104))
set_option maxHeartbeats 8000000 in
set_option maxRecDepth 100000 in
theorem reg_ID_IsPhysical.calls (a0 : Int) (r : Bool) (w : World) (h : reg_ID_IsPhysical.f a0 = some r) :
    Calls Try.prog 42 #[.int .u32 a0] w fun e w' => e = .returned (.bool r) ∧ Drawn0 w w' := by
  have H : ((reg_ID_IsVirtual.f a0).bind fun t104 => (some (!t104))) = some r := h
  clear h
  replace H := Option.bind_eq_some_iff.mp H
  obtain ⟨t104, A20, H⟩ := H
  replace H : (some (!t104)) = some r := H
  have A2 := Aside0.mk A20
  clear A20
  obtain rfl := Option.some.inj H
  go_enter Try.func42, Try.ntmps42
  go_wp2_with (first | ((with_reducible refine gate_callee (f := 39) rfl ?_); refine goesL_ (some 4) rfl rfl Try.func39 (by kernel_rfl) rfl #[.int .u32 a0] rfl (by (try simp only [List.map_toArray, List.map_cons, List.map_nil]); first | done | rfl | (simp only [List.length_drop, List.length_take]; rfl)) ?_; (with_reducible refine (reg_ID_IsVirtual.calls a0 t104 _ A2.out).mono ?_); rintro e w' ⟨rfl, ⟨nd, rfl⟩⟩; refine ⟨_, rfl, ?_⟩))
  go_ret
  exact ⟨by first | rfl | (simp; done) | (simp [*]; done), by repeat (first | exact Drawn0.refl _ | apply Drawn0.step)⟩

/-! ### impl_IDPhysical: function 16 -/
def impl_IDPhysical.f (a0 : Int) : Option (Bool) := (reg_ID_IsPhysical.f a0).bind fun t105 => (some t105)
set_option maxHeartbeats 8000000 in
set_option maxRecDepth 100000 in
theorem impl_IDPhysical.calls (a0 : Int) (r : Bool) (w : World) (h : impl_IDPhysical.f a0 = some r) :
    Calls Try.prog 16 #[.int .u32 a0] w fun e w' => e = .returned (.bool r) ∧ Drawn0 w w' := by
  have H : ((reg_ID_IsPhysical.f a0).bind fun t105 => (some t105)) = some r := h
  clear h
  replace H := Option.bind_eq_some_iff.mp H
  obtain ⟨t105, A20, H⟩ := H
  replace H : (some t105) = some r := H
  have A2 := Aside0.mk A20
  clear A20
  obtain rfl := Option.some.inj H
  go_enter Try.func16, Try.ntmps16
  go_wp2_with (first | ((with_reducible refine gate_callee (f := 42) rfl ?_); refine goesL_ (some 4) rfl rfl Try.func42 (by kernel_rfl) rfl #[.int .u32 a0] rfl (by (try simp only [List.map_toArray, List.map_cons, List.map_nil]); first | done | rfl | (simp only [List.length_drop, List.length_take]; rfl)) ?_; (with_reducible refine (reg_ID_IsPhysical.calls a0 t105 _ A2.out).mono ?_); rintro e w' ⟨rfl, ⟨nd, rfl⟩⟩; refine ⟨_, rfl, ?_⟩))
  go_ret
  exact ⟨by first | rfl | (simp; done) | (simp [*]; done), by repeat (first | exact Drawn0.refl _ | apply Drawn0.step)⟩

/-! ### laws_FnNumber: function 4 -/
def laws_FnNumber.f (a0 : Int) : Option (Bool) := (impl_IDParts.f a0).bind fun bt106 => ((spec_IDParts.f a0).bind fun bt109 => (if (bt106.1 == bt109.1) = true then (if bt106.2.1 = bt109.2.1 then (if bt106.2.2 = bt109.2.2 then ((impl_IDPhysical.f a0).bind fun t112 => (some (t112 != bt106.1))) else (some false)) else (some false)) else (some false)))
set_option maxHeartbeats 8000000 in
set_option maxRecDepth 100000 in
theorem laws_FnNumber.calls (a0 : Int) (r : Bool) (w : World) (h : laws_FnNumber.f a0 = some r) :
    Calls Try.prog 4 #[.int .u32 a0] w fun e w' => e = .returned (.bool r) ∧ Drawn0 w w' := by
  have H : ((impl_IDParts.f a0).bind fun bt106 => ((spec_IDParts.f a0).bind fun bt109 => (if (bt106.1 == bt109.1) = true then (if bt106.2.1 = bt109.2.1 then (if bt106.2.2 = bt109.2.2 then ((impl_IDPhysical.f a0).bind fun t112 => (some (t112 != bt106.1))) else (some false)) else (some false)) else (some false)))) = some r := h
  clear h
  replace H := Option.bind_eq_some_iff.mp H
  obtain ⟨⟨t106, t107, t108⟩, A20, H⟩ := H
  replace H : ((spec_IDParts.f a0).bind fun bt109 => (if (t106 == bt109.1) = true then (if t107 = bt109.2.1 then (if t108 = bt109.2.2 then ((impl_IDPhysical.f a0).bind fun t112 => (some (t112 != t106))) else (some false)) else (some false)) else (some false))) = some r := H
  have A2 := Aside0.mk A20
  clear A20
  replace H := Option.bind_eq_some_iff.mp H
  obtain ⟨⟨t109, t110, t111⟩, A30, H⟩ := H
  replace H : (if (t106 == t109) = true then (if t107 = t110 then (if t108 = t111 then ((impl_IDPhysical.f a0).bind fun t112 => (some (t112 != t106))) else (some false)) else (some false)) else (some false)) = some r := H
  have A3 := Aside0.mk A30
  clear A30
  by_cases c4 : (t106 == t109) = true
  · rw [if_pos c4] at H
    have c4b0 : (t106 == t109) = true := c4
    (try (have c4b1 : decide (t106 = t109) = true := by simpa using c4))
    (try (have c4b2 : (t106 == t109) = true := by simpa using c4))
    clear c4
    by_cases c5 : t107 = t110
    · rw [if_pos c5] at H
      have c5b0 : (t107 == t110) = true := beq_iff_eq.mpr c5
      have c5b1 : (t107 != t110) = false := bne_eq_false_iff_eq.mpr c5
      clear c5
      by_cases c6 : t108 = t111
      · rw [if_pos c6] at H
        have c6b0 : (t108 == t111) = true := beq_iff_eq.mpr c6
        have c6b1 : (t108 != t111) = false := bne_eq_false_iff_eq.mpr c6
        clear c6
        replace H := Option.bind_eq_some_iff.mp H
        obtain ⟨t112, A70, H⟩ := H
        replace H : (some (t112 != t106)) = some r := H
        have A7 := Aside0.mk A70
        clear A70
        obtain rfl := Option.some.inj H
        go_enter Try.func4, Try.ntmps4
        go_wp2_with (first | ((with_reducible refine gate_callee (f := 14) rfl ?_); refine goesL_ (some 11) rfl rfl Try.func14 (by kernel_rfl) rfl #[.int .u32 a0] rfl (by (try simp only [List.map_toArray, List.map_cons, List.map_nil]); first | done | rfl | (simp only [List.length_drop, List.length_take]; rfl)) ?_; (with_reducible refine (impl_IDParts.calls a0 t106 t107 t108 _ A2.out).mono ?_); rintro e w' ⟨rfl, ⟨nd, rfl⟩⟩; refine ⟨_, rfl, ?_⟩) | ((with_reducible refine gate_callee (f := 15) rfl ?_); refine goesL_ (some 17) rfl rfl Try.func15 (by kernel_rfl) rfl #[.int .u32 a0] rfl (by (try simp only [List.map_toArray, List.map_cons, List.map_nil]); first | done | rfl | (simp only [List.length_drop, List.length_take]; rfl)) ?_; (with_reducible refine (spec_IDParts.calls a0 t109 t110 t111 _ A3.out).mono ?_); rintro e w' ⟨rfl, ⟨nd, rfl⟩⟩; refine ⟨_, rfl, ?_⟩) | (go_at_call 16; (with_reducible refine (impl_IDPhysical.calls a0 t112 _ A7.out).mono ?_); rintro e w' ⟨rfl, ⟨nd, rfl⟩⟩))
        go_ret
        exact ⟨by first | rfl | (simp; done) | (simp [*]; done), by repeat (first | exact Drawn0.refl _ | apply Drawn0.step)⟩
      · rw [if_neg c6] at H
        have c6b0 : (t108 == t111) = false := beq_eq_false_iff_ne.mpr c6
        have c6b1 : (t108 != t111) = true := bne_iff_ne.mpr c6
        obtain rfl := Option.some.inj H
        go_enter Try.func4, Try.ntmps4
        go_wp2_with (first | ((with_reducible refine gate_callee (f := 14) rfl ?_); refine goesL_ (some 11) rfl rfl Try.func14 (by kernel_rfl) rfl #[.int .u32 a0] rfl (by (try simp only [List.map_toArray, List.map_cons, List.map_nil]); first | done | rfl | (simp only [List.length_drop, List.length_take]; rfl)) ?_; (with_reducible refine (impl_IDParts.calls a0 t106 t107 t108 _ A2.out).mono ?_); rintro e w' ⟨rfl, ⟨nd, rfl⟩⟩; refine ⟨_, rfl, ?_⟩) | ((with_reducible refine gate_callee (f := 15) rfl ?_); refine goesL_ (some 17) rfl rfl Try.func15 (by kernel_rfl) rfl #[.int .u32 a0] rfl (by (try simp only [List.map_toArray, List.map_cons, List.map_nil]); first | done | rfl | (simp only [List.length_drop, List.length_take]; rfl)) ?_; (with_reducible refine (spec_IDParts.calls a0 t109 t110 t111 _ A3.out).mono ?_); rintro e w' ⟨rfl, ⟨nd, rfl⟩⟩; refine ⟨_, rfl, ?_⟩))
        go_ret
        exact ⟨by first | rfl | (simp; done) | (simp [*]; done), by repeat (first | exact Drawn0.refl _ | apply Drawn0.step)⟩
    · rw [if_neg c5] at H
      have c5b0 : (t107 == t110) = false := beq_eq_false_iff_ne.mpr c5
      have c5b1 : (t107 != t110) = true := bne_iff_ne.mpr c5
      obtain rfl := Option.some.inj H
      go_enter Try.func4, Try.ntmps4
      go_wp2_with (first | ((with_reducible refine gate_callee (f := 14) rfl ?_); refine goesL_ (some 11) rfl rfl Try.func14 (by kernel_rfl) rfl #[.int .u32 a0] rfl (by (try simp only [List.map_toArray, List.map_cons, List.map_nil]); first | done | rfl | (simp only [List.length_drop, List.length_take]; rfl)) ?_; (with_reducible refine (impl_IDParts.calls a0 t106 t107 t108 _ A2.out).mono ?_); rintro e w' ⟨rfl, ⟨nd, rfl⟩⟩; refine ⟨_, rfl, ?_⟩) | ((with_reducible refine gate_callee (f := 15) rfl ?_); refine goesL_ (some 17) rfl rfl Try.func15 (by kernel_rfl) rfl #[.int .u32 a0] rfl (by (try simp only [List.map_toArray, List.map_cons, List.map_nil]); first | done | rfl | (simp only [List.length_drop, List.length_take]; rfl)) ?_; (with_reducible refine (spec_IDParts.calls a0 t109 t110 t111 _ A3.out).mono ?_); rintro e w' ⟨rfl, ⟨nd, rfl⟩⟩; refine ⟨_, rfl, ?_⟩))
      go_ret
      exact ⟨by first | rfl | (simp; done) | (simp [*]; done), by repeat (first | exact Drawn0.refl _ | apply Drawn0.step)⟩
  · rw [if_neg c4] at H
    have c4b0 : (t106 == t109) = false := by simpa using c4
    (try (have c4b1 : decide (t106 = t109) = false := by simpa using c4))
    (try (have c4b2 : (t106 == t109) = false := by simpa using c4))
    (try (have c4b3 : ¬ (t106 = t109) := by simpa using c4))
    clear c4
    obtain rfl := Option.some.inj H
    go_enter Try.func4, Try.ntmps4
    go_wp2_with (first | ((with_reducible refine gate_callee (f := 14) rfl ?_); refine goesL_ (some 11) rfl rfl Try.func14 (by kernel_rfl) rfl #[.int .u32 a0] rfl (by (try simp only [List.map_toArray, List.map_cons, List.map_nil]); first | done | rfl | (simp only [List.length_drop, List.length_take]; rfl)) ?_; (with_reducible refine (impl_IDParts.calls a0 t106 t107 t108 _ A2.out).mono ?_); rintro e w' ⟨rfl, ⟨nd, rfl⟩⟩; refine ⟨_, rfl, ?_⟩) | ((with_reducible refine gate_callee (f := 15) rfl ?_); refine goesL_ (some 17) rfl rfl Try.func15 (by kernel_rfl) rfl #[.int .u32 a0] rfl (by (try simp only [List.map_toArray, List.map_cons, List.map_nil]); first | done | rfl | (simp only [List.length_drop, List.length_take]; rfl)) ?_; (with_reducible refine (spec_IDParts.calls a0 t109 t110 t111 _ A3.out).mono ?_); rintro e w' ⟨rfl, ⟨nd, rfl⟩⟩; refine ⟨_, rfl, ?_⟩))
    go_ret
    exact ⟨by first | rfl | (simp; done) | (simp [*]; done), by repeat (first | exact Drawn0.refl _ | apply Drawn0.step)⟩

/-- THE ONE PURE STATEMENT of laws_FnNumber: yours. -/
def laws_FnNumber.Pure : Prop := ∀ (a0 : Int), (Lit.int .u32 a0).wf = true → laws_FnNumber.f a0 = some true
theorem laws_FnNumber.walk (P : laws_FnNumber.Pure) (a0 : Int) (w : World) (w0 : (Lit.int .u32 a0).wf = true) :
    Calls Try.prog 4 #[.int .u32 a0] w fun e w' => e = .returned (.bool true) ∧ Below w.heap.size w w' := by
  have h := P a0 w0
  refine (laws_FnNumber.calls a0 true w h).mono ?_
  rintro e w' ⟨rfl, hd⟩
  exact ⟨rfl, hd.below⟩

end Go.Proofs.Ytknldfighehplaa.PFnNumber
