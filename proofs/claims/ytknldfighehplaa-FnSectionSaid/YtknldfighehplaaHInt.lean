/- Contracts of the methods Bytes, of ir.NewDatum and Datum.Interval; no conditions beyond the numbers' ranges. -/
import Derived.Test.YtknldfighehplaaHConst
import Derived.Deep.QuietTactic
import Derived.BigQuiet
namespace Go.Proofs.Ytknldfighehplaa.HInt
set_option linter.unusedSimpArgs false
set_option linter.unusedVariables false
open Go.RowKit Go.Proofs.Ytknldfighehplaa.HConst Go.Proofs.YtknldfighehplaaW.PrintWords Go.Proofs.YtknldfighehplaaW.PrintLast Go.Proofs.YtknldfighehplaaW.PrintMore

theorem by118 (n : Int) (w : World) : Calls Try.prog 132 #[.int .i8 n] w fun e w' => e = .returned (.int .i64 1) ∧ w' = w := by
  go_enter Try.func132, Try.ntmps132
  go_wp2
  go_ret
  exact ⟨rfl, rfl⟩
@[go_sem] theorem na118 (k : Nat) (n : Int) (w : World) : (nilAhead (k + 1) 118 (.int .i8 n) "Bytes").run Try.prog w = .ok (some false) w := by kernel_rfl
@[go_sem] theorem me118 (k : Nat) (n : Int) (w : World) : (method (k + 1) 118 (.int .i8 n) "Bytes").run Try.prog w = .ok (132, .int .i8 n) w := by kernel_rfl

theorem by119 (n : Int) (w : World) : Calls Try.prog 135 #[.int .u8 n] w fun e w' => e = .returned (.int .i64 1) ∧ w' = w := by
  go_enter Try.func135, Try.ntmps135
  go_wp2
  go_ret
  exact ⟨rfl, rfl⟩
@[go_sem] theorem na119 (k : Nat) (n : Int) (w : World) : (nilAhead (k + 1) 119 (.int .u8 n) "Bytes").run Try.prog w = .ok (some false) w := by kernel_rfl
@[go_sem] theorem me119 (k : Nat) (n : Int) (w : World) : (method (k + 1) 119 (.int .u8 n) "Bytes").run Try.prog w = .ok (135, .int .u8 n) w := by kernel_rfl

theorem by121 (n : Int) (w : World) : Calls Try.prog 138 #[.int .i16 n] w fun e w' => e = .returned (.int .i64 2) ∧ w' = w := by
  go_enter Try.func138, Try.ntmps138
  go_wp2
  go_ret
  exact ⟨rfl, rfl⟩
@[go_sem] theorem na121 (k : Nat) (n : Int) (w : World) : (nilAhead (k + 1) 121 (.int .i16 n) "Bytes").run Try.prog w = .ok (some false) w := by kernel_rfl
@[go_sem] theorem me121 (k : Nat) (n : Int) (w : World) : (method (k + 1) 121 (.int .i16 n) "Bytes").run Try.prog w = .ok (138, .int .i16 n) w := by kernel_rfl

theorem by122 (n : Int) (w : World) : Calls Try.prog 141 #[.int .u16 n] w fun e w' => e = .returned (.int .i64 2) ∧ w' = w := by
  go_enter Try.func141, Try.ntmps141
  go_wp2
  go_ret
  exact ⟨rfl, rfl⟩
@[go_sem] theorem na122 (k : Nat) (n : Int) (w : World) : (nilAhead (k + 1) 122 (.int .u16 n) "Bytes").run Try.prog w = .ok (some false) w := by kernel_rfl
@[go_sem] theorem me122 (k : Nat) (n : Int) (w : World) : (method (k + 1) 122 (.int .u16 n) "Bytes").run Try.prog w = .ok (141, .int .u16 n) w := by kernel_rfl

theorem by123 (n : Int) (w : World) : Calls Try.prog 144 #[.int .i32 n] w fun e w' => e = .returned (.int .i64 4) ∧ w' = w := by
  go_enter Try.func144, Try.ntmps144
  go_wp2
  go_ret
  exact ⟨rfl, rfl⟩
@[go_sem] theorem na123 (k : Nat) (n : Int) (w : World) : (nilAhead (k + 1) 123 (.int .i32 n) "Bytes").run Try.prog w = .ok (some false) w := by kernel_rfl
@[go_sem] theorem me123 (k : Nat) (n : Int) (w : World) : (method (k + 1) 123 (.int .i32 n) "Bytes").run Try.prog w = .ok (144, .int .i32 n) w := by kernel_rfl

theorem by124 (n : Int) (w : World) : Calls Try.prog 147 #[.int .u32 n] w fun e w' => e = .returned (.int .i64 4) ∧ w' = w := by
  go_enter Try.func147, Try.ntmps147
  go_wp2
  go_ret
  exact ⟨rfl, rfl⟩
@[go_sem] theorem na124 (k : Nat) (n : Int) (w : World) : (nilAhead (k + 1) 124 (.int .u32 n) "Bytes").run Try.prog w = .ok (some false) w := by kernel_rfl
@[go_sem] theorem me124 (k : Nat) (n : Int) (w : World) : (method (k + 1) 124 (.int .u32 n) "Bytes").run Try.prog w = .ok (147, .int .u32 n) w := by kernel_rfl

theorem by125 (n : Int) (w : World) : Calls Try.prog 150 #[.int .i64 n] w fun e w' => e = .returned (.int .i64 8) ∧ w' = w := by
  go_enter Try.func150, Try.ntmps150
  go_wp2
  go_ret
  exact ⟨rfl, rfl⟩
@[go_sem] theorem na125 (k : Nat) (n : Int) (w : World) : (nilAhead (k + 1) 125 (.int .i64 n) "Bytes").run Try.prog w = .ok (some false) w := by kernel_rfl
@[go_sem] theorem me125 (k : Nat) (n : Int) (w : World) : (method (k + 1) 125 (.int .i64 n) "Bytes").run Try.prog w = .ok (150, .int .i64 n) w := by kernel_rfl

theorem by126 (n : Int) (w : World) : Calls Try.prog 153 #[.int .u64 n] w fun e w' => e = .returned (.int .i64 8) ∧ w' = w := by
  go_enter Try.func153, Try.ntmps153
  go_wp2
  go_ret
  exact ⟨rfl, rfl⟩
@[go_sem] theorem na126 (k : Nat) (n : Int) (w : World) : (nilAhead (k + 1) 126 (.int .u64 n) "Bytes").run Try.prog w = .ok (some false) w := by kernel_rfl
@[go_sem] theorem me126 (k : Nat) (n : Int) (w : World) : (method (k + 1) 126 (.int .u64 n) "Bytes").run Try.prog w = .ok (153, .int .u64 n) w := by kernel_rfl

theorem by128 (n : Nat) (w : World) : Calls Try.prog 156 #[.float .f32 n] w fun e w' => e = .returned (.int .i64 4) ∧ w' = w := by
  go_enter Try.func156, Try.ntmps156
  go_wp2
  go_ret
  exact ⟨rfl, rfl⟩
@[go_sem] theorem na128 (k : Nat) (n : Nat) (w : World) : (nilAhead (k + 1) 128 (.float .f32 n) "Bytes").run Try.prog w = .ok (some false) w := by kernel_rfl
@[go_sem] theorem me128 (k : Nat) (n : Nat) (w : World) : (method (k + 1) 128 (.float .f32 n) "Bytes").run Try.prog w = .ok (156, .float .f32 n) w := by kernel_rfl

theorem by131 (n : Nat) (w : World) : Calls Try.prog 159 #[.float .f64 n] w fun e w' => e = .returned (.int .i64 8) ∧ w' = w := by
  go_enter Try.func159, Try.ntmps159
  go_wp2
  go_ret
  exact ⟨rfl, rfl⟩
@[go_sem] theorem na131 (k : Nat) (n : Nat) (w : World) : (nilAhead (k + 1) 131 (.float .f64 n) "Bytes").run Try.prog w = .ok (some false) w := by kernel_rfl
@[go_sem] theorem me131 (k : Nat) (n : Nat) (w : World) : (method (k + 1) 131 (.float .f64 n) "Bytes").run Try.prog w = .ok (159, .float .f64 n) w := by kernel_rfl

theorem by133 (n : ByteArray) (w : World) (hn : n.size ≤ 9223372036854775807) : Calls Try.prog 162 #[.string n] w fun e w' => e = .returned (.int .i64 n.size) ∧ w' = w := by
  go_enter Try.func162, Try.ntmps162
  go_wp2
  go_ret
  exact ⟨rfl, rfl⟩
@[go_sem] theorem na133 (k : Nat) (n : ByteArray) (w : World) : (nilAhead (k + 1) 133 (.string n) "Bytes").run Try.prog w = .ok (some false) w := by kernel_rfl
@[go_sem] theorem me133 (k : Nat) (n : ByteArray) (w : World) : (method (k + 1) 133 (.string n) "Bytes").run Try.prog w = .ok (162, .string n) w := by kernel_rfl

theorem newDatum (off : Int) (v : Value) (T : TypeId) (w : World) :
    Calls Try.prog 50 #[.int .i64 off, .iface T v] w fun e w' => e = .returned (.agg #[.int .i64 off, .iface T v]) ∧ Below w.heap.size w w' := by
  go_enter Try.func50, Try.ntmps50
  go_wp2
  go_returns
  exact ⟨rfl, (Below.refl _ _).alloc (Nat.le_refl _) _⟩

theorem newDatumNil (off : Int) (w : World) :
    Calls Try.prog 50 #[.int .i64 off, .nilIface] w fun e w' => e = .returned (.agg #[.int .i64 off, .nilIface]) ∧ Below w.heap.size w w' := by
  go_enter Try.func50, Try.ntmps50
  go_wp2
  go_returns
  exact ⟨rfl, (Below.refl _ _).alloc (Nat.le_refl _) _⟩

set_option maxHeartbeats 400000 in
theorem interval118 (off : Int) (n : Int) (w : World) :
    Calls Try.prog 51 #[.agg #[.int .i64 off, .iface 118 (.int .i8 n)]] w fun e w' => e = .returned (.tuple #[.int .i64 off, .int .i64 (wrap64 (off + 1))]) ∧ Below w.heap.size w w' := by
  go_enter Try.func51, Try.ntmps51
  go_wp2
  go_quiet ((go_at_call 132; exact Calls.quiet_of_same (by118 _ _)))
  go_wp2
  go_ret2
  exact ⟨rfl, by repeat (first | (with_reducible first | exact Below.refl _ _ | apply below_alloc | apply pw_below_drewN | apply below_drew1) | exact Below.refl _ _)⟩

set_option maxHeartbeats 400000 in
theorem interval119 (off : Int) (n : Int) (w : World) :
    Calls Try.prog 51 #[.agg #[.int .i64 off, .iface 119 (.int .u8 n)]] w fun e w' => e = .returned (.tuple #[.int .i64 off, .int .i64 (wrap64 (off + 1))]) ∧ Below w.heap.size w w' := by
  go_enter Try.func51, Try.ntmps51
  go_wp2
  go_quiet ((go_at_call 135; exact Calls.quiet_of_same (by119 _ _)))
  go_wp2
  go_ret2
  exact ⟨rfl, by repeat (first | (with_reducible first | exact Below.refl _ _ | apply below_alloc | apply pw_below_drewN | apply below_drew1) | exact Below.refl _ _)⟩

set_option maxHeartbeats 400000 in
theorem interval121 (off : Int) (n : Int) (w : World) :
    Calls Try.prog 51 #[.agg #[.int .i64 off, .iface 121 (.int .i16 n)]] w fun e w' => e = .returned (.tuple #[.int .i64 off, .int .i64 (wrap64 (off + 2))]) ∧ Below w.heap.size w w' := by
  go_enter Try.func51, Try.ntmps51
  go_wp2
  go_quiet ((go_at_call 138; exact Calls.quiet_of_same (by121 _ _)))
  go_wp2
  go_ret2
  exact ⟨rfl, by repeat (first | (with_reducible first | exact Below.refl _ _ | apply below_alloc | apply pw_below_drewN | apply below_drew1) | exact Below.refl _ _)⟩

set_option maxHeartbeats 400000 in
theorem interval122 (off : Int) (n : Int) (w : World) :
    Calls Try.prog 51 #[.agg #[.int .i64 off, .iface 122 (.int .u16 n)]] w fun e w' => e = .returned (.tuple #[.int .i64 off, .int .i64 (wrap64 (off + 2))]) ∧ Below w.heap.size w w' := by
  go_enter Try.func51, Try.ntmps51
  go_wp2
  go_quiet ((go_at_call 141; exact Calls.quiet_of_same (by122 _ _)))
  go_wp2
  go_ret2
  exact ⟨rfl, by repeat (first | (with_reducible first | exact Below.refl _ _ | apply below_alloc | apply pw_below_drewN | apply below_drew1) | exact Below.refl _ _)⟩

set_option maxHeartbeats 400000 in
theorem interval123 (off : Int) (n : Int) (w : World) :
    Calls Try.prog 51 #[.agg #[.int .i64 off, .iface 123 (.int .i32 n)]] w fun e w' => e = .returned (.tuple #[.int .i64 off, .int .i64 (wrap64 (off + 4))]) ∧ Below w.heap.size w w' := by
  go_enter Try.func51, Try.ntmps51
  go_wp2
  go_quiet ((go_at_call 144; exact Calls.quiet_of_same (by123 _ _)))
  go_wp2
  go_ret2
  exact ⟨rfl, by repeat (first | (with_reducible first | exact Below.refl _ _ | apply below_alloc | apply pw_below_drewN | apply below_drew1) | exact Below.refl _ _)⟩

set_option maxHeartbeats 400000 in
theorem interval124 (off : Int) (n : Int) (w : World) :
    Calls Try.prog 51 #[.agg #[.int .i64 off, .iface 124 (.int .u32 n)]] w fun e w' => e = .returned (.tuple #[.int .i64 off, .int .i64 (wrap64 (off + 4))]) ∧ Below w.heap.size w w' := by
  go_enter Try.func51, Try.ntmps51
  go_wp2
  go_quiet ((go_at_call 147; exact Calls.quiet_of_same (by124 _ _)))
  go_wp2
  go_ret2
  exact ⟨rfl, by repeat (first | (with_reducible first | exact Below.refl _ _ | apply below_alloc | apply pw_below_drewN | apply below_drew1) | exact Below.refl _ _)⟩

set_option maxHeartbeats 400000 in
theorem interval125 (off : Int) (n : Int) (w : World) :
    Calls Try.prog 51 #[.agg #[.int .i64 off, .iface 125 (.int .i64 n)]] w fun e w' => e = .returned (.tuple #[.int .i64 off, .int .i64 (wrap64 (off + 8))]) ∧ Below w.heap.size w w' := by
  go_enter Try.func51, Try.ntmps51
  go_wp2
  go_quiet ((go_at_call 150; exact Calls.quiet_of_same (by125 _ _)))
  go_wp2
  go_ret2
  exact ⟨rfl, by repeat (first | (with_reducible first | exact Below.refl _ _ | apply below_alloc | apply pw_below_drewN | apply below_drew1) | exact Below.refl _ _)⟩

set_option maxHeartbeats 400000 in
theorem interval126 (off : Int) (n : Int) (w : World) :
    Calls Try.prog 51 #[.agg #[.int .i64 off, .iface 126 (.int .u64 n)]] w fun e w' => e = .returned (.tuple #[.int .i64 off, .int .i64 (wrap64 (off + 8))]) ∧ Below w.heap.size w w' := by
  go_enter Try.func51, Try.ntmps51
  go_wp2
  go_quiet ((go_at_call 153; exact Calls.quiet_of_same (by126 _ _)))
  go_wp2
  go_ret2
  exact ⟨rfl, by repeat (first | (with_reducible first | exact Below.refl _ _ | apply below_alloc | apply pw_below_drewN | apply below_drew1) | exact Below.refl _ _)⟩

set_option maxHeartbeats 400000 in
theorem interval128 (off : Int) (n : Nat) (w : World) :
    Calls Try.prog 51 #[.agg #[.int .i64 off, .iface 128 (.float .f32 n)]] w fun e w' => e = .returned (.tuple #[.int .i64 off, .int .i64 (wrap64 (off + 4))]) ∧ Below w.heap.size w w' := by
  go_enter Try.func51, Try.ntmps51
  go_wp2
  go_quiet ((go_at_call 156; exact Calls.quiet_of_same (by128 _ _)))
  go_wp2
  go_ret2
  exact ⟨rfl, by repeat (first | (with_reducible first | exact Below.refl _ _ | apply below_alloc | apply pw_below_drewN | apply below_drew1) | exact Below.refl _ _)⟩

set_option maxHeartbeats 400000 in
theorem interval131 (off : Int) (n : Nat) (w : World) :
    Calls Try.prog 51 #[.agg #[.int .i64 off, .iface 131 (.float .f64 n)]] w fun e w' => e = .returned (.tuple #[.int .i64 off, .int .i64 (wrap64 (off + 8))]) ∧ Below w.heap.size w w' := by
  go_enter Try.func51, Try.ntmps51
  go_wp2
  go_quiet ((go_at_call 159; exact Calls.quiet_of_same (by131 _ _)))
  go_wp2
  go_ret2
  exact ⟨rfl, by repeat (first | (with_reducible first | exact Below.refl _ _ | apply below_alloc | apply pw_below_drewN | apply below_drew1) | exact Below.refl _ _)⟩

set_option maxHeartbeats 400000 in
theorem interval133 (off : Int) (n : ByteArray) (w : World) (hn : n.size ≤ 9223372036854775807) :
    Calls Try.prog 51 #[.agg #[.int .i64 off, .iface 133 (.string n)]] w fun e w' => e = .returned (.tuple #[.int .i64 off, .int .i64 (wrap64 (off + (n.size : Int)))]) ∧ Below w.heap.size w w' := by
  go_enter Try.func51, Try.ntmps51
  go_wp2
  go_quiet ((go_at_call 162; exact Calls.quiet_of_same (by133 _ _ hn)))
  go_wp2
  go_ret2
  exact ⟨rfl, by repeat (first | (with_reducible first | exact Below.refl _ _ | apply below_alloc | apply pw_below_drewN | apply below_drew1) | exact Below.refl _ _)⟩
/-- The constant of kind k, bits b, text t as the package's value (nil for a kind that is none). -/
def cval (k b : Int) (t : ByteArray) : Value :=
  if k = 1 then .iface 118 (.int .i8 (IntKind.i8.wrap b)) else
  if k = 2 then .iface 119 (.int .u8 (IntKind.u8.wrap b)) else
  if k = 3 then .iface 121 (.int .i16 (IntKind.i16.wrap b)) else
  if k = 4 then .iface 122 (.int .u16 (IntKind.u16.wrap b)) else
  if k = 5 then .iface 123 (.int .i32 (IntKind.i32.wrap b)) else
  if k = 6 then .iface 124 (.int .u32 (IntKind.u32.wrap b)) else
  if k = 7 then .iface 125 (.int .i64 (IntKind.i64.wrap b)) else
  if k = 8 then .iface 126 (.int .u64 (IntKind.u64.wrap b)) else
  if k = 9 then .iface 128 (.float .f32 (IntKind.u32.wrap b).toNat) else
  if k = 10 then .iface 131 (.float .f64 b.toNat) else
  if k = 11 then .iface 133 (.string t) else
  .nilIface
def cok (k : Int) : Bool := decide (1 ≤ k ∧ k ≤ 11)
theorem cok_cases {k : Int} (h : cok k = true) : k = 1 ∨ k = 2 ∨ k = 3 ∨ k = 4 ∨ k = 5 ∨ k = 6 ∨ k = 7 ∨ k = 8 ∨ k = 9 ∨ k = 10 ∨ k = 11 := by
  have := of_decide_eq_true h
  omega
theorem cok_not {k : Int} (h : cok k = false) (j : Int) (h1 : 1 ≤ j) (h2 : j ≤ 11) : (k == j) = false := by
  have := of_decide_eq_false h
  rw [beq_eq_false_iff_ne]; omega
theorem cval_none {k b : Int} {t : ByteArray} (h : cok k = false) : cval k b t = .nilIface := by
  have := of_decide_eq_false h
  unfold cval
  repeat rw [if_neg (by omega)]
theorem cval_1 (b : Int) (t : ByteArray) : cval 1 b t = .iface 118 (.int .i8 (IntKind.i8.wrap b)) := by simp [cval]
theorem cval_2 (b : Int) (t : ByteArray) : cval 2 b t = .iface 119 (.int .u8 (IntKind.u8.wrap b)) := by simp [cval]
theorem cval_3 (b : Int) (t : ByteArray) : cval 3 b t = .iface 121 (.int .i16 (IntKind.i16.wrap b)) := by simp [cval]
theorem cval_4 (b : Int) (t : ByteArray) : cval 4 b t = .iface 122 (.int .u16 (IntKind.u16.wrap b)) := by simp [cval]
theorem cval_5 (b : Int) (t : ByteArray) : cval 5 b t = .iface 123 (.int .i32 (IntKind.i32.wrap b)) := by simp [cval]
theorem cval_6 (b : Int) (t : ByteArray) : cval 6 b t = .iface 124 (.int .u32 (IntKind.u32.wrap b)) := by simp [cval]
theorem cval_7 (b : Int) (t : ByteArray) : cval 7 b t = .iface 125 (.int .i64 (IntKind.i64.wrap b)) := by simp [cval]
theorem cval_8 (b : Int) (t : ByteArray) : cval 8 b t = .iface 126 (.int .u64 (IntKind.u64.wrap b)) := by simp [cval]
theorem cval_9 (b : Int) (t : ByteArray) : cval 9 b t = .iface 128 (.float .f32 (IntKind.u32.wrap b).toNat) := by simp [cval]
theorem cval_10 (b : Int) (t : ByteArray) : cval 10 b t = .iface 131 (.float .f64 b.toNat) := by simp [cval]
theorem cval_11 (b : Int) (t : ByteArray) : cval 11 b t = .iface 133 (.string t) := by simp [cval]
theorem cval_one (k b : Int) (t : ByteArray) : (cval k b t).oneCell' = true := by
  unfold cval
  repeat' split
  all_goals rfl
theorem cval_iface {k b : Int} {t : ByteArray} (h : cok k = true) : ∃ T v, cval k b t = .iface T v := by
  rcases cok_cases h with rfl | rfl | rfl | rfl | rfl | rfl | rfl | rfl | rfl | rfl | rfl
  · exact ⟨_, _, cval_1 b t⟩
  · exact ⟨_, _, cval_2 b t⟩
  · exact ⟨_, _, cval_3 b t⟩
  · exact ⟨_, _, cval_4 b t⟩
  · exact ⟨_, _, cval_5 b t⟩
  · exact ⟨_, _, cval_6 b t⟩
  · exact ⟨_, _, cval_7 b t⟩
  · exact ⟨_, _, cval_8 b t⟩
  · exact ⟨_, _, cval_9 b t⟩
  · exact ⟨_, _, cval_10 b t⟩
  · exact ⟨_, _, cval_11 b t⟩

/-- impl.constant, whatever the constant. -/
theorem constU (k b : Int) (t : ByteArray) (w : World) (h0 : 0 ≤ b) (h1 : b < 18446744073709551616) :
    Calls Try.prog 49 #[.agg #[.int .i64 k, .int .u64 b, .string t]] w fun e w' => e = .returned (.tuple #[cval k b t, .bool (cok k)]) ∧ Below w.heap.size w w' := by
  cases h : cok k with
  | true =>
    rcases cok_cases h with rfl | rfl | rfl | rfl | rfl | rfl | rfl | rfl | rfl | rfl | rfl
    · rw [cval_1]; exact const1 b t w h0 h1
    · rw [cval_2]; exact const2 b t w h0 h1
    · rw [cval_3]; exact const3 b t w h0 h1
    · rw [cval_4]; exact const4 b t w h0 h1
    · rw [cval_5]; exact const5 b t w h0 h1
    · rw [cval_6]; exact const6 b t w h0 h1
    · rw [cval_7]; exact const7 b t w h0 h1
    · rw [cval_8]; exact const8 b t w h0 h1
    · rw [cval_9]; exact const9 b t w h0 h1
    · rw [cval_10]; exact const10 b t w h0 h1
    · rw [cval_11]; exact const11 b t w h0 h1
  | false =>
    rw [cval_none h]
    exact constNone k b t w (cok_not h 1 (by decide) (by decide)) (cok_not h 2 (by decide) (by decide)) (cok_not h 3 (by decide) (by decide)) (cok_not h 4 (by decide) (by decide)) (cok_not h 5 (by decide) (by decide)) (cok_not h 6 (by decide) (by decide)) (cok_not h 7 (by decide) (by decide)) (cok_not h 8 (by decide) (by decide)) (cok_not h 9 (by decide) (by decide)) (cok_not h 10 (by decide) (by decide)) (cok_not h 11 (by decide) (by decide))

/-- Datum.Interval, whatever the constant (one that is one). -/
theorem intervalU (off k b : Int) (t : ByteArray) (w : World) (hk : cok k = true) (ht : t.size ≤ 9223372036854775807) :
    Calls Try.prog 51 #[.agg #[.int .i64 off, cval k b t]] w fun e w' => e = .returned (.tuple #[.int .i64 off, .int .i64 (wrap64 (off + bytesOf k t))]) ∧ Below w.heap.size w w' := by
  rcases cok_cases hk with rfl | rfl | rfl | rfl | rfl | rfl | rfl | rfl | rfl | rfl | rfl
  · rw [cval_1]; have h := interval118 off (IntKind.i8.wrap b) w; simpa [HConst.bytesOf] using h
  · rw [cval_2]; have h := interval119 off (IntKind.u8.wrap b) w; simpa [HConst.bytesOf] using h
  · rw [cval_3]; have h := interval121 off (IntKind.i16.wrap b) w; simpa [HConst.bytesOf] using h
  · rw [cval_4]; have h := interval122 off (IntKind.u16.wrap b) w; simpa [HConst.bytesOf] using h
  · rw [cval_5]; have h := interval123 off (IntKind.i32.wrap b) w; simpa [HConst.bytesOf] using h
  · rw [cval_6]; have h := interval124 off (IntKind.u32.wrap b) w; simpa [HConst.bytesOf] using h
  · rw [cval_7]; have h := interval125 off (IntKind.i64.wrap b) w; simpa [HConst.bytesOf] using h
  · rw [cval_8]; have h := interval126 off (IntKind.u64.wrap b) w; simpa [HConst.bytesOf] using h
  · rw [cval_9]; have h := interval128 off ((IntKind.u32.wrap b).toNat) w; simpa [HConst.bytesOf] using h
  · rw [cval_10]; have h := interval131 off (b.toNat) w; simpa [HConst.bytesOf] using h
  · rw [cval_11]; have h := interval133 off (t) w ht; simpa [HConst.bytesOf] using h

/-- ir.NewDatum, whatever the constant (one that is one). -/
theorem newDatumU (off k b : Int) (t : ByteArray) (w : World) :
    Calls Try.prog 50 #[.int .i64 off, cval k b t] w fun e w' => e = .returned (.agg #[.int .i64 off, cval k b t]) ∧ Below w.heap.size w w' := by
  cases h : cok k with
  | true =>
    obtain ⟨T, v, hv⟩ := cval_iface (b := b) (t := t) h
    rw [hv]
    exact newDatum off v T w
  | false =>
    rw [cval_none h]
    exact newDatumNil off w
end Go.Proofs.Ytknldfighehplaa.HInt
