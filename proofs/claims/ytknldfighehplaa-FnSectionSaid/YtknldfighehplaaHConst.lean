/- Contracts of the functions that turn constants into the package's values and back; no conditions beyond the numbers' ranges. -/
import Derived.Test.YtknldfighehplaaPFnImmx1
import Derived.Handy
import Derived.WalkLawsBesides
namespace Go.Proofs.Ytknldfighehplaa.HConst
set_option linter.unusedSimpArgs false
set_option linter.unusedVariables false
open Go.RowKit Go.Proofs.YtknldfighehplaaW.PrintWords Go.Proofs.YtknldfighehplaaW.PrintLast Go.Proofs.YtknldfighehplaaW.PrintMore

/-- A constant of kind k with bits b and text t, as the package's value; none for a kind that is none. -/
def constV (k b : Int) (t : ByteArray) : Option Value :=
  if k = 1 then some (.iface 118 (.int .i8 (IntKind.i8.wrap b))) else
  if k = 2 then some (.iface 119 (.int .u8 (IntKind.u8.wrap b))) else
  if k = 3 then some (.iface 121 (.int .i16 (IntKind.i16.wrap b))) else
  if k = 4 then some (.iface 122 (.int .u16 (IntKind.u16.wrap b))) else
  if k = 5 then some (.iface 123 (.int .i32 (IntKind.i32.wrap b))) else
  if k = 6 then some (.iface 124 (.int .u32 (IntKind.u32.wrap b))) else
  if k = 7 then some (.iface 125 (.int .i64 (IntKind.i64.wrap b))) else
  if k = 8 then some (.iface 126 (.int .u64 (IntKind.u64.wrap b))) else
  if k = 9 then some (.iface 128 (.float .f32 (IntKind.u32.wrap b).toNat)) else
  if k = 10 then some (.iface 131 (.float .f64 b.toNat)) else
  if k = 11 then some (.iface 133 (.string t)) else none

/-- The bits of such a constant that are told back. -/
def backB (k b : Int) : Int :=
  if k = 1 ∨ k = 2 then b % 256 else if k = 3 ∨ k = 4 then b % 65536 else if k = 5 ∨ k = 6 ∨ k = 9 then b % 4294967296 else if k = 11 then 0 else b
def backT (k : Int) (t : ByteArray) : ByteArray := if k = 11 then t else ⟨#[]⟩
def bytesOf (k : Int) (t : ByteArray) : Int :=
  if k = 1 ∨ k = 2 then 1 else if k = 3 ∨ k = 4 then 2 else if k = 5 ∨ k = 6 ∨ k = 9 then 4 else if k = 7 ∨ k = 8 ∨ k = 10 then 8 else if k = 11 then (t.size : Int) else -1

theorem ret_agg3 {a b a' b' : Int} {t t' : ByteArray} (h1 : a = a') (h2 : b = b') (h3 : t = t') : Ending.returned (.agg #[.int .i64 a, .int .u64 b, .string t]) = .returned (.agg #[.int .i64 a', .int .u64 b', .string t']) := by rw [h1, h2, h3]

theorem wrap_u16 (x : Int) : IntKind.u16.wrap x = x % 65536 := by simp [IntKind.wrap_u16]
theorem wrap_u32 (x : Int) : IntKind.u32.wrap x = x % 4294967296 := by simp [IntKind.wrap_u32]
theorem wrap_u64 (x : Int) : IntKind.u64.wrap x = x % 18446744073709551616 := by simp [IntKind.wrap_u64]
theorem wrap_u8 (x : Int) : IntKind.u8.wrap x = x % 256 := by simp [IntKind.wrap_u8]
theorem not16 (x : Int) (h : 65536 ≤ x) : (IntKind.u64.wrap (IntKind.u16.wrap x) == x) = false := by
  rw [wrap_u16, wrap_u64, beq_eq_false_iff_ne]; omega
theorem not32 (x : Int) (h : 4294967296 ≤ x) : (IntKind.u64.wrap (IntKind.u32.wrap x) == x) = false := by
  rw [wrap_u32, wrap_u64, beq_eq_false_iff_ne]; omega

set_option maxHeartbeats 400000 in
theorem imm0 (x : Int) (w : World) (h0 : 0 ≤ x) (h1 : x < 256) :
    Calls Try.prog 53 #[.int .u64 x] w fun e w' => e = .returned (.iface 119 (.int .u8 x)) ∧ w = w' := by
  have h2 : 0 ≤ x := by omega
  have h3 : x < 18446744073709551616 := by omega
  go_enter Try.func53, Try.ntmps53
  go_wp2
  all_goals (go_ret; exact ⟨rfl, rfl⟩)

set_option maxHeartbeats 400000 in
theorem imm1 (x : Int) (w : World) (h0 : 256 ≤ x) (h1 : x < 65536) :
    Calls Try.prog 53 #[.int .u64 x] w fun e w' => e = .returned (.iface 122 (.int .u16 x)) ∧ w = w' := by
  have h2 : 0 ≤ x := by omega
  have h3 : x < 18446744073709551616 := by omega
  go_enter Try.func53, Try.ntmps53
  go_wp2
  all_goals (go_ret; exact ⟨rfl, rfl⟩)

set_option maxHeartbeats 400000 in
theorem imm2 (x : Int) (w : World) (h0 : 65536 ≤ x) (h1 : x < 4294967296) :
    Calls Try.prog 53 #[.int .u64 x] w fun e w' => e = .returned (.iface 124 (.int .u32 x)) ∧ w = w' := by
  have h2 : 0 ≤ x := by omega
  have h3 : x < 18446744073709551616 := by omega
  have n16 := not16 x (by omega)
  go_enter Try.func53, Try.ntmps53
  go_wp2
  all_goals (go_ret; exact ⟨rfl, rfl⟩)

set_option maxHeartbeats 400000 in
theorem imm3 (x : Int) (w : World) (h0 : 4294967296 ≤ x) (h1 : x < 18446744073709551616) :
    Calls Try.prog 53 #[.int .u64 x] w fun e w' => e = .returned (.iface 126 (.int .u64 x)) ∧ w = w' := by
  have h2 : 0 ≤ x := by omega
  have h3 : x < 18446744073709551616 := by omega
  have n16 := not16 x (by omega)
  have n32 := not32 x (by omega)
  go_enter Try.func53, Try.ntmps53
  go_wp2
  all_goals (go_ret; exact ⟨rfl, rfl⟩)
@[go_sem] theorem ta_118_118 (v : Value) (w : World) : (Instr.typeAssert (.iface 118 v) 82 118 true).run Try.prog w = .ok (.tuple #[v, .bool true]) w := by kernel_rfl
@[go_sem] theorem ta_119_118 (v : Value) (w : World) : (Instr.typeAssert (.iface 119 v) 82 118 true).run Try.prog w = .ok (.tuple #[.int .i8 0, .bool false]) w := by kernel_rfl
@[go_sem] theorem ta_119_119 (v : Value) (w : World) : (Instr.typeAssert (.iface 119 v) 82 119 true).run Try.prog w = .ok (.tuple #[v, .bool true]) w := by kernel_rfl
@[go_sem] theorem ta_121_118 (v : Value) (w : World) : (Instr.typeAssert (.iface 121 v) 82 118 true).run Try.prog w = .ok (.tuple #[.int .i8 0, .bool false]) w := by kernel_rfl
@[go_sem] theorem ta_121_119 (v : Value) (w : World) : (Instr.typeAssert (.iface 121 v) 82 119 true).run Try.prog w = .ok (.tuple #[.int .u8 0, .bool false]) w := by kernel_rfl
@[go_sem] theorem ta_121_121 (v : Value) (w : World) : (Instr.typeAssert (.iface 121 v) 82 121 true).run Try.prog w = .ok (.tuple #[v, .bool true]) w := by kernel_rfl
@[go_sem] theorem ta_122_118 (v : Value) (w : World) : (Instr.typeAssert (.iface 122 v) 82 118 true).run Try.prog w = .ok (.tuple #[.int .i8 0, .bool false]) w := by kernel_rfl
@[go_sem] theorem ta_122_119 (v : Value) (w : World) : (Instr.typeAssert (.iface 122 v) 82 119 true).run Try.prog w = .ok (.tuple #[.int .u8 0, .bool false]) w := by kernel_rfl
@[go_sem] theorem ta_122_121 (v : Value) (w : World) : (Instr.typeAssert (.iface 122 v) 82 121 true).run Try.prog w = .ok (.tuple #[.int .i16 0, .bool false]) w := by kernel_rfl
@[go_sem] theorem ta_122_122 (v : Value) (w : World) : (Instr.typeAssert (.iface 122 v) 82 122 true).run Try.prog w = .ok (.tuple #[v, .bool true]) w := by kernel_rfl
@[go_sem] theorem ta_123_118 (v : Value) (w : World) : (Instr.typeAssert (.iface 123 v) 82 118 true).run Try.prog w = .ok (.tuple #[.int .i8 0, .bool false]) w := by kernel_rfl
@[go_sem] theorem ta_123_119 (v : Value) (w : World) : (Instr.typeAssert (.iface 123 v) 82 119 true).run Try.prog w = .ok (.tuple #[.int .u8 0, .bool false]) w := by kernel_rfl
@[go_sem] theorem ta_123_121 (v : Value) (w : World) : (Instr.typeAssert (.iface 123 v) 82 121 true).run Try.prog w = .ok (.tuple #[.int .i16 0, .bool false]) w := by kernel_rfl
@[go_sem] theorem ta_123_122 (v : Value) (w : World) : (Instr.typeAssert (.iface 123 v) 82 122 true).run Try.prog w = .ok (.tuple #[.int .u16 0, .bool false]) w := by kernel_rfl
@[go_sem] theorem ta_123_123 (v : Value) (w : World) : (Instr.typeAssert (.iface 123 v) 82 123 true).run Try.prog w = .ok (.tuple #[v, .bool true]) w := by kernel_rfl
@[go_sem] theorem ta_124_118 (v : Value) (w : World) : (Instr.typeAssert (.iface 124 v) 82 118 true).run Try.prog w = .ok (.tuple #[.int .i8 0, .bool false]) w := by kernel_rfl
@[go_sem] theorem ta_124_119 (v : Value) (w : World) : (Instr.typeAssert (.iface 124 v) 82 119 true).run Try.prog w = .ok (.tuple #[.int .u8 0, .bool false]) w := by kernel_rfl
@[go_sem] theorem ta_124_121 (v : Value) (w : World) : (Instr.typeAssert (.iface 124 v) 82 121 true).run Try.prog w = .ok (.tuple #[.int .i16 0, .bool false]) w := by kernel_rfl
@[go_sem] theorem ta_124_122 (v : Value) (w : World) : (Instr.typeAssert (.iface 124 v) 82 122 true).run Try.prog w = .ok (.tuple #[.int .u16 0, .bool false]) w := by kernel_rfl
@[go_sem] theorem ta_124_123 (v : Value) (w : World) : (Instr.typeAssert (.iface 124 v) 82 123 true).run Try.prog w = .ok (.tuple #[.int .i32 0, .bool false]) w := by kernel_rfl
@[go_sem] theorem ta_124_124 (v : Value) (w : World) : (Instr.typeAssert (.iface 124 v) 82 124 true).run Try.prog w = .ok (.tuple #[v, .bool true]) w := by kernel_rfl
@[go_sem] theorem ta_125_118 (v : Value) (w : World) : (Instr.typeAssert (.iface 125 v) 82 118 true).run Try.prog w = .ok (.tuple #[.int .i8 0, .bool false]) w := by kernel_rfl
@[go_sem] theorem ta_125_119 (v : Value) (w : World) : (Instr.typeAssert (.iface 125 v) 82 119 true).run Try.prog w = .ok (.tuple #[.int .u8 0, .bool false]) w := by kernel_rfl
@[go_sem] theorem ta_125_121 (v : Value) (w : World) : (Instr.typeAssert (.iface 125 v) 82 121 true).run Try.prog w = .ok (.tuple #[.int .i16 0, .bool false]) w := by kernel_rfl
@[go_sem] theorem ta_125_122 (v : Value) (w : World) : (Instr.typeAssert (.iface 125 v) 82 122 true).run Try.prog w = .ok (.tuple #[.int .u16 0, .bool false]) w := by kernel_rfl
@[go_sem] theorem ta_125_123 (v : Value) (w : World) : (Instr.typeAssert (.iface 125 v) 82 123 true).run Try.prog w = .ok (.tuple #[.int .i32 0, .bool false]) w := by kernel_rfl
@[go_sem] theorem ta_125_124 (v : Value) (w : World) : (Instr.typeAssert (.iface 125 v) 82 124 true).run Try.prog w = .ok (.tuple #[.int .u32 0, .bool false]) w := by kernel_rfl
@[go_sem] theorem ta_125_125 (v : Value) (w : World) : (Instr.typeAssert (.iface 125 v) 82 125 true).run Try.prog w = .ok (.tuple #[v, .bool true]) w := by kernel_rfl
@[go_sem] theorem ta_126_118 (v : Value) (w : World) : (Instr.typeAssert (.iface 126 v) 82 118 true).run Try.prog w = .ok (.tuple #[.int .i8 0, .bool false]) w := by kernel_rfl
@[go_sem] theorem ta_126_119 (v : Value) (w : World) : (Instr.typeAssert (.iface 126 v) 82 119 true).run Try.prog w = .ok (.tuple #[.int .u8 0, .bool false]) w := by kernel_rfl
@[go_sem] theorem ta_126_121 (v : Value) (w : World) : (Instr.typeAssert (.iface 126 v) 82 121 true).run Try.prog w = .ok (.tuple #[.int .i16 0, .bool false]) w := by kernel_rfl
@[go_sem] theorem ta_126_122 (v : Value) (w : World) : (Instr.typeAssert (.iface 126 v) 82 122 true).run Try.prog w = .ok (.tuple #[.int .u16 0, .bool false]) w := by kernel_rfl
@[go_sem] theorem ta_126_123 (v : Value) (w : World) : (Instr.typeAssert (.iface 126 v) 82 123 true).run Try.prog w = .ok (.tuple #[.int .i32 0, .bool false]) w := by kernel_rfl
@[go_sem] theorem ta_126_124 (v : Value) (w : World) : (Instr.typeAssert (.iface 126 v) 82 124 true).run Try.prog w = .ok (.tuple #[.int .u32 0, .bool false]) w := by kernel_rfl
@[go_sem] theorem ta_126_125 (v : Value) (w : World) : (Instr.typeAssert (.iface 126 v) 82 125 true).run Try.prog w = .ok (.tuple #[.int .i64 0, .bool false]) w := by kernel_rfl
@[go_sem] theorem ta_126_126 (v : Value) (w : World) : (Instr.typeAssert (.iface 126 v) 82 126 true).run Try.prog w = .ok (.tuple #[v, .bool true]) w := by kernel_rfl
@[go_sem] theorem ta_128_118 (v : Value) (w : World) : (Instr.typeAssert (.iface 128 v) 82 118 true).run Try.prog w = .ok (.tuple #[.int .i8 0, .bool false]) w := by kernel_rfl
@[go_sem] theorem ta_128_119 (v : Value) (w : World) : (Instr.typeAssert (.iface 128 v) 82 119 true).run Try.prog w = .ok (.tuple #[.int .u8 0, .bool false]) w := by kernel_rfl
@[go_sem] theorem ta_128_121 (v : Value) (w : World) : (Instr.typeAssert (.iface 128 v) 82 121 true).run Try.prog w = .ok (.tuple #[.int .i16 0, .bool false]) w := by kernel_rfl
@[go_sem] theorem ta_128_122 (v : Value) (w : World) : (Instr.typeAssert (.iface 128 v) 82 122 true).run Try.prog w = .ok (.tuple #[.int .u16 0, .bool false]) w := by kernel_rfl
@[go_sem] theorem ta_128_123 (v : Value) (w : World) : (Instr.typeAssert (.iface 128 v) 82 123 true).run Try.prog w = .ok (.tuple #[.int .i32 0, .bool false]) w := by kernel_rfl
@[go_sem] theorem ta_128_124 (v : Value) (w : World) : (Instr.typeAssert (.iface 128 v) 82 124 true).run Try.prog w = .ok (.tuple #[.int .u32 0, .bool false]) w := by kernel_rfl
@[go_sem] theorem ta_128_125 (v : Value) (w : World) : (Instr.typeAssert (.iface 128 v) 82 125 true).run Try.prog w = .ok (.tuple #[.int .i64 0, .bool false]) w := by kernel_rfl
@[go_sem] theorem ta_128_126 (v : Value) (w : World) : (Instr.typeAssert (.iface 128 v) 82 126 true).run Try.prog w = .ok (.tuple #[.int .u64 0, .bool false]) w := by kernel_rfl
@[go_sem] theorem ta_128_128 (v : Value) (w : World) : (Instr.typeAssert (.iface 128 v) 82 128 true).run Try.prog w = .ok (.tuple #[v, .bool true]) w := by kernel_rfl
@[go_sem] theorem ta_131_118 (v : Value) (w : World) : (Instr.typeAssert (.iface 131 v) 82 118 true).run Try.prog w = .ok (.tuple #[.int .i8 0, .bool false]) w := by kernel_rfl
@[go_sem] theorem ta_131_119 (v : Value) (w : World) : (Instr.typeAssert (.iface 131 v) 82 119 true).run Try.prog w = .ok (.tuple #[.int .u8 0, .bool false]) w := by kernel_rfl
@[go_sem] theorem ta_131_121 (v : Value) (w : World) : (Instr.typeAssert (.iface 131 v) 82 121 true).run Try.prog w = .ok (.tuple #[.int .i16 0, .bool false]) w := by kernel_rfl
@[go_sem] theorem ta_131_122 (v : Value) (w : World) : (Instr.typeAssert (.iface 131 v) 82 122 true).run Try.prog w = .ok (.tuple #[.int .u16 0, .bool false]) w := by kernel_rfl
@[go_sem] theorem ta_131_123 (v : Value) (w : World) : (Instr.typeAssert (.iface 131 v) 82 123 true).run Try.prog w = .ok (.tuple #[.int .i32 0, .bool false]) w := by kernel_rfl
@[go_sem] theorem ta_131_124 (v : Value) (w : World) : (Instr.typeAssert (.iface 131 v) 82 124 true).run Try.prog w = .ok (.tuple #[.int .u32 0, .bool false]) w := by kernel_rfl
@[go_sem] theorem ta_131_125 (v : Value) (w : World) : (Instr.typeAssert (.iface 131 v) 82 125 true).run Try.prog w = .ok (.tuple #[.int .i64 0, .bool false]) w := by kernel_rfl
@[go_sem] theorem ta_131_126 (v : Value) (w : World) : (Instr.typeAssert (.iface 131 v) 82 126 true).run Try.prog w = .ok (.tuple #[.int .u64 0, .bool false]) w := by kernel_rfl
@[go_sem] theorem ta_131_128 (v : Value) (w : World) : (Instr.typeAssert (.iface 131 v) 82 128 true).run Try.prog w = .ok (.tuple #[.float .f32 0, .bool false]) w := by kernel_rfl
@[go_sem] theorem ta_131_131 (v : Value) (w : World) : (Instr.typeAssert (.iface 131 v) 82 131 true).run Try.prog w = .ok (.tuple #[v, .bool true]) w := by kernel_rfl
@[go_sem] theorem ta_133_118 (v : Value) (w : World) : (Instr.typeAssert (.iface 133 v) 82 118 true).run Try.prog w = .ok (.tuple #[.int .i8 0, .bool false]) w := by kernel_rfl
@[go_sem] theorem ta_133_119 (v : Value) (w : World) : (Instr.typeAssert (.iface 133 v) 82 119 true).run Try.prog w = .ok (.tuple #[.int .u8 0, .bool false]) w := by kernel_rfl
@[go_sem] theorem ta_133_121 (v : Value) (w : World) : (Instr.typeAssert (.iface 133 v) 82 121 true).run Try.prog w = .ok (.tuple #[.int .i16 0, .bool false]) w := by kernel_rfl
@[go_sem] theorem ta_133_122 (v : Value) (w : World) : (Instr.typeAssert (.iface 133 v) 82 122 true).run Try.prog w = .ok (.tuple #[.int .u16 0, .bool false]) w := by kernel_rfl
@[go_sem] theorem ta_133_123 (v : Value) (w : World) : (Instr.typeAssert (.iface 133 v) 82 123 true).run Try.prog w = .ok (.tuple #[.int .i32 0, .bool false]) w := by kernel_rfl
@[go_sem] theorem ta_133_124 (v : Value) (w : World) : (Instr.typeAssert (.iface 133 v) 82 124 true).run Try.prog w = .ok (.tuple #[.int .u32 0, .bool false]) w := by kernel_rfl
@[go_sem] theorem ta_133_125 (v : Value) (w : World) : (Instr.typeAssert (.iface 133 v) 82 125 true).run Try.prog w = .ok (.tuple #[.int .i64 0, .bool false]) w := by kernel_rfl
@[go_sem] theorem ta_133_126 (v : Value) (w : World) : (Instr.typeAssert (.iface 133 v) 82 126 true).run Try.prog w = .ok (.tuple #[.int .u64 0, .bool false]) w := by kernel_rfl
@[go_sem] theorem ta_133_128 (v : Value) (w : World) : (Instr.typeAssert (.iface 133 v) 82 128 true).run Try.prog w = .ok (.tuple #[.float .f32 0, .bool false]) w := by kernel_rfl
@[go_sem] theorem ta_133_131 (v : Value) (w : World) : (Instr.typeAssert (.iface 133 v) 82 131 true).run Try.prog w = .ok (.tuple #[.float .f64 0, .bool false]) w := by kernel_rfl
@[go_sem] theorem ta_133_133 (v : Value) (w : World) : (Instr.typeAssert (.iface 133 v) 82 133 true).run Try.prog w = .ok (.tuple #[v, .bool true]) w := by kernel_rfl

@[go_sem] theorem cf69 (n : Int) (w : World) : (callFunc 69 #[.int .u32 n]).run Try.prog w = .ok (.value (.float .f32 n.toNat)) w := by kernel_rfl
@[go_sem] theorem cf70 (n : Int) (w : World) : (callFunc 70 #[.int .u64 n]).run Try.prog w = .ok (.value (.float .f64 n.toNat)) w := by kernel_rfl
@[go_sem] theorem cf71 (n : Nat) (w : World) : (callFunc 71 #[.float .f32 n]).run Try.prog w = .ok (.value (.int .u32 n)) w := by kernel_rfl
@[go_sem] theorem cf72 (n : Nat) (w : World) : (callFunc 72 #[.float .f64 n]).run Try.prog w = .ok (.value (.int .u64 n)) w := by kernel_rfl
theorem unwrap_i8 (b : Int) : IntKind.i8.wrap b % 256 = b % 256 := by simp [IntKind.wrap, IntKind.bits, IntKind.signed]; omega
theorem unwrap_i16 (b : Int) : IntKind.i16.wrap b % 65536 = b % 65536 := by simp [IntKind.wrap, IntKind.bits, IntKind.signed]; omega
theorem unwrap_i32 (b : Int) : IntKind.i32.wrap b % 4294967296 = b % 4294967296 := by simp [IntKind.wrap, IntKind.bits, IntKind.signed]; omega
theorem unwrap_i64 (b : Int) (h0 : 0 ≤ b) (h1 : b < 18446744073709551616) : IntKind.i64.wrap b % 18446744073709551616 = b := by simp [IntKind.wrap, IntKind.bits, IntKind.signed]; omega
theorem range_u8 (b : Int) : 0 ≤ b % 256 ∧ b % 256 < 256 := by omega
theorem toNat_u32 (b : Int) : (((b % 4294967296).toNat : Nat) : Int) = b % 4294967296 := by omega
theorem toNat_u64 (b : Int) (h0 : 0 ≤ b) : ((b.toNat : Nat) : Int) = b := by omega

set_option maxHeartbeats 800000 in
set_option maxRecDepth 100000 in
theorem plain1 (b : Int) (w : World) (h0 : 0 ≤ b) (h1 : b < 18446744073709551616) :
    Calls Try.prog 52 #[.iface 118 (.int .i8 (IntKind.i8.wrap b))] w fun e w' => e = .returned (.agg #[.int .i64 1, .int .u64 (backB 1 b), .string ⟨#[]⟩]) ∧ Below w.heap.size w w' := by
  go_enter Try.func52, Try.ntmps52
  go_wp2
  go_returns
  exact ⟨ret_agg3 rfl (by first | rfl | (simp [backB]; done) | (simp only [backB, wrap_u8, wrap_u16, wrap_u32, wrap_u64, wrap64, unwrap_i8, unwrap_i16, unwrap_i32]; (try simp); (try omega); done) | (simp [backB, wrap_u8, wrap_u16, wrap_u32, wrap_u64, unwrap_i8, unwrap_i16, unwrap_i32, unwrap_i64 b h0 h1]; done) | (simp [backB, wrap32, wrap64, IntKind.wrap, IntKind.bits, IntKind.signed] <;> omega)) rfl, (Below.refl _ _).alloc (Nat.le_refl _) _⟩

set_option maxHeartbeats 800000 in
set_option maxRecDepth 100000 in
theorem plain2 (b : Int) (w : World) (h0 : 0 ≤ b) (h1 : b < 18446744073709551616) :
    Calls Try.prog 52 #[.iface 119 (.int .u8 (IntKind.u8.wrap b))] w fun e w' => e = .returned (.agg #[.int .i64 2, .int .u64 (backB 2 b), .string ⟨#[]⟩]) ∧ Below w.heap.size w w' := by
  go_enter Try.func52, Try.ntmps52
  go_wp2
  go_returns
  exact ⟨ret_agg3 rfl (by first | rfl | (simp [backB]; done) | (simp only [backB, wrap_u8, wrap_u16, wrap_u32, wrap_u64, wrap64, unwrap_i8, unwrap_i16, unwrap_i32]; (try simp); (try omega); done) | (simp [backB, wrap_u8, wrap_u16, wrap_u32, wrap_u64, unwrap_i8, unwrap_i16, unwrap_i32, unwrap_i64 b h0 h1]; done) | (simp [backB, wrap32, wrap64, IntKind.wrap, IntKind.bits, IntKind.signed] <;> omega)) rfl, (Below.refl _ _).alloc (Nat.le_refl _) _⟩

set_option maxHeartbeats 800000 in
set_option maxRecDepth 100000 in
theorem plain3 (b : Int) (w : World) (h0 : 0 ≤ b) (h1 : b < 18446744073709551616) :
    Calls Try.prog 52 #[.iface 121 (.int .i16 (IntKind.i16.wrap b))] w fun e w' => e = .returned (.agg #[.int .i64 3, .int .u64 (backB 3 b), .string ⟨#[]⟩]) ∧ Below w.heap.size w w' := by
  go_enter Try.func52, Try.ntmps52
  go_wp2
  go_returns
  exact ⟨ret_agg3 rfl (by first | rfl | (simp [backB]; done) | (simp only [backB, wrap_u8, wrap_u16, wrap_u32, wrap_u64, wrap64, unwrap_i8, unwrap_i16, unwrap_i32]; (try simp); (try omega); done) | (simp [backB, wrap_u8, wrap_u16, wrap_u32, wrap_u64, unwrap_i8, unwrap_i16, unwrap_i32, unwrap_i64 b h0 h1]; done) | (simp [backB, wrap32, wrap64, IntKind.wrap, IntKind.bits, IntKind.signed] <;> omega)) rfl, (Below.refl _ _).alloc (Nat.le_refl _) _⟩

set_option maxHeartbeats 800000 in
set_option maxRecDepth 100000 in
theorem plain4 (b : Int) (w : World) (h0 : 0 ≤ b) (h1 : b < 18446744073709551616) :
    Calls Try.prog 52 #[.iface 122 (.int .u16 (IntKind.u16.wrap b))] w fun e w' => e = .returned (.agg #[.int .i64 4, .int .u64 (backB 4 b), .string ⟨#[]⟩]) ∧ Below w.heap.size w w' := by
  go_enter Try.func52, Try.ntmps52
  go_wp2
  go_returns
  exact ⟨ret_agg3 rfl (by first | rfl | (simp [backB]; done) | (simp only [backB, wrap_u8, wrap_u16, wrap_u32, wrap_u64, wrap64, unwrap_i8, unwrap_i16, unwrap_i32]; (try simp); (try omega); done) | (simp [backB, wrap_u8, wrap_u16, wrap_u32, wrap_u64, unwrap_i8, unwrap_i16, unwrap_i32, unwrap_i64 b h0 h1]; done) | (simp [backB, wrap32, wrap64, IntKind.wrap, IntKind.bits, IntKind.signed] <;> omega)) rfl, (Below.refl _ _).alloc (Nat.le_refl _) _⟩

set_option maxHeartbeats 800000 in
set_option maxRecDepth 100000 in
theorem plain5 (b : Int) (w : World) (h0 : 0 ≤ b) (h1 : b < 18446744073709551616) :
    Calls Try.prog 52 #[.iface 123 (.int .i32 (IntKind.i32.wrap b))] w fun e w' => e = .returned (.agg #[.int .i64 5, .int .u64 (backB 5 b), .string ⟨#[]⟩]) ∧ Below w.heap.size w w' := by
  go_enter Try.func52, Try.ntmps52
  go_wp2
  go_returns
  exact ⟨ret_agg3 rfl (by first | rfl | (simp [backB]; done) | (simp only [backB, wrap_u8, wrap_u16, wrap_u32, wrap_u64, wrap64, unwrap_i8, unwrap_i16, unwrap_i32]; (try simp); (try omega); done) | (simp [backB, wrap_u8, wrap_u16, wrap_u32, wrap_u64, unwrap_i8, unwrap_i16, unwrap_i32, unwrap_i64 b h0 h1]; done) | (simp [backB, wrap32, wrap64, IntKind.wrap, IntKind.bits, IntKind.signed] <;> omega)) rfl, (Below.refl _ _).alloc (Nat.le_refl _) _⟩

set_option maxHeartbeats 800000 in
set_option maxRecDepth 100000 in
theorem plain6 (b : Int) (w : World) (h0 : 0 ≤ b) (h1 : b < 18446744073709551616) :
    Calls Try.prog 52 #[.iface 124 (.int .u32 (IntKind.u32.wrap b))] w fun e w' => e = .returned (.agg #[.int .i64 6, .int .u64 (backB 6 b), .string ⟨#[]⟩]) ∧ Below w.heap.size w w' := by
  go_enter Try.func52, Try.ntmps52
  go_wp2
  go_returns
  exact ⟨ret_agg3 rfl (by first | rfl | (simp [backB]; done) | (simp only [backB, wrap_u8, wrap_u16, wrap_u32, wrap_u64, wrap64, unwrap_i8, unwrap_i16, unwrap_i32]; (try simp); (try omega); done) | (simp [backB, wrap_u8, wrap_u16, wrap_u32, wrap_u64, unwrap_i8, unwrap_i16, unwrap_i32, unwrap_i64 b h0 h1]; done) | (simp [backB, wrap32, wrap64, IntKind.wrap, IntKind.bits, IntKind.signed] <;> omega)) rfl, (Below.refl _ _).alloc (Nat.le_refl _) _⟩

set_option maxHeartbeats 800000 in
set_option maxRecDepth 100000 in
theorem plain7 (b : Int) (w : World) (h0 : 0 ≤ b) (h1 : b < 18446744073709551616) :
    Calls Try.prog 52 #[.iface 125 (.int .i64 (IntKind.i64.wrap b))] w fun e w' => e = .returned (.agg #[.int .i64 7, .int .u64 (backB 7 b), .string ⟨#[]⟩]) ∧ Below w.heap.size w w' := by
  go_enter Try.func52, Try.ntmps52
  go_wp2
  go_returns
  exact ⟨ret_agg3 rfl (by first | rfl | (simp [backB]; done) | (simp only [backB, wrap_u8, wrap_u16, wrap_u32, wrap_u64, wrap64, unwrap_i8, unwrap_i16, unwrap_i32]; (try simp); (try omega); done) | (simp [backB, wrap_u8, wrap_u16, wrap_u32, wrap_u64, unwrap_i8, unwrap_i16, unwrap_i32, unwrap_i64 b h0 h1]; done) | (simp [backB, wrap32, wrap64, IntKind.wrap, IntKind.bits, IntKind.signed] <;> omega)) rfl, (Below.refl _ _).alloc (Nat.le_refl _) _⟩

set_option maxHeartbeats 800000 in
set_option maxRecDepth 100000 in
theorem plain8 (b : Int) (w : World) (h0 : 0 ≤ b) (h1 : b < 18446744073709551616) :
    Calls Try.prog 52 #[.iface 126 (.int .u64 (IntKind.u64.wrap b))] w fun e w' => e = .returned (.agg #[.int .i64 8, .int .u64 (backB 8 b), .string ⟨#[]⟩]) ∧ Below w.heap.size w w' := by
  go_enter Try.func52, Try.ntmps52
  go_wp2
  go_returns
  exact ⟨ret_agg3 rfl (by first | rfl | (simp [backB]; done) | (simp only [backB, wrap_u8, wrap_u16, wrap_u32, wrap_u64, wrap64, unwrap_i8, unwrap_i16, unwrap_i32]; (try simp); (try omega); done) | (simp [backB, wrap_u8, wrap_u16, wrap_u32, wrap_u64, unwrap_i8, unwrap_i16, unwrap_i32, unwrap_i64 b h0 h1]; done) | (simp [backB, wrap32, wrap64, IntKind.wrap, IntKind.bits, IntKind.signed] <;> omega)) rfl, (Below.refl _ _).alloc (Nat.le_refl _) _⟩

set_option maxHeartbeats 800000 in
set_option maxRecDepth 100000 in
theorem plain9 (b : Int) (w : World) (h0 : 0 ≤ b) (h1 : b < 18446744073709551616) :
    Calls Try.prog 52 #[.iface 128 (.float .f32 (IntKind.u32.wrap b).toNat)] w fun e w' => e = .returned (.agg #[.int .i64 9, .int .u64 (backB 9 b), .string ⟨#[]⟩]) ∧ Below w.heap.size w w' := by
  go_enter Try.func52, Try.ntmps52
  go_wp2
  go_returns
  exact ⟨ret_agg3 rfl (by first | rfl | (simp [backB]; done) | (simp only [backB, wrap_u8, wrap_u16, wrap_u32, wrap_u64, wrap64, unwrap_i8, unwrap_i16, unwrap_i32]; (try simp); (try omega); done) | (simp [backB, wrap_u8, wrap_u16, wrap_u32, wrap_u64, unwrap_i8, unwrap_i16, unwrap_i32, unwrap_i64 b h0 h1]; done) | (simp [backB, wrap32, wrap64, IntKind.wrap, IntKind.bits, IntKind.signed] <;> omega)) rfl, (Below.refl _ _).alloc (Nat.le_refl _) _⟩

set_option maxHeartbeats 800000 in
set_option maxRecDepth 100000 in
theorem plain10 (b : Int) (w : World) (h0 : 0 ≤ b) (h1 : b < 18446744073709551616) :
    Calls Try.prog 52 #[.iface 131 (.float .f64 b.toNat)] w fun e w' => e = .returned (.agg #[.int .i64 10, .int .u64 (backB 10 b), .string ⟨#[]⟩]) ∧ Below w.heap.size w w' := by
  go_enter Try.func52, Try.ntmps52
  go_wp2
  go_returns
  exact ⟨ret_agg3 rfl (by first | rfl | (simp [backB]; done) | (simp only [backB, wrap_u8, wrap_u16, wrap_u32, wrap_u64, wrap64, unwrap_i8, unwrap_i16, unwrap_i32]; (try simp); (try omega); done) | (simp [backB, wrap_u8, wrap_u16, wrap_u32, wrap_u64, unwrap_i8, unwrap_i16, unwrap_i32, unwrap_i64 b h0 h1]; done) | (simp [backB, wrap32, wrap64, IntKind.wrap, IntKind.bits, IntKind.signed] <;> omega)) rfl, (Below.refl _ _).alloc (Nat.le_refl _) _⟩

set_option maxHeartbeats 800000 in
set_option maxRecDepth 100000 in
theorem plain11 (t : ByteArray) (w : World) :
    Calls Try.prog 52 #[.iface 133 (.string t)] w fun e w' => e = .returned (.agg #[.int .i64 11, .int .u64 0, .string t]) ∧ Below w.heap.size w w' := by
  go_enter Try.func52, Try.ntmps52
  go_wp2
  go_returns
  exact ⟨rfl, (Below.refl _ _).alloc (Nat.le_refl _) _⟩

theorem ret2 {a b a' b' : Value} (h1 : a = a') (h2 : b = b') : Ending.returned (.tuple #[a, b]) = .returned (.tuple #[a', b']) := by rw [h1, h2]

set_option maxHeartbeats 800000 in
set_option maxRecDepth 100000 in
theorem const1 (b : Int) (t : ByteArray) (w : World) (h0 : 0 ≤ b) (h1 : b < 18446744073709551616) :
    Calls Try.prog 49 #[.agg #[.int .i64 1, .int .u64 b, .string t]] w fun e w' => e = .returned (.tuple #[.iface 118 (.int .i8 (IntKind.i8.wrap b)), .bool true]) ∧ Below w.heap.size w w' := by
  go_enter Try.func49, Try.ntmps49
  go_wp2
  go_ret2
  refine ⟨ret2 ?_ rfl, (Below.refl _ _).alloc (Nat.le_refl _) _⟩
  first | rfl | (simp; done) | (show Value.iface 123 (.int .i32 (wrap32 b)) = .iface 123 (.int .i32 (IntKind.i32.wrap b)); rw [IntWalk.i32_left]) | (show Value.iface 125 (.int .i64 (wrap64 b)) = .iface 125 (.int .i64 (IntKind.i64.wrap b)); rw [IntWalk.i64_left]) | (simp [wrap32, wrap64, IntKind.wrap, IntKind.bits, IntKind.signed]; done) | (simp [wrap_u8, wrap_u16, wrap_u32, wrap_u64]; omega)

set_option maxHeartbeats 800000 in
set_option maxRecDepth 100000 in
theorem const2 (b : Int) (t : ByteArray) (w : World) (h0 : 0 ≤ b) (h1 : b < 18446744073709551616) :
    Calls Try.prog 49 #[.agg #[.int .i64 2, .int .u64 b, .string t]] w fun e w' => e = .returned (.tuple #[.iface 119 (.int .u8 (IntKind.u8.wrap b)), .bool true]) ∧ Below w.heap.size w w' := by
  go_enter Try.func49, Try.ntmps49
  go_wp2
  go_ret2
  refine ⟨ret2 ?_ rfl, (Below.refl _ _).alloc (Nat.le_refl _) _⟩
  first | rfl | (simp; done) | (show Value.iface 123 (.int .i32 (wrap32 b)) = .iface 123 (.int .i32 (IntKind.i32.wrap b)); rw [IntWalk.i32_left]) | (show Value.iface 125 (.int .i64 (wrap64 b)) = .iface 125 (.int .i64 (IntKind.i64.wrap b)); rw [IntWalk.i64_left]) | (simp [wrap32, wrap64, IntKind.wrap, IntKind.bits, IntKind.signed]; done) | (simp [wrap_u8, wrap_u16, wrap_u32, wrap_u64]; omega)

set_option maxHeartbeats 800000 in
set_option maxRecDepth 100000 in
theorem const3 (b : Int) (t : ByteArray) (w : World) (h0 : 0 ≤ b) (h1 : b < 18446744073709551616) :
    Calls Try.prog 49 #[.agg #[.int .i64 3, .int .u64 b, .string t]] w fun e w' => e = .returned (.tuple #[.iface 121 (.int .i16 (IntKind.i16.wrap b)), .bool true]) ∧ Below w.heap.size w w' := by
  go_enter Try.func49, Try.ntmps49
  go_wp2
  go_ret2
  refine ⟨ret2 ?_ rfl, (Below.refl _ _).alloc (Nat.le_refl _) _⟩
  first | rfl | (simp; done) | (show Value.iface 123 (.int .i32 (wrap32 b)) = .iface 123 (.int .i32 (IntKind.i32.wrap b)); rw [IntWalk.i32_left]) | (show Value.iface 125 (.int .i64 (wrap64 b)) = .iface 125 (.int .i64 (IntKind.i64.wrap b)); rw [IntWalk.i64_left]) | (simp [wrap32, wrap64, IntKind.wrap, IntKind.bits, IntKind.signed]; done) | (simp [wrap_u8, wrap_u16, wrap_u32, wrap_u64]; omega)

set_option maxHeartbeats 800000 in
set_option maxRecDepth 100000 in
theorem const4 (b : Int) (t : ByteArray) (w : World) (h0 : 0 ≤ b) (h1 : b < 18446744073709551616) :
    Calls Try.prog 49 #[.agg #[.int .i64 4, .int .u64 b, .string t]] w fun e w' => e = .returned (.tuple #[.iface 122 (.int .u16 (IntKind.u16.wrap b)), .bool true]) ∧ Below w.heap.size w w' := by
  go_enter Try.func49, Try.ntmps49
  go_wp2
  go_ret2
  refine ⟨ret2 ?_ rfl, (Below.refl _ _).alloc (Nat.le_refl _) _⟩
  first | rfl | (simp; done) | (show Value.iface 123 (.int .i32 (wrap32 b)) = .iface 123 (.int .i32 (IntKind.i32.wrap b)); rw [IntWalk.i32_left]) | (show Value.iface 125 (.int .i64 (wrap64 b)) = .iface 125 (.int .i64 (IntKind.i64.wrap b)); rw [IntWalk.i64_left]) | (simp [wrap32, wrap64, IntKind.wrap, IntKind.bits, IntKind.signed]; done) | (simp [wrap_u8, wrap_u16, wrap_u32, wrap_u64]; omega)

set_option maxHeartbeats 800000 in
set_option maxRecDepth 100000 in
theorem const5 (b : Int) (t : ByteArray) (w : World) (h0 : 0 ≤ b) (h1 : b < 18446744073709551616) :
    Calls Try.prog 49 #[.agg #[.int .i64 5, .int .u64 b, .string t]] w fun e w' => e = .returned (.tuple #[.iface 123 (.int .i32 (IntKind.i32.wrap b)), .bool true]) ∧ Below w.heap.size w w' := by
  go_enter Try.func49, Try.ntmps49
  go_wp2
  go_ret2
  refine ⟨ret2 ?_ rfl, (Below.refl _ _).alloc (Nat.le_refl _) _⟩
  first | rfl | (simp; done) | (show Value.iface 123 (.int .i32 (wrap32 b)) = .iface 123 (.int .i32 (IntKind.i32.wrap b)); rw [IntWalk.i32_left]) | (show Value.iface 125 (.int .i64 (wrap64 b)) = .iface 125 (.int .i64 (IntKind.i64.wrap b)); rw [IntWalk.i64_left]) | (simp [wrap32, wrap64, IntKind.wrap, IntKind.bits, IntKind.signed]; done) | (simp [wrap_u8, wrap_u16, wrap_u32, wrap_u64]; omega)

set_option maxHeartbeats 800000 in
set_option maxRecDepth 100000 in
theorem const6 (b : Int) (t : ByteArray) (w : World) (h0 : 0 ≤ b) (h1 : b < 18446744073709551616) :
    Calls Try.prog 49 #[.agg #[.int .i64 6, .int .u64 b, .string t]] w fun e w' => e = .returned (.tuple #[.iface 124 (.int .u32 (IntKind.u32.wrap b)), .bool true]) ∧ Below w.heap.size w w' := by
  go_enter Try.func49, Try.ntmps49
  go_wp2
  go_ret2
  refine ⟨ret2 ?_ rfl, (Below.refl _ _).alloc (Nat.le_refl _) _⟩
  first | rfl | (simp; done) | (show Value.iface 123 (.int .i32 (wrap32 b)) = .iface 123 (.int .i32 (IntKind.i32.wrap b)); rw [IntWalk.i32_left]) | (show Value.iface 125 (.int .i64 (wrap64 b)) = .iface 125 (.int .i64 (IntKind.i64.wrap b)); rw [IntWalk.i64_left]) | (simp [wrap32, wrap64, IntKind.wrap, IntKind.bits, IntKind.signed]; done) | (simp [wrap_u8, wrap_u16, wrap_u32, wrap_u64]; omega)

set_option maxHeartbeats 800000 in
set_option maxRecDepth 100000 in
theorem const7 (b : Int) (t : ByteArray) (w : World) (h0 : 0 ≤ b) (h1 : b < 18446744073709551616) :
    Calls Try.prog 49 #[.agg #[.int .i64 7, .int .u64 b, .string t]] w fun e w' => e = .returned (.tuple #[.iface 125 (.int .i64 (IntKind.i64.wrap b)), .bool true]) ∧ Below w.heap.size w w' := by
  go_enter Try.func49, Try.ntmps49
  go_wp2
  go_ret2
  refine ⟨ret2 ?_ rfl, (Below.refl _ _).alloc (Nat.le_refl _) _⟩
  first | rfl | (simp; done) | (show Value.iface 123 (.int .i32 (wrap32 b)) = .iface 123 (.int .i32 (IntKind.i32.wrap b)); rw [IntWalk.i32_left]) | (show Value.iface 125 (.int .i64 (wrap64 b)) = .iface 125 (.int .i64 (IntKind.i64.wrap b)); rw [IntWalk.i64_left]) | (simp [wrap32, wrap64, IntKind.wrap, IntKind.bits, IntKind.signed]; done) | (simp [wrap_u8, wrap_u16, wrap_u32, wrap_u64]; omega)

set_option maxHeartbeats 800000 in
set_option maxRecDepth 100000 in
theorem const8 (b : Int) (t : ByteArray) (w : World) (h0 : 0 ≤ b) (h1 : b < 18446744073709551616) :
    Calls Try.prog 49 #[.agg #[.int .i64 8, .int .u64 b, .string t]] w fun e w' => e = .returned (.tuple #[.iface 126 (.int .u64 (IntKind.u64.wrap b)), .bool true]) ∧ Below w.heap.size w w' := by
  go_enter Try.func49, Try.ntmps49
  go_wp2
  go_ret2
  refine ⟨ret2 ?_ rfl, (Below.refl _ _).alloc (Nat.le_refl _) _⟩
  first | rfl | (simp; done) | (show Value.iface 123 (.int .i32 (wrap32 b)) = .iface 123 (.int .i32 (IntKind.i32.wrap b)); rw [IntWalk.i32_left]) | (show Value.iface 125 (.int .i64 (wrap64 b)) = .iface 125 (.int .i64 (IntKind.i64.wrap b)); rw [IntWalk.i64_left]) | (simp [wrap32, wrap64, IntKind.wrap, IntKind.bits, IntKind.signed]; done) | (simp [wrap_u8, wrap_u16, wrap_u32, wrap_u64]; omega)

set_option maxHeartbeats 800000 in
set_option maxRecDepth 100000 in
theorem const9 (b : Int) (t : ByteArray) (w : World) (h0 : 0 ≤ b) (h1 : b < 18446744073709551616) :
    Calls Try.prog 49 #[.agg #[.int .i64 9, .int .u64 b, .string t]] w fun e w' => e = .returned (.tuple #[.iface 128 (.float .f32 (IntKind.u32.wrap b).toNat), .bool true]) ∧ Below w.heap.size w w' := by
  go_enter Try.func49, Try.ntmps49
  go_wp2
  go_ret2
  refine ⟨ret2 ?_ rfl, (Below.refl _ _).alloc (Nat.le_refl _) _⟩
  first | rfl | (simp; done) | (show Value.iface 123 (.int .i32 (wrap32 b)) = .iface 123 (.int .i32 (IntKind.i32.wrap b)); rw [IntWalk.i32_left]) | (show Value.iface 125 (.int .i64 (wrap64 b)) = .iface 125 (.int .i64 (IntKind.i64.wrap b)); rw [IntWalk.i64_left]) | (simp [wrap32, wrap64, IntKind.wrap, IntKind.bits, IntKind.signed]; done) | (simp [wrap_u8, wrap_u16, wrap_u32, wrap_u64]; omega)

set_option maxHeartbeats 800000 in
set_option maxRecDepth 100000 in
theorem const10 (b : Int) (t : ByteArray) (w : World) (h0 : 0 ≤ b) (h1 : b < 18446744073709551616) :
    Calls Try.prog 49 #[.agg #[.int .i64 10, .int .u64 b, .string t]] w fun e w' => e = .returned (.tuple #[.iface 131 (.float .f64 b.toNat), .bool true]) ∧ Below w.heap.size w w' := by
  go_enter Try.func49, Try.ntmps49
  go_wp2
  go_ret2
  refine ⟨ret2 ?_ rfl, (Below.refl _ _).alloc (Nat.le_refl _) _⟩
  first | rfl | (simp; done) | (show Value.iface 123 (.int .i32 (wrap32 b)) = .iface 123 (.int .i32 (IntKind.i32.wrap b)); rw [IntWalk.i32_left]) | (show Value.iface 125 (.int .i64 (wrap64 b)) = .iface 125 (.int .i64 (IntKind.i64.wrap b)); rw [IntWalk.i64_left]) | (simp [wrap32, wrap64, IntKind.wrap, IntKind.bits, IntKind.signed]; done) | (simp [wrap_u8, wrap_u16, wrap_u32, wrap_u64]; omega)

set_option maxHeartbeats 800000 in
set_option maxRecDepth 100000 in
theorem const11 (b : Int) (t : ByteArray) (w : World) (h0 : 0 ≤ b) (h1 : b < 18446744073709551616) :
    Calls Try.prog 49 #[.agg #[.int .i64 11, .int .u64 b, .string t]] w fun e w' => e = .returned (.tuple #[.iface 133 (.string t), .bool true]) ∧ Below w.heap.size w w' := by
  go_enter Try.func49, Try.ntmps49
  go_wp2
  go_ret2
  refine ⟨ret2 ?_ rfl, (Below.refl _ _).alloc (Nat.le_refl _) _⟩
  first | rfl | (simp; done) | (show Value.iface 123 (.int .i32 (wrap32 b)) = .iface 123 (.int .i32 (IntKind.i32.wrap b)); rw [IntWalk.i32_left]) | (show Value.iface 125 (.int .i64 (wrap64 b)) = .iface 125 (.int .i64 (IntKind.i64.wrap b)); rw [IntWalk.i64_left]) | (simp [wrap32, wrap64, IntKind.wrap, IntKind.bits, IntKind.signed]; done) | (simp [wrap_u8, wrap_u16, wrap_u32, wrap_u64]; omega)

set_option maxHeartbeats 800000 in
set_option maxRecDepth 100000 in
theorem constNone (k b : Int) (t : ByteArray) (w : World) (n1 : (k == 1) = false) (n2 : (k == 2) = false) (n3 : (k == 3) = false) (n4 : (k == 4) = false) (n5 : (k == 5) = false) (n6 : (k == 6) = false) (n7 : (k == 7) = false) (n8 : (k == 8) = false) (n9 : (k == 9) = false) (n10 : (k == 10) = false) (n11 : (k == 11) = false) :
    Calls Try.prog 49 #[.agg #[.int .i64 k, .int .u64 b, .string t]] w fun e w' => e = .returned (.tuple #[.nilIface, .bool false]) ∧ Below w.heap.size w w' := by
  go_enter Try.func49, Try.ntmps49
  go_wp2
  go_ret2
  exact ⟨rfl, (Below.refl _ _).alloc (Nat.le_refl _) _⟩
end Go.Proofs.Ytknldfighehplaa.HConst
