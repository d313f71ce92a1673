/- Contracts of impl.Imm and impl.Bytes; no conditions beyond the numbers' ranges. -/
import Derived.Test.YtknldfighehplaaHConst
namespace Go.Proofs.Ytknldfighehplaa.HImm
set_option linter.unusedSimpArgs false
set_option linter.unusedVariables false
open Go.RowKit Go.Proofs.Ytknldfighehplaa.HConst Go.Proofs.YtknldfighehplaaW.PrintWords Go.Proofs.YtknldfighehplaaW.PrintLast Go.Proofs.YtknldfighehplaaW.PrintMore
theorem bcell {W w1 : World} (hb : Below W.heap.size W w1) : (∀ b o, b < W.heap.size → w1.cell? ⟨b, o, none⟩ = W.cell? ⟨b, o, none⟩) ∧ (∀ b o, b < W.heap.size → w1.frozen? ⟨b, o, none⟩ = W.frozen? ⟨b, o, none⟩) :=
  ⟨fun b o h => hb.cell (p := ⟨b, o, none⟩) h, fun b o h => hb.frozen (p := ⟨b, o, none⟩) h⟩

theorem wrapped0 (x : Int) (h0 : 0 ≤ x) (h1 : x < 256) : IntKind.u8.wrap x = x := by simp [IntKind.wrap_u8, IntKind.wrap_u16, IntKind.wrap_u32, IntKind.wrap_u64]; omega
theorem back0 (x : Int) (h0 : 0 ≤ x) (h1 : x < 256) : backB 2 x = x := by simp [backB]; try omega
theorem plainI0 (x : Int) (w : World) (h0 : 0 ≤ x) (h1 : x < 256) :
    Calls Try.prog 52 #[.iface 119 (.int .u8 x)] w fun e w' => e = .returned (.agg #[.int .i64 2, .int .u64 x, .string ⟨#[]⟩]) ∧ Below w.heap.size w w' := by
  have h := plain2 x w (by omega) (by omega)
  rwa [wrapped0 x h0 h1, back0 x h0 h1] at h
set_option maxHeartbeats 400000 in
theorem implImm0 (x : Int) (w : World) (h0 : 0 ≤ x) (h1 : x < 256) :
    Calls Try.prog 26 #[.int .u64 x] w fun e w' => e = .returned (.agg #[.int .i64 2, .int .u64 x, .string ⟨#[]⟩]) ∧ Below w.heap.size w w' := by
  go_enter Try.func26, Try.ntmps26
  go_wp2_with (first | (go_at_call 53; refine (imm0 x _ h0 h1).mono ?_; rintro e w' ⟨rfl, rfl⟩) | (go_at_call 52; refine (plainI0 x _ h0 h1).mono ?_; rintro e w1 ⟨rfl, hb⟩; obtain ⟨hc, hf⟩ := bcell hb; have hz : w.heap.size < w1.heap.size := by have := hb.size; simp at this; omega))
  refine bodyPost_ret (v := .agg #[.int .i64 2, .int .u64 x, .string ⟨#[]⟩]) (by simp [results, Try.results26, go_sem, hc, hz]) rfl ⟨rfl, ?_⟩
  exact (((((Below.refl _ _).alloc (Nat.le_refl _) _).trans (hb.mono (by simp))).setCell (by simp) _).setCell (by simp) _).setCell (by simp) _

theorem wrapped1 (x : Int) (h0 : 256 ≤ x) (h1 : x < 65536) : IntKind.u16.wrap x = x := by simp [IntKind.wrap_u8, IntKind.wrap_u16, IntKind.wrap_u32, IntKind.wrap_u64]; omega
theorem back1 (x : Int) (h0 : 256 ≤ x) (h1 : x < 65536) : backB 4 x = x := by simp [backB]; try omega
theorem plainI1 (x : Int) (w : World) (h0 : 256 ≤ x) (h1 : x < 65536) :
    Calls Try.prog 52 #[.iface 122 (.int .u16 x)] w fun e w' => e = .returned (.agg #[.int .i64 4, .int .u64 x, .string ⟨#[]⟩]) ∧ Below w.heap.size w w' := by
  have h := plain4 x w (by omega) (by omega)
  rwa [wrapped1 x h0 h1, back1 x h0 h1] at h
set_option maxHeartbeats 400000 in
theorem implImm1 (x : Int) (w : World) (h0 : 256 ≤ x) (h1 : x < 65536) :
    Calls Try.prog 26 #[.int .u64 x] w fun e w' => e = .returned (.agg #[.int .i64 4, .int .u64 x, .string ⟨#[]⟩]) ∧ Below w.heap.size w w' := by
  go_enter Try.func26, Try.ntmps26
  go_wp2_with (first | (go_at_call 53; refine (imm1 x _ h0 h1).mono ?_; rintro e w' ⟨rfl, rfl⟩) | (go_at_call 52; refine (plainI1 x _ h0 h1).mono ?_; rintro e w1 ⟨rfl, hb⟩; obtain ⟨hc, hf⟩ := bcell hb; have hz : w.heap.size < w1.heap.size := by have := hb.size; simp at this; omega))
  refine bodyPost_ret (v := .agg #[.int .i64 4, .int .u64 x, .string ⟨#[]⟩]) (by simp [results, Try.results26, go_sem, hc, hz]) rfl ⟨rfl, ?_⟩
  exact (((((Below.refl _ _).alloc (Nat.le_refl _) _).trans (hb.mono (by simp))).setCell (by simp) _).setCell (by simp) _).setCell (by simp) _

theorem wrapped2 (x : Int) (h0 : 65536 ≤ x) (h1 : x < 4294967296) : IntKind.u32.wrap x = x := by simp [IntKind.wrap_u8, IntKind.wrap_u16, IntKind.wrap_u32, IntKind.wrap_u64]; omega
theorem back2 (x : Int) (h0 : 65536 ≤ x) (h1 : x < 4294967296) : backB 6 x = x := by simp [backB]; try omega
theorem plainI2 (x : Int) (w : World) (h0 : 65536 ≤ x) (h1 : x < 4294967296) :
    Calls Try.prog 52 #[.iface 124 (.int .u32 x)] w fun e w' => e = .returned (.agg #[.int .i64 6, .int .u64 x, .string ⟨#[]⟩]) ∧ Below w.heap.size w w' := by
  have h := plain6 x w (by omega) (by omega)
  rwa [wrapped2 x h0 h1, back2 x h0 h1] at h
set_option maxHeartbeats 400000 in
theorem implImm2 (x : Int) (w : World) (h0 : 65536 ≤ x) (h1 : x < 4294967296) :
    Calls Try.prog 26 #[.int .u64 x] w fun e w' => e = .returned (.agg #[.int .i64 6, .int .u64 x, .string ⟨#[]⟩]) ∧ Below w.heap.size w w' := by
  go_enter Try.func26, Try.ntmps26
  go_wp2_with (first | (go_at_call 53; refine (imm2 x _ h0 h1).mono ?_; rintro e w' ⟨rfl, rfl⟩) | (go_at_call 52; refine (plainI2 x _ h0 h1).mono ?_; rintro e w1 ⟨rfl, hb⟩; obtain ⟨hc, hf⟩ := bcell hb; have hz : w.heap.size < w1.heap.size := by have := hb.size; simp at this; omega))
  refine bodyPost_ret (v := .agg #[.int .i64 6, .int .u64 x, .string ⟨#[]⟩]) (by simp [results, Try.results26, go_sem, hc, hz]) rfl ⟨rfl, ?_⟩
  exact (((((Below.refl _ _).alloc (Nat.le_refl _) _).trans (hb.mono (by simp))).setCell (by simp) _).setCell (by simp) _).setCell (by simp) _

theorem wrapped3 (x : Int) (h0 : 4294967296 ≤ x) (h1 : x < 18446744073709551616) : IntKind.u64.wrap x = x := by simp [IntKind.wrap_u8, IntKind.wrap_u16, IntKind.wrap_u32, IntKind.wrap_u64]; omega
theorem back3 (x : Int) (h0 : 4294967296 ≤ x) (h1 : x < 18446744073709551616) : backB 8 x = x := by simp [backB]; try omega
theorem plainI3 (x : Int) (w : World) (h0 : 4294967296 ≤ x) (h1 : x < 18446744073709551616) :
    Calls Try.prog 52 #[.iface 126 (.int .u64 x)] w fun e w' => e = .returned (.agg #[.int .i64 8, .int .u64 x, .string ⟨#[]⟩]) ∧ Below w.heap.size w w' := by
  have h := plain8 x w (by omega) (by omega)
  rwa [wrapped3 x h0 h1, back3 x h0 h1] at h
set_option maxHeartbeats 400000 in
theorem implImm3 (x : Int) (w : World) (h0 : 4294967296 ≤ x) (h1 : x < 18446744073709551616) :
    Calls Try.prog 26 #[.int .u64 x] w fun e w' => e = .returned (.agg #[.int .i64 8, .int .u64 x, .string ⟨#[]⟩]) ∧ Below w.heap.size w w' := by
  go_enter Try.func26, Try.ntmps26
  go_wp2_with (first | (go_at_call 53; refine (imm3 x _ h0 h1).mono ?_; rintro e w' ⟨rfl, rfl⟩) | (go_at_call 52; refine (plainI3 x _ h0 h1).mono ?_; rintro e w1 ⟨rfl, hb⟩; obtain ⟨hc, hf⟩ := bcell hb; have hz : w.heap.size < w1.heap.size := by have := hb.size; simp at this; omega))
  refine bodyPost_ret (v := .agg #[.int .i64 8, .int .u64 x, .string ⟨#[]⟩]) (by simp [results, Try.results26, go_sem, hc, hz]) rfl ⟨rfl, ?_⟩
  exact (((((Below.refl _ _).alloc (Nat.le_refl _) _).trans (hb.mono (by simp))).setCell (by simp) _).setCell (by simp) _).setCell (by simp) _

set_option maxHeartbeats 400000 in
theorem implBytes1 (b : Int) (t : ByteArray) (w : World) (h0 : 0 ≤ b) (h1 : b < 18446744073709551616) :
    Calls Try.prog 29 #[.agg #[.int .i64 1, .int .u64 b, .string t]] w fun e w' => e = .returned (.int .i64 1) ∧ Below w.heap.size w w' := by
  go_enter Try.func29, Try.ntmps29
  go_wp2_with (first | (go_at_call 49; refine (const1 b t _ h0 h1).mono ?_; rintro e w1 ⟨rfl, hb⟩) | go_in)
  go_ret
  exact ⟨rfl, by repeat (first | exact Below.refl _ _ | exact (((Below.refl _ _).alloc (Nat.le_refl _) _).trans (hb.mono (by simp))) | (refine Below.alloc ?_ ?_ _))⟩

set_option maxHeartbeats 400000 in
theorem implBytes2 (b : Int) (t : ByteArray) (w : World) (h0 : 0 ≤ b) (h1 : b < 18446744073709551616) :
    Calls Try.prog 29 #[.agg #[.int .i64 2, .int .u64 b, .string t]] w fun e w' => e = .returned (.int .i64 1) ∧ Below w.heap.size w w' := by
  go_enter Try.func29, Try.ntmps29
  go_wp2_with (first | (go_at_call 49; refine (const2 b t _ h0 h1).mono ?_; rintro e w1 ⟨rfl, hb⟩) | go_in)
  go_ret
  exact ⟨rfl, by repeat (first | exact Below.refl _ _ | exact (((Below.refl _ _).alloc (Nat.le_refl _) _).trans (hb.mono (by simp))) | (refine Below.alloc ?_ ?_ _))⟩

set_option maxHeartbeats 400000 in
theorem implBytes3 (b : Int) (t : ByteArray) (w : World) (h0 : 0 ≤ b) (h1 : b < 18446744073709551616) :
    Calls Try.prog 29 #[.agg #[.int .i64 3, .int .u64 b, .string t]] w fun e w' => e = .returned (.int .i64 2) ∧ Below w.heap.size w w' := by
  go_enter Try.func29, Try.ntmps29
  go_wp2_with (first | (go_at_call 49; refine (const3 b t _ h0 h1).mono ?_; rintro e w1 ⟨rfl, hb⟩) | go_in)
  go_ret
  exact ⟨rfl, by repeat (first | exact Below.refl _ _ | exact (((Below.refl _ _).alloc (Nat.le_refl _) _).trans (hb.mono (by simp))) | (refine Below.alloc ?_ ?_ _))⟩

set_option maxHeartbeats 400000 in
theorem implBytes4 (b : Int) (t : ByteArray) (w : World) (h0 : 0 ≤ b) (h1 : b < 18446744073709551616) :
    Calls Try.prog 29 #[.agg #[.int .i64 4, .int .u64 b, .string t]] w fun e w' => e = .returned (.int .i64 2) ∧ Below w.heap.size w w' := by
  go_enter Try.func29, Try.ntmps29
  go_wp2_with (first | (go_at_call 49; refine (const4 b t _ h0 h1).mono ?_; rintro e w1 ⟨rfl, hb⟩) | go_in)
  go_ret
  exact ⟨rfl, by repeat (first | exact Below.refl _ _ | exact (((Below.refl _ _).alloc (Nat.le_refl _) _).trans (hb.mono (by simp))) | (refine Below.alloc ?_ ?_ _))⟩

set_option maxHeartbeats 400000 in
theorem implBytes5 (b : Int) (t : ByteArray) (w : World) (h0 : 0 ≤ b) (h1 : b < 18446744073709551616) :
    Calls Try.prog 29 #[.agg #[.int .i64 5, .int .u64 b, .string t]] w fun e w' => e = .returned (.int .i64 4) ∧ Below w.heap.size w w' := by
  go_enter Try.func29, Try.ntmps29
  go_wp2_with (first | (go_at_call 49; refine (const5 b t _ h0 h1).mono ?_; rintro e w1 ⟨rfl, hb⟩) | go_in)
  go_ret
  exact ⟨rfl, by repeat (first | exact Below.refl _ _ | exact (((Below.refl _ _).alloc (Nat.le_refl _) _).trans (hb.mono (by simp))) | (refine Below.alloc ?_ ?_ _))⟩

set_option maxHeartbeats 400000 in
theorem implBytes6 (b : Int) (t : ByteArray) (w : World) (h0 : 0 ≤ b) (h1 : b < 18446744073709551616) :
    Calls Try.prog 29 #[.agg #[.int .i64 6, .int .u64 b, .string t]] w fun e w' => e = .returned (.int .i64 4) ∧ Below w.heap.size w w' := by
  go_enter Try.func29, Try.ntmps29
  go_wp2_with (first | (go_at_call 49; refine (const6 b t _ h0 h1).mono ?_; rintro e w1 ⟨rfl, hb⟩) | go_in)
  go_ret
  exact ⟨rfl, by repeat (first | exact Below.refl _ _ | exact (((Below.refl _ _).alloc (Nat.le_refl _) _).trans (hb.mono (by simp))) | (refine Below.alloc ?_ ?_ _))⟩

set_option maxHeartbeats 400000 in
theorem implBytes7 (b : Int) (t : ByteArray) (w : World) (h0 : 0 ≤ b) (h1 : b < 18446744073709551616) :
    Calls Try.prog 29 #[.agg #[.int .i64 7, .int .u64 b, .string t]] w fun e w' => e = .returned (.int .i64 8) ∧ Below w.heap.size w w' := by
  go_enter Try.func29, Try.ntmps29
  go_wp2_with (first | (go_at_call 49; refine (const7 b t _ h0 h1).mono ?_; rintro e w1 ⟨rfl, hb⟩) | go_in)
  go_ret
  exact ⟨rfl, by repeat (first | exact Below.refl _ _ | exact (((Below.refl _ _).alloc (Nat.le_refl _) _).trans (hb.mono (by simp))) | (refine Below.alloc ?_ ?_ _))⟩

set_option maxHeartbeats 400000 in
theorem implBytes8 (b : Int) (t : ByteArray) (w : World) (h0 : 0 ≤ b) (h1 : b < 18446744073709551616) :
    Calls Try.prog 29 #[.agg #[.int .i64 8, .int .u64 b, .string t]] w fun e w' => e = .returned (.int .i64 8) ∧ Below w.heap.size w w' := by
  go_enter Try.func29, Try.ntmps29
  go_wp2_with (first | (go_at_call 49; refine (const8 b t _ h0 h1).mono ?_; rintro e w1 ⟨rfl, hb⟩) | go_in)
  go_ret
  exact ⟨rfl, by repeat (first | exact Below.refl _ _ | exact (((Below.refl _ _).alloc (Nat.le_refl _) _).trans (hb.mono (by simp))) | (refine Below.alloc ?_ ?_ _))⟩

set_option maxHeartbeats 400000 in
theorem implBytes9 (b : Int) (t : ByteArray) (w : World) (h0 : 0 ≤ b) (h1 : b < 18446744073709551616) :
    Calls Try.prog 29 #[.agg #[.int .i64 9, .int .u64 b, .string t]] w fun e w' => e = .returned (.int .i64 4) ∧ Below w.heap.size w w' := by
  go_enter Try.func29, Try.ntmps29
  go_wp2_with (first | (go_at_call 49; refine (const9 b t _ h0 h1).mono ?_; rintro e w1 ⟨rfl, hb⟩) | go_in)
  go_ret
  exact ⟨rfl, by repeat (first | exact Below.refl _ _ | exact (((Below.refl _ _).alloc (Nat.le_refl _) _).trans (hb.mono (by simp))) | (refine Below.alloc ?_ ?_ _))⟩

set_option maxHeartbeats 400000 in
theorem implBytes10 (b : Int) (t : ByteArray) (w : World) (h0 : 0 ≤ b) (h1 : b < 18446744073709551616) :
    Calls Try.prog 29 #[.agg #[.int .i64 10, .int .u64 b, .string t]] w fun e w' => e = .returned (.int .i64 8) ∧ Below w.heap.size w w' := by
  go_enter Try.func29, Try.ntmps29
  go_wp2_with (first | (go_at_call 49; refine (const10 b t _ h0 h1).mono ?_; rintro e w1 ⟨rfl, hb⟩) | go_in)
  go_ret
  exact ⟨rfl, by repeat (first | exact Below.refl _ _ | exact (((Below.refl _ _).alloc (Nat.le_refl _) _).trans (hb.mono (by simp))) | (refine Below.alloc ?_ ?_ _))⟩

set_option maxHeartbeats 400000 in
theorem implBytes11 (b : Int) (t : ByteArray) (w : World) (h0 : 0 ≤ b) (h1 : b < 18446744073709551616) (ht : t.size ≤ 9223372036854775807) :
    Calls Try.prog 29 #[.agg #[.int .i64 11, .int .u64 b, .string t]] w fun e w' => e = .returned (.int .i64 (t.size : Int)) ∧ Below w.heap.size w w' := by
  go_enter Try.func29, Try.ntmps29
  go_wp2_with (first | (go_at_call 49; refine (const11 b t _ h0 h1).mono ?_; rintro e w1 ⟨rfl, hb⟩) | go_in)
  go_ret
  exact ⟨rfl, by repeat (first | exact Below.refl _ _ | exact (((Below.refl _ _).alloc (Nat.le_refl _) _).trans (hb.mono (by simp))) | (refine Below.alloc ?_ ?_ _))⟩
end Go.Proofs.Ytknldfighehplaa.HImm
