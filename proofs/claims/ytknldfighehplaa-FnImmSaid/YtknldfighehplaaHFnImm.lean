/- The walk of FnImm: it returns true for every uint64; no conditions. -/
import Derived.Test.YtknldfighehplaaHImm
import Derived.Deep.RegionHeld3
namespace Go.Proofs.Ytknldfighehplaa.HFnImm
set_option linter.unusedSimpArgs false
set_option linter.unusedVariables false
open Go.RowKit Go.Proofs.Ytknldfighehplaa.HConst Go.Proofs.Ytknldfighehplaa.HImm Go.Proofs.Ytknldfighehplaa.PFnImm Go.Proofs.YtknldfighehplaaW.PrintWords Go.Proofs.YtknldfighehplaaW.PrintLast Go.Proofs.YtknldfighehplaaW.PrintMore

theorem keeps {B : Nat} {w0 W w' : World} {a b c : Value} (hb : Below W.heap.size W w') (h : W.cell? ⟨B, 0, none⟩ = some a ∧ W.cell? ⟨B, 1, none⟩ = some b ∧ W.cell? ⟨B, 2, none⟩ = some c ∧ Below w0.heap.size w0 W) :
    w'.cell? ⟨B, 0, none⟩ = some a ∧ w'.cell? ⟨B, 1, none⟩ = some b ∧ w'.cell? ⟨B, 2, none⟩ = some c ∧ Below w0.heap.size w0 w' := by
  obtain ⟨h0, h1, h2, h3⟩ := h
  have hB : B < W.heap.size := World.block_lt_of_cell? W _ h0
  exact ⟨(hb.cell (p := ⟨B, 0, none⟩) hB).trans h0, (hb.cell (p := ⟨B, 1, none⟩) hB).trans h1, (hb.cell (p := ⟨B, 2, none⟩) hB).trans h2, h3.trans (hb.mono h3.size)⟩

theorem law_end {x : Int} {w w' : World} {a b c : Prop} (h : a ∧ b ∧ c ∧ Below w.heap.size w w') : Ending.returned (.bool true) = .returned (.bool true) ∧ Below w.heap.size w w' := ⟨rfl, h.2.2.2⟩

theorem specImm0 (x : Int) (h0 : 0 ≤ x) (h1 : x < 256) : spec_Imm.f x = some (2, x, ⟨#[]⟩) := by
  unfold spec_Imm.f
  rw [if_pos h1]
theorem bytes0 (x : Int) : spec_Bytes.f 9 2 x ⟨#[]⟩ = some 1 := by simp [spec_Bytes.f, spec_Bytes.j0, spec_Bytes.j1, spec_Bytes.j2, spec_Bytes.j3]
theorem same0 (x : Int) : spec_SameConst.f 9 2 x ⟨#[]⟩ 2 x ⟨#[]⟩ = some true := by simp [spec_SameConst.f, spec_opBits.f, bytes0]
set_option maxHeartbeats 800000 in
theorem law0 (x : Int) (w : World) (h0 : 0 ≤ x) (h1 : x < 256) :
    Calls Try.prog 8 #[.int .u64 x] w fun e w' => e = .returned (.bool true) ∧ Below w.heap.size w w' := by
  go_enter Try.func8, Try.ntmps8
  go_wp2_with (go_at_call 26; refine (implImm0 x _ h0 h1).mono ?_; rintro e w1 ⟨rfl, hb⟩; have hz : w.heap.size ≤ w1.heap.size := hb.size)
  have hS : (w1.alloc (.cells #[.int .i64 2, .int .u64 x, .string ⟨#[]⟩] 38)).cell? ⟨w1.heap.size, 0, none⟩ = some (.int .i64 2) ∧ (w1.alloc (.cells #[.int .i64 2, .int .u64 x, .string ⟨#[]⟩] 38)).cell? ⟨w1.heap.size, 1, none⟩ = some (.int .u64 x) ∧ (w1.alloc (.cells #[.int .i64 2, .int .u64 x, .string ⟨#[]⟩] 38)).cell? ⟨w1.heap.size, 2, none⟩ = some (.string ⟨#[]⟩) ∧ Below w.heap.size w (w1.alloc (.cells #[.int .i64 2, .int .u64 x, .string ⟨#[]⟩] 38)) :=
    ⟨by simp, by simp, by simp, hb.alloc hz _⟩
  generalize w1.alloc (.cells #[.int .i64 2, .int .u64 x, .string ⟨#[]⟩] 38) = W1 at hS ⊢
  generalize w1.heap.size = B at hS ⊢
  clear hb hz
  have hS' : W1.drew.cell? ⟨B, 0, none⟩ = some (.int .i64 2) ∧ W1.drew.cell? ⟨B, 1, none⟩ = some (.int .u64 x) ∧ W1.drew.cell? ⟨B, 2, none⟩ = some (.string ⟨#[]⟩) ∧ Below w.heap.size w W1.drew := ⟨hS.1, hS.2.1, hS.2.2.1, below_drew1 hS.2.2.2⟩
  go_region_held3 (fun w' => w'.cell? ⟨B, 0, none⟩ = some (.int .i64 2) ∧ w'.cell? ⟨B, 1, none⟩ = some (.int .u64 x) ∧ w'.cell? ⟨B, 2, none⟩ = some (.string ⟨#[]⟩) ∧ Below w.heap.size w w') (first | exact hS' | (exact keeps (by assumption) (by assumption)))
    (first
      | (go_at_call 28; refine (spec_Imm.calls x 2 x ⟨#[]⟩ _ (specImm0 x h0 h1)).mono ?_; rintro e w' ⟨rfl, hb⟩)
      | (go_at_call 27; refine (spec_SameConst.calls 9 2 x ⟨#[]⟩ 2 x ⟨#[]⟩ true _ (same0 x)).mono ?_; rintro e w' ⟨rfl, hb⟩)
      | (go_at_call 29; refine (implBytes2 x ⟨#[]⟩ _ (by omega) (by omega)).mono ?_; rintro e w' ⟨rfl, hb⟩)
      | (go_at_call 30; refine (spec_Bytes.calls 9 2 x ⟨#[]⟩ 1 _ (bytes0 x)).mono ?_; rintro e w' ⟨rfl, hb⟩))
  go_wp2
  go_ret
  exact law_end (x := x) (by assumption)

theorem specImm1 (x : Int) (h0 : 256 ≤ x) (h1 : x < 65536) : spec_Imm.f x = some (4, x, ⟨#[]⟩) := by
  unfold spec_Imm.f
  rw [if_neg (show ¬ x < 256 by omega)]; rw [if_pos h1]
theorem bytes1 (x : Int) : spec_Bytes.f 9 4 x ⟨#[]⟩ = some 2 := by simp [spec_Bytes.f, spec_Bytes.j0, spec_Bytes.j1, spec_Bytes.j2, spec_Bytes.j3]
theorem same1 (x : Int) : spec_SameConst.f 9 4 x ⟨#[]⟩ 4 x ⟨#[]⟩ = some true := by simp [spec_SameConst.f, spec_opBits.f, bytes1]
set_option maxHeartbeats 800000 in
theorem law1 (x : Int) (w : World) (h0 : 256 ≤ x) (h1 : x < 65536) :
    Calls Try.prog 8 #[.int .u64 x] w fun e w' => e = .returned (.bool true) ∧ Below w.heap.size w w' := by
  go_enter Try.func8, Try.ntmps8
  go_wp2_with (go_at_call 26; refine (implImm1 x _ h0 h1).mono ?_; rintro e w1 ⟨rfl, hb⟩; have hz : w.heap.size ≤ w1.heap.size := hb.size)
  have hS : (w1.alloc (.cells #[.int .i64 4, .int .u64 x, .string ⟨#[]⟩] 38)).cell? ⟨w1.heap.size, 0, none⟩ = some (.int .i64 4) ∧ (w1.alloc (.cells #[.int .i64 4, .int .u64 x, .string ⟨#[]⟩] 38)).cell? ⟨w1.heap.size, 1, none⟩ = some (.int .u64 x) ∧ (w1.alloc (.cells #[.int .i64 4, .int .u64 x, .string ⟨#[]⟩] 38)).cell? ⟨w1.heap.size, 2, none⟩ = some (.string ⟨#[]⟩) ∧ Below w.heap.size w (w1.alloc (.cells #[.int .i64 4, .int .u64 x, .string ⟨#[]⟩] 38)) :=
    ⟨by simp, by simp, by simp, hb.alloc hz _⟩
  generalize w1.alloc (.cells #[.int .i64 4, .int .u64 x, .string ⟨#[]⟩] 38) = W1 at hS ⊢
  generalize w1.heap.size = B at hS ⊢
  clear hb hz
  have hS' : W1.drew.cell? ⟨B, 0, none⟩ = some (.int .i64 4) ∧ W1.drew.cell? ⟨B, 1, none⟩ = some (.int .u64 x) ∧ W1.drew.cell? ⟨B, 2, none⟩ = some (.string ⟨#[]⟩) ∧ Below w.heap.size w W1.drew := ⟨hS.1, hS.2.1, hS.2.2.1, below_drew1 hS.2.2.2⟩
  go_region_held3 (fun w' => w'.cell? ⟨B, 0, none⟩ = some (.int .i64 4) ∧ w'.cell? ⟨B, 1, none⟩ = some (.int .u64 x) ∧ w'.cell? ⟨B, 2, none⟩ = some (.string ⟨#[]⟩) ∧ Below w.heap.size w w') (first | exact hS' | (exact keeps (by assumption) (by assumption)))
    (first
      | (go_at_call 28; refine (spec_Imm.calls x 4 x ⟨#[]⟩ _ (specImm1 x h0 h1)).mono ?_; rintro e w' ⟨rfl, hb⟩)
      | (go_at_call 27; refine (spec_SameConst.calls 9 4 x ⟨#[]⟩ 4 x ⟨#[]⟩ true _ (same1 x)).mono ?_; rintro e w' ⟨rfl, hb⟩)
      | (go_at_call 29; refine (implBytes4 x ⟨#[]⟩ _ (by omega) (by omega)).mono ?_; rintro e w' ⟨rfl, hb⟩)
      | (go_at_call 30; refine (spec_Bytes.calls 9 4 x ⟨#[]⟩ 2 _ (bytes1 x)).mono ?_; rintro e w' ⟨rfl, hb⟩))
  go_wp2
  go_ret
  exact law_end (x := x) (by assumption)

theorem specImm2 (x : Int) (h0 : 65536 ≤ x) (h1 : x < 4294967296) : spec_Imm.f x = some (6, x, ⟨#[]⟩) := by
  unfold spec_Imm.f
  rw [if_neg (show ¬ x < 256 by omega)]; rw [if_neg (show ¬ x < 65536 by omega)]; rw [if_pos h1]
theorem bytes2 (x : Int) : spec_Bytes.f 9 6 x ⟨#[]⟩ = some 4 := by simp [spec_Bytes.f, spec_Bytes.j0, spec_Bytes.j1, spec_Bytes.j2, spec_Bytes.j3]
theorem same2 (x : Int) : spec_SameConst.f 9 6 x ⟨#[]⟩ 6 x ⟨#[]⟩ = some true := by simp [spec_SameConst.f, spec_opBits.f, bytes2]
set_option maxHeartbeats 800000 in
theorem law2 (x : Int) (w : World) (h0 : 65536 ≤ x) (h1 : x < 4294967296) :
    Calls Try.prog 8 #[.int .u64 x] w fun e w' => e = .returned (.bool true) ∧ Below w.heap.size w w' := by
  go_enter Try.func8, Try.ntmps8
  go_wp2_with (go_at_call 26; refine (implImm2 x _ h0 h1).mono ?_; rintro e w1 ⟨rfl, hb⟩; have hz : w.heap.size ≤ w1.heap.size := hb.size)
  have hS : (w1.alloc (.cells #[.int .i64 6, .int .u64 x, .string ⟨#[]⟩] 38)).cell? ⟨w1.heap.size, 0, none⟩ = some (.int .i64 6) ∧ (w1.alloc (.cells #[.int .i64 6, .int .u64 x, .string ⟨#[]⟩] 38)).cell? ⟨w1.heap.size, 1, none⟩ = some (.int .u64 x) ∧ (w1.alloc (.cells #[.int .i64 6, .int .u64 x, .string ⟨#[]⟩] 38)).cell? ⟨w1.heap.size, 2, none⟩ = some (.string ⟨#[]⟩) ∧ Below w.heap.size w (w1.alloc (.cells #[.int .i64 6, .int .u64 x, .string ⟨#[]⟩] 38)) :=
    ⟨by simp, by simp, by simp, hb.alloc hz _⟩
  generalize w1.alloc (.cells #[.int .i64 6, .int .u64 x, .string ⟨#[]⟩] 38) = W1 at hS ⊢
  generalize w1.heap.size = B at hS ⊢
  clear hb hz
  have hS' : W1.drew.cell? ⟨B, 0, none⟩ = some (.int .i64 6) ∧ W1.drew.cell? ⟨B, 1, none⟩ = some (.int .u64 x) ∧ W1.drew.cell? ⟨B, 2, none⟩ = some (.string ⟨#[]⟩) ∧ Below w.heap.size w W1.drew := ⟨hS.1, hS.2.1, hS.2.2.1, below_drew1 hS.2.2.2⟩
  go_region_held3 (fun w' => w'.cell? ⟨B, 0, none⟩ = some (.int .i64 6) ∧ w'.cell? ⟨B, 1, none⟩ = some (.int .u64 x) ∧ w'.cell? ⟨B, 2, none⟩ = some (.string ⟨#[]⟩) ∧ Below w.heap.size w w') (first | exact hS' | (exact keeps (by assumption) (by assumption)))
    (first
      | (go_at_call 28; refine (spec_Imm.calls x 6 x ⟨#[]⟩ _ (specImm2 x h0 h1)).mono ?_; rintro e w' ⟨rfl, hb⟩)
      | (go_at_call 27; refine (spec_SameConst.calls 9 6 x ⟨#[]⟩ 6 x ⟨#[]⟩ true _ (same2 x)).mono ?_; rintro e w' ⟨rfl, hb⟩)
      | (go_at_call 29; refine (implBytes6 x ⟨#[]⟩ _ (by omega) (by omega)).mono ?_; rintro e w' ⟨rfl, hb⟩)
      | (go_at_call 30; refine (spec_Bytes.calls 9 6 x ⟨#[]⟩ 4 _ (bytes2 x)).mono ?_; rintro e w' ⟨rfl, hb⟩))
  go_wp2
  go_ret
  exact law_end (x := x) (by assumption)

theorem specImm3 (x : Int) (h0 : 4294967296 ≤ x) (h1 : x < 18446744073709551616) : spec_Imm.f x = some (8, x, ⟨#[]⟩) := by
  unfold spec_Imm.f
  rw [if_neg (show ¬ x < 256 by omega)]; rw [if_neg (show ¬ x < 65536 by omega)]; rw [if_neg (show ¬ x < 4294967296 by omega)]; 
theorem bytes3 (x : Int) : spec_Bytes.f 9 8 x ⟨#[]⟩ = some 8 := by simp [spec_Bytes.f, spec_Bytes.j0, spec_Bytes.j1, spec_Bytes.j2, spec_Bytes.j3]
theorem same3 (x : Int) : spec_SameConst.f 9 8 x ⟨#[]⟩ 8 x ⟨#[]⟩ = some true := by simp [spec_SameConst.f, spec_opBits.f, bytes3]
set_option maxHeartbeats 800000 in
theorem law3 (x : Int) (w : World) (h0 : 4294967296 ≤ x) (h1 : x < 18446744073709551616) :
    Calls Try.prog 8 #[.int .u64 x] w fun e w' => e = .returned (.bool true) ∧ Below w.heap.size w w' := by
  go_enter Try.func8, Try.ntmps8
  go_wp2_with (go_at_call 26; refine (implImm3 x _ h0 h1).mono ?_; rintro e w1 ⟨rfl, hb⟩; have hz : w.heap.size ≤ w1.heap.size := hb.size)
  have hS : (w1.alloc (.cells #[.int .i64 8, .int .u64 x, .string ⟨#[]⟩] 38)).cell? ⟨w1.heap.size, 0, none⟩ = some (.int .i64 8) ∧ (w1.alloc (.cells #[.int .i64 8, .int .u64 x, .string ⟨#[]⟩] 38)).cell? ⟨w1.heap.size, 1, none⟩ = some (.int .u64 x) ∧ (w1.alloc (.cells #[.int .i64 8, .int .u64 x, .string ⟨#[]⟩] 38)).cell? ⟨w1.heap.size, 2, none⟩ = some (.string ⟨#[]⟩) ∧ Below w.heap.size w (w1.alloc (.cells #[.int .i64 8, .int .u64 x, .string ⟨#[]⟩] 38)) :=
    ⟨by simp, by simp, by simp, hb.alloc hz _⟩
  generalize w1.alloc (.cells #[.int .i64 8, .int .u64 x, .string ⟨#[]⟩] 38) = W1 at hS ⊢
  generalize w1.heap.size = B at hS ⊢
  clear hb hz
  have hS' : W1.drew.cell? ⟨B, 0, none⟩ = some (.int .i64 8) ∧ W1.drew.cell? ⟨B, 1, none⟩ = some (.int .u64 x) ∧ W1.drew.cell? ⟨B, 2, none⟩ = some (.string ⟨#[]⟩) ∧ Below w.heap.size w W1.drew := ⟨hS.1, hS.2.1, hS.2.2.1, below_drew1 hS.2.2.2⟩
  go_region_held3 (fun w' => w'.cell? ⟨B, 0, none⟩ = some (.int .i64 8) ∧ w'.cell? ⟨B, 1, none⟩ = some (.int .u64 x) ∧ w'.cell? ⟨B, 2, none⟩ = some (.string ⟨#[]⟩) ∧ Below w.heap.size w w') (first | exact hS' | (exact keeps (by assumption) (by assumption)))
    (first
      | (go_at_call 28; refine (spec_Imm.calls x 8 x ⟨#[]⟩ _ (specImm3 x h0 h1)).mono ?_; rintro e w' ⟨rfl, hb⟩)
      | (go_at_call 27; refine (spec_SameConst.calls 9 8 x ⟨#[]⟩ 8 x ⟨#[]⟩ true _ (same3 x)).mono ?_; rintro e w' ⟨rfl, hb⟩)
      | (go_at_call 29; refine (implBytes8 x ⟨#[]⟩ _ (by omega) (by omega)).mono ?_; rintro e w' ⟨rfl, hb⟩)
      | (go_at_call 30; refine (spec_Bytes.calls 9 8 x ⟨#[]⟩ 8 _ (bytes3 x)).mono ?_; rintro e w' ⟨rfl, hb⟩))
  go_wp2
  go_ret
  exact law_end (x := x) (by assumption)

/-- THE WALK: whatever the number, FnImm returns true and what was there stands. -/
theorem walk (x : Int) (w : World) (h : (Lit.int .u64 x).wf = true) :
    Calls Try.prog 8 #[.int .u64 x] w fun e w' => e = .returned (.bool true) ∧ Below w.heap.size w w' := by
  have hx : 0 ≤ x ∧ x < 18446744073709551616 := by
    have : 0 ≤ x ∧ x ≤ 18446744073709551615 := by simpa [Lit.wf, IntKind.min, IntKind.max, IntKind.signed, IntKind.bits] using h
    omega
  by_cases h1 : x < 256
  · exact law0 x w hx.1 h1
  by_cases h2 : x < 65536
  · exact law1 x w (by omega) h2
  by_cases h3 : x < 4294967296
  · exact law2 x w (by omega) h3
  · exact law3 x w (by omega) hx.2
end Go.Proofs.Ytknldfighehplaa.HFnImm
