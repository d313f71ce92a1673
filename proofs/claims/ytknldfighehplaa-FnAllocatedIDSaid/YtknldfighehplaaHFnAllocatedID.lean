/- The walk of FnAllocatedID: it returns true for every list of pairs and every number; conditions: the slice's cells as they were read. -/
import Derived.Test.YtknldfighehplaaHAlloc
namespace Go.Proofs.Ytknldfighehplaa.HFnAllocatedID
set_option linter.unusedSimpArgs false
set_option linter.unusedVariables false
open Go.RowKit Go.Proofs.Ytknldfighehplaa.HMap Go.Proofs.Ytknldfighehplaa.HAlloc Go.Proofs.Ytknldfighehplaa.PFnAllocatedID Go.Proofs.YtknldfighehplaaW.PrintWords Go.Proofs.YtknldfighehplaaW.PrintLast Go.Proofs.YtknldfighehplaaW.PrintMore

theorem spec_l0 (l : List S72) (a : Int) (hl : l.length ≤ 2147483647) : ∀ (n k : Nat), n ≤ l.length → n < k → spec_AllocatedID.l0 k l a ((n : Int) - 1) = some ((lk (mapOf (l.take n)) a).getD a) := by
  intro n
  induction n with
  | zero =>
    intro k h0 hk
    obtain ⟨k, rfl⟩ : ∃ m, k = m + 1 := ⟨k - 1, by omega⟩
    simp only [spec_AllocatedID.l0]
    rw [if_neg (by omega)]
    simp [mapOf, lk]
  | succ n ih =>
    intro k h0 hk
    obtain ⟨k, rfl⟩ : ∃ m, k = m + 1 := ⟨k - 1, by omega⟩
    have hs := mapOf_snoc l n (by omega)
    have e1 : ((n + 1 : Nat) : Int) - 1 = n := by omega
    rw [e1, hs, lk_put]
    simp only [spec_AllocatedID.l0]
    rw [if_pos (show (n : Int) ≥ 0 by omega), if_pos (show 0 ≤ (n : Int) by omega), if_pos (show (n : Int) < l.length by omega)]
    have hw : wrap64 ((n : Int) - 1) = (n : Int) - 1 := by unfold wrap64; omega
    by_cases h : a = (rd_T72 l n).f0
    · rw [if_pos h.symm, if_pos h]
      simp
    · rw [if_neg (fun e => h e.symm), if_neg h, hw]
      exact ih k (by omega) (by omega)

theorem spec_is (l : List S72) (a : Int) (hl : l.length ≤ 2147483647) : spec_AllocatedID.f (l.length + 1) l a = some (allocatedId l a) := by
  unfold spec_AllocatedID.f
  have hw : wrap64 ((l.length : Int) - 1) = (l.length : Int) - 1 := by unfold wrap64; omega
  rw [hw, spec_l0 l a hl l.length (l.length + 1) (Nat.le_refl _) (Nat.lt_succ_self _), List.take_length]
  rfl

theorem law_long (A : Option Addr) (c : Nat) (l : List S72) (k : Int) (w : World) (h : 2000 < l.length) (hl : l.length ≤ 9223372036854775807) :
    Calls Try.prog 5 #[.slice A l.length c, .int .u32 k] w fun e w' => e = .returned (.bool true) ∧ Below w.heap.size w w' := by
  by_cases h2 : 2147483647 < l.length
  all_goals
    go_enter Try.func5, Try.ntmps5
    go_wp2
    go_ret
    exact ⟨rfl, Below.refl _ _⟩

set_option maxHeartbeats 400000 in
theorem law_short (A : Option Addr) (c : Nat) (l : List S72) (k : Int) (w : World) (hr : Kd.C k72 w A l.length l) (hc : l.length ≤ c) (h : l.length ≤ 2000) :
    Calls Try.prog 5 #[.slice A l.length c, .int .u32 k] w fun e w' => e = .returned (.bool true) ∧ Below w.heap.size w w' := by
  have H1 := Lib.hid (implAllocatedID A c l k w hr hc (by omega))
  have H2 := Lib.hid (fun (w1 : World) (hb : Below w.heap.size w w1) => spec_AllocatedID.calls (l.length + 1) A c l k (allocatedId l k) w1 (Kd.C_below hr hb) hc (spec_is l k (by omega)))
  generalize allocatedId l k = v at H1 H2
  clear hr
  go_enter Try.func5, Try.ntmps5
  go_wp2_with (first
    | (go_at_call 17; refine H1.out.mono ?_; rintro e w1 ⟨rfl, hb1⟩)
    | (go_at_call 18; refine (H2.out _ hb1).mono ?_; rintro e w2 ⟨rfl, hd2⟩))
  go_ret
  exact ⟨rfl, below_step hb1 hd2.below⟩

/-- THE WALK: whatever the allocation and the number, FnAllocatedID returns true and what was there stands. -/
theorem walk (A : Option Addr) (c : Nat) (l : List S72) (k : Int) (w : World) (hr : Kd.C k72 w A l.length l) (hc : l.length ≤ c) (hl : l.length ≤ 9223372036854775807) :
    Calls Try.prog 5 #[.slice A l.length c, .int .u32 k] w fun e w' => e = .returned (.bool true) ∧ Below w.heap.size w w' := by
  by_cases h : 2000 < l.length
  · exact law_long A c l k w h hl
  · exact law_short A c l k w hr hc (by omega)
end Go.Proofs.Ytknldfighehplaa.HFnAllocatedID
