/- The walk of FnInterval: it returns true for every datum whose text can be read; no further conditions. -/
import Derived.Test.YtknldfighehplaaHInt
import Derived.Test.YtknldfighehplaaPFnIntervalx1
import Derived.Lib.Hide
namespace Go.Proofs.Ytknldfighehplaa.HFnInterval
set_option linter.unusedSimpArgs false
set_option linter.unusedVariables false
open Go.RowKit Go.Proofs.Ytknldfighehplaa.HConst Go.Proofs.Ytknldfighehplaa.HInt Go.Proofs.Ytknldfighehplaa.PFnInterval Go.Proofs.YtknldfighehplaaW.PrintWords Go.Proofs.YtknldfighehplaaW.PrintLast Go.Proofs.YtknldfighehplaaW.PrintMore

theorem bcell {W w1 : World} (hb : Below W.heap.size W w1) : (∀ b o, b < W.heap.size → w1.cell? ⟨b, o, none⟩ = W.cell? ⟨b, o, none⟩) ∧ (∀ b o, b < W.heap.size → w1.frozen? ⟨b, o, none⟩ = W.frozen? ⟨b, o, none⟩) :=
  ⟨fun b o h => hb.cell (p := ⟨b, o, none⟩) h, fun b o h => hb.frozen (p := ⟨b, o, none⟩) h⟩

set_option maxHeartbeats 400000 in
theorem implYes (off k b : Int) (t : ByteArray) (w : World) (h0 : 0 ≤ b) (h1 : b < 18446744073709551616) (ht : t.size ≤ 9223372036854775807) (hk : cok k = true) :
    Calls Try.prog 24 #[.agg #[.int .i64 off, .int .i64 k, .int .u64 b, .string t]] w fun e w' => e = .returned (.tuple #[.int .i64 off, .int .i64 (wrap64 (off + HConst.bytesOf k t))]) ∧ Below w.heap.size w w' := by
  have hc := constU k b t (w.alloc (.cells #[.int .i64 off, .int .i64 k, .int .u64 b, .string t] 40)) h0 h1
  rw [hk] at hc
  have hn : ∀ w, Calls Try.prog 50 #[.int .i64 off, cval k b t] w fun e w' => e = .returned (.agg #[.int .i64 off, cval k b t]) ∧ Below w.heap.size w w' := fun w => newDatumU off k b t w
  have hi := fun w => intervalU off k b t w hk ht
  generalize cval k b t = V at hc hn hi
  generalize HConst.bytesOf k t = n at hi
  have Hc := Lib.hid hc
  have Hn := Lib.hid hn
  have Hi := Lib.hid hi
  clear hc hn hi hk
  go_enter Try.func24, Try.ntmps24
  go_wp2_with (first
    | (go_at_call 49; refine Hc.out.mono ?_; rintro e w1 ⟨rfl, hb1⟩; obtain ⟨hc1, hf1⟩ := bcell hb1; have hz1 : w.heap.size < w1.heap.size := by have := hb1.size; simp at this; omega)
    | (go_at_call 50; refine (Hn.out _).mono ?_; rintro e w2 ⟨rfl, hb2⟩)
    | (go_at_call 51; refine (Hi.out _).mono ?_; rintro e w3 ⟨rfl, hb3⟩))
  go_ret2
  exact ⟨rfl, below_step (below_step (below_step (below_alloc (Below.refl _ _) _) hb1) hb2) hb3⟩

set_option maxHeartbeats 400000 in
theorem implNo (off k b : Int) (t : ByteArray) (w : World) (h0 : 0 ≤ b) (h1 : b < 18446744073709551616) (hk : cok k = false) :
    Calls Try.prog 24 #[.agg #[.int .i64 off, .int .i64 k, .int .u64 b, .string t]] w fun e w' => e = .returned (.tuple #[.int .i64 0, .int .i64 0]) ∧ Below w.heap.size w w' := by
  have hc := constU k b t (w.alloc (.cells #[.int .i64 off, .int .i64 k, .int .u64 b, .string t] 40)) h0 h1
  rw [hk] at hc
  generalize cval k b t = V at hc
  have Hc := Lib.hid hc
  clear hc hk
  go_enter Try.func24, Try.ntmps24
  go_wp2_with (first
    | (go_at_call 49; refine Hc.out.mono ?_; rintro e w1 ⟨rfl, hb1⟩; obtain ⟨hc1, hf1⟩ := bcell hb1; have hz1 : w.heap.size < w1.heap.size := by have := hb1.size; simp at this; omega))
  go_ret2
  exact ⟨rfl, below_step (below_alloc (Below.refl _ _) _) hb1⟩

/-- What the interval is: 0, 0 where the constant is none. -/
def lowI (off k : Int) : Int := if cok k then off else 0
def highI (off k : Int) (t : ByteArray) : Int := if cok k then wrap64 (off + HConst.bytesOf k t) else 0

theorem implU (off k b : Int) (t : ByteArray) (w : World) (h0 : 0 ≤ b) (h1 : b < 18446744073709551616) (ht : t.size ≤ 9223372036854775807) :
    Calls Try.prog 24 #[.agg #[.int .i64 off, .int .i64 k, .int .u64 b, .string t]] w fun e w' => e = .returned (.tuple #[.int .i64 (lowI off k), .int .i64 (highI off k t)]) ∧ Below w.heap.size w w' := by
  unfold lowI highI
  cases hk : cok k with
  | true => simpa using implYes off k b t w h0 h1 ht hk
  | false => simpa using implNo off k b t w h0 h1 hk

theorem specBytes (k b : Int) (t : ByteArray) : spec_Bytes.f 9 k b t = some (HConst.bytesOf k t) := by
  unfold spec_Bytes.f HConst.bytesOf
  simp only [spec_Bytes.j0, spec_Bytes.j1, spec_Bytes.j2, spec_Bytes.j3]
  by_cases c1 : k = 1
  · simp [c1]
  by_cases c2 : k = 2
  · simp [c2]
  by_cases c3 : k = 3
  · simp [c3]
  by_cases c4 : k = 4
  · simp [c4]
  by_cases c5 : k = 5
  · simp [c5]
  by_cases c6 : k = 6
  · simp [c6]
  by_cases c7 : k = 7
  · simp [c7]
  by_cases c8 : k = 8
  · simp [c8]
  by_cases c9 : k = 9
  · simp [c9]
  by_cases c10 : k = 10
  · simp [c10]
  by_cases c11 : k = 11
  · simp [c11]
  simp [*]

theorem bytes_neg {k : Int} {t : ByteArray} (h : cok k = false) : HConst.bytesOf k t = -1 := by
  have := of_decide_eq_false h
  unfold HConst.bytesOf
  repeat rw [if_neg (by omega)]
theorem bytes_pos {k : Int} {t : ByteArray} (h : cok k = true) : 0 ≤ HConst.bytesOf k t := by
  rcases cok_cases h with rfl | rfl | rfl | rfl | rfl | rfl | rfl | rfl | rfl | rfl | rfl <;> simp [HConst.bytesOf]

theorem specU (off k b : Int) (t : ByteArray) : spec_Interval.f 9 off k b t = some (lowI off k, highI off k t) := by
  unfold spec_Interval.f lowI highI
  rw [specBytes]
  simp only [Option.bind_some]
  cases hk : cok k with
  | true => rw [if_neg (by have := bytes_pos (t := t) hk; omega)]; rfl
  | false => rw [if_pos (by rw [bytes_neg hk]; decide)]; rfl

theorem fits_no (off k b : Int) (t : ByteArray) (h : 2147483647 < t.size) : laws_zzFits14.f off k b t = some false := by
  have h2 : (t.size : Int) > 2147483647 := by omega
  simp [laws_zzFits14.f, laws_zzFits11.f, if_pos h2]
theorem fits_yes (off k b : Int) (t : ByteArray) (h : t.size ≤ 2147483647) : laws_zzFits14.f off k b t = some true := by
  have h2 : ¬ (t.size : Int) > 2147483647 := by omega
  simp [laws_zzFits14.f, laws_zzFits11.f, if_neg h2]

theorem law_unfit (off k b : Int) (t : ByteArray) (w : World) (h : 2147483647 < t.size) :
    Calls Try.prog 7 #[.agg #[.int .i64 off, .int .i64 k, .int .u64 b, .string t]] w fun e w' => e = .returned (.bool true) ∧ Below w.heap.size w w' := by
  go_enter Try.func7, Try.ntmps7
  go_wp2_with (go_at_call 23; refine (laws_zzFits14.calls off k b t false _ (fits_no off k b t h)).mono ?_; rintro e w1 ⟨rfl, hb1⟩)
  go_ret
  exact ⟨rfl, below_step (below_alloc (Below.refl _ _) _) hb1⟩

set_option maxHeartbeats 400000 in
theorem law_far (off k b : Int) (t : ByteArray) (w : World) (h : t.size ≤ 2147483647) (hf : 1152921504606846976 < off ∨ off < -1152921504606846976) :
    Calls Try.prog 7 #[.agg #[.int .i64 off, .int .i64 k, .int .u64 b, .string t]] w fun e w' => e = .returned (.bool true) ∧ Below w.heap.size w w' := by
  have hfit := fits_yes off k b t h
  clear h
  have Hfit := Lib.hid hfit
  clear hfit
  rcases hf with hf | hf
  all_goals
    go_enter Try.func7, Try.ntmps7
    go_wp2_with (go_at_call 23; refine (laws_zzFits14.calls off k b t true _ Hfit.out).mono ?_; rintro e w1 ⟨rfl, hb1⟩; obtain ⟨hc1, hf1⟩ := bcell hb1; have hz1 : w.heap.size < w1.heap.size := by have := hb1.size; simp at this; omega)
    all_goals (go_ret; exact ⟨rfl, below_step (below_alloc (Below.refl _ _) _) hb1⟩)

set_option maxHeartbeats 800000 in
theorem law_near (off k b : Int) (t : ByteArray) (w : World) (h0 : 0 ≤ b) (h1 : b < 18446744073709551616) (h : t.size ≤ 2147483647) (hf : off ≤ 1152921504606846976) (hf2 : -1152921504606846976 ≤ off) :
    Calls Try.prog 7 #[.agg #[.int .i64 off, .int .i64 k, .int .u64 b, .string t]] w fun e w' => e = .returned (.bool true) ∧ Below w.heap.size w w' := by
  have hfit : ∀ w, Calls Try.prog 23 #[.agg #[.int .i64 off, .int .i64 k, .int .u64 b, .string t]] w fun e w' => e = .returned (.bool true) ∧ Below w.heap.size w w' := fun w => laws_zzFits14.calls off k b t true w (fits_yes off k b t h)
  have hi : ∀ w, Calls Try.prog 24 #[.agg #[.int .i64 off, .int .i64 k, .int .u64 b, .string t]] w fun e w' => e = .returned (.tuple #[.int .i64 (lowI off k), .int .i64 (highI off k t)]) ∧ Below w.heap.size w w' := fun w => implU off k b t w h0 h1 (by omega)
  have hs : ∀ w, Calls Try.prog 25 #[.agg #[.int .i64 off, .int .i64 k, .int .u64 b, .string t]] w fun e w' => e = .returned (.tuple #[.int .i64 (lowI off k), .int .i64 (highI off k t)]) ∧ Below w.heap.size w w' := fun w => spec_Interval.calls 9 off k b t _ _ w (specU off k b t)
  generalize lowI off k = A at hi hs
  generalize highI off k t = B at hi hs
  have Hfit := Lib.hid hfit
  have Hi := Lib.hid hi
  have Hs := Lib.hid hs
  have hf3 : decide (1152921504606846976 < off) = false := by rw [decide_eq_false_iff_not]; omega
  have hf4 : decide (off < -1152921504606846976) = false := by rw [decide_eq_false_iff_not]; omega
  clear hfit hi hs h h0 h1 hf hf2
  go_enter Try.func7, Try.ntmps7
  go_wp2_with (first
    | (go_at_call 23; refine (Hfit.out _).mono ?_; rintro e w1 ⟨rfl, hb1⟩; obtain ⟨hc1, hf1⟩ := bcell hb1; have hz1 : w.heap.size < w1.heap.size := by have := hb1.size; simp at this; omega)
    | (go_at_call 24; refine (Hi.out _).mono ?_; rintro e w2 ⟨rfl, hb2⟩; obtain ⟨hc2, hf5⟩ := bcell hb2; have hz2 : w1.heap.size ≤ w2.heap.size := hb2.size; have hz3 : w.heap.size < w2.heap.size := by omega)
    | (go_at_call 25; refine (Hs.out _).mono ?_; rintro e w3 ⟨rfl, hb3⟩))
  go_ret
  refine ⟨?_, below_step (below_step (below_step (below_alloc (Below.refl _ _) _) hb1) hb2) hb3⟩
  first | rfl | simp

/-- THE WALK: whatever the datum, FnInterval returns true and what was there stands. -/
theorem walk (off k b : Int) (t : ByteArray) (w : World) (hb : (Lit.int .u64 b).wf = true) :
    Calls Try.prog 7 #[.agg #[.int .i64 off, .int .i64 k, .int .u64 b, .string t]] w fun e w' => e = .returned (.bool true) ∧ Below w.heap.size w w' := by
  have hx : 0 ≤ b ∧ b ≤ 18446744073709551615 := by simpa [Lit.wf, IntKind.min, IntKind.max, IntKind.signed, IntKind.bits] using hb
  by_cases h1 : 2147483647 < t.size
  · exact law_unfit off k b t w h1
  by_cases h2 : 1152921504606846976 < off ∨ off < -1152921504606846976
  · exact law_far off k b t w (by omega) h2
  · exact law_near off k b t w hx.1 (by omega) (by omega) (by omega) (by omega)
end Go.Proofs.Ytknldfighehplaa.HFnInterval
