/- Contracts of impl.allocation and what looks into it; conditions: the slice's cells as they were read. -/
import Derived.Test.YtknldfighehplaaHMap
import Derived.Test.YtknldfighehplaaPFnAllocatedIDx1
import Derived.Lib.Hide
import Derived.Handy
namespace Go.Proofs.Ytknldfighehplaa.HAlloc
set_option linter.unusedSimpArgs false
set_option linter.unusedVariables false
open Go.RowKit Go.Proofs.Ytknldfighehplaa.HMap Go.Proofs.Ytknldfighehplaa.PFnAllocatedID Go.Proofs.YtknldfighehplaaW.PrintWords Go.Proofs.YtknldfighehplaaW.PrintLast Go.Proofs.YtknldfighehplaaW.PrintMore

def u32v (n : Int) : Value := .int .u32 n
theorem enc60 : KeyEnc Try.prog 60 u32v := by
  refine ⟨⟨_, Try.underlying60, fun a b => ?_⟩, fun a => ?_, fun e w a => ?_⟩
  · simp [Instr.sameNow, u32v]; rfl
  · simp [Instr.sameBits, u32v]
  · exact MapKept.run_checkKey Try.underlying60 (by simp [u32v, MapKept.IsKey]) e 9999
theorem zero60 (w : World) : (zeroValue 60).run Try.prog w = .ok (u32v 0) w := by kernel_rfl

/-- The allocation of a list of pairs: of two of one number the last one. -/
def mapOf (l : List S72) : List (Int × Int) := l.foldl (fun m p => put m p.f0 p.f1) []
theorem mapOf_snoc (l : List S72) (k : Nat) (h : k < l.length) : mapOf (l.take (k + 1)) = put (mapOf (l.take k)) (rd_T72 l k).f0 (rd_T72 l k).f1 := by
  have : l.take (k + 1) = l.take k ++ [rd_T72 l k] := by
    rw [List.take_succ_eq_append_getElem h]
    simp [rd_T72, List.getD, h]
  rw [this]
  simp [mapOf, List.foldl_append]

theorem newAlloc (w : World) : Calls Try.prog 67 #[] w fun e w' => e = .returned (.map (some w.heap.size)) ∧ w' = w.alloc (.map #[] 0) := by
  have hmm := @run_makeMap Try.prog
  go_enter Try.func67, Try.ntmps67
  go_wp2
  go_ret
  exact ⟨rfl, rfl⟩

def MapRet (w : World) (l : List S72) (e : Ending) (w' : World) : Prop :=
  ∃ r, e = .returned (.map (some r)) ∧ w.heap.size ≤ r ∧ MapIs u32v u32v w' r (mapOf l) ∧ Below w.heap.size w w'

set_option maxHeartbeats 800000 in
theorem allocation (A : Option Addr) (c : Nat) (l : List S72) (w : World) (hr : Kd.C k72 w A l.length l) (hc : l.length ≤ c) (hl : l.length ≤ 9223372036854775807) :
    Calls Try.prog 43 #[.slice A l.length c] w (MapRet w l) := by
  have HR := Aside0.mk hr
  clear hr
  go_enter Try.func43, Try.ntmps43
  go_wp2_with (go_at_call 67; refine (newAlloc _).mono ?_; rintro e w1 ⟨rfl, rfl⟩)
  go_loopw [9] (fun i wr => ∃ k : Nat, k ≤ l.length ∧ i = .int .i64 k ∧ Aside0 (MapIs u32v u32v wr w.heap.size (mapOf (l.take k))) ∧ Aside0 (Below w.heap.size w wr)) (fun i _ => l.length - (intOf i).toNat)
  case atStart => exact ⟨0, Nat.zero_le _, rfl, ⟨MapIs.new w⟩, ⟨below_alloc (Below.refl _ _) _⟩⟩
  case round =>
    obtain ⟨k, hk, rfl, HM, HB⟩ := hrel
    by_cases hlt : k < l.length
    · obtain ⟨ad, e0, hx0, hx1⟩ := at_T72 HR.out (k : Int) (by omega) (by omega)
      subst e0
      have hx0' := (HB.out.cell (World.block_lt_of_cell? w _ hx0)).trans hx0
      have hx1' := (HB.out.cell (World.block_lt_of_cell? w _ hx1)).trans hx1
      have hs := mapOf_snoc l k hlt
      simp only [Int.toNat_natCast] at hx0' hx1'
      generalize (rd_T72 l ↑k).f0 = x0 at *
      generalize (rd_T72 l ↑k).f1 = x1 at *
      have hsn := Lib.hid hs
      clear hs hx0 hx1
      go_wp2_with (at_mapUpdate; refine wp_update rfl _ _ _ 68 rfl enc60 Try.underlying68 w.heap.size _ rfl (HM.out.below (below_alloc (Below.refl _ _) _)) x0 x1 rfl rfl ?_; intro w1 hm1 hg1)
      have hB2 : Below w.heap.size w w1 := (below_alloc HB.out _).grown hg1 (by have := HB.out.size; simp; omega) (fun j hj => by cases hj; exact Nat.le_refl _)
      exact ⟨⟨k + 1, by omega, by go_num, ⟨by rw [hsn.out]; exact hm1⟩, ⟨hB2⟩⟩, by simp [intOf]; omega⟩
    · go_wp2
      go_ret
      have hkl : k = l.length := by omega
      have hm := HM.out
      rw [hkl, List.take_length] at hm
      exact ⟨_, rfl, Nat.le_refl _, hm, HB.out⟩

theorem lookupDefault (r : Nat) (m : List (Int × Int)) (k : Int) (w : World) (h : MapIs u32v u32v w r m) :
    Calls Try.prog 44 #[.map (some r), .int .u32 k] w fun e w' => e = .returned (.int .u32 ((lk m k).getD k)) ∧ w' = w := by
  have hl1 := run_lookup enc60 Try.underlying68 (zero60 w) h k true
  have hl2 := run_lookup enc60 Try.underlying68 (zero60 w) h k false
  simp only [if_true, Bool.false_eq_true, if_false] at hl1 hl2
  rw [show u32v k = .int .u32 k from rfl] at hl1 hl2
  cases hk : lk m k with
  | none =>
    rw [hk] at hl1 hl2
    simp only [Option.map_none, Option.getD_none, Option.isSome_none, u32v] at hl1 hl2
    clear h hk
    go_enter Try.func44, Try.ntmps44
    go_wp2
    go_ret
    exact ⟨rfl, rfl⟩
  | some v =>
    rw [hk] at hl1 hl2
    simp only [Option.map_some, Option.getD_some, Option.isSome_some, u32v] at hl1 hl2
    clear h hk
    go_enter Try.func44, Try.ntmps44
    go_wp2
    go_ret
    exact ⟨rfl, rfl⟩

/-- What the allocation of a list has for a number, or the number itself. -/
def allocatedId (l : List S72) (k : Int) : Int := (lk (mapOf l) k).getD k

theorem implAllocatedID (A : Option Addr) (c : Nat) (l : List S72) (k : Int) (w : World) (hr : Kd.C k72 w A l.length l) (hc : l.length ≤ c) (hl : l.length ≤ 9223372036854775807) :
    Calls Try.prog 17 #[.slice A l.length c, .int .u32 k] w fun e w' => e = .returned (.int .u32 (allocatedId l k)) ∧ Below w.heap.size w w' := by
  have H := allocation A c l w hr hc hl
  clear hr
  go_enter Try.func17, Try.ntmps17
  go_wp2_with (first
    | (go_at_call 43; refine H.mono ?_; rintro e w1 ⟨r, rfl, hr1, hm1, hb1⟩)
    | (go_at_call 44; refine (lookupDefault r (mapOf l) k _ hm1).mono ?_; rintro e w2 ⟨rfl, rfl⟩))
  go_ret
  exact ⟨rfl, hb1⟩
end Go.Proofs.Ytknldfighehplaa.HAlloc
