/- Contracts of impl.masks and of reg.MaskSet.Equals; conditions: the slice's cells as they were read. -/
import Derived.Test.YtknldfighehplaaHMap
import Derived.Test.YtknldfighehplaaPFnSameMasksx3
import Derived.Lib.Hide
import Derived.Handy
namespace Go.Proofs.Ytknldfighehplaa.HMasks
set_option linter.unusedSimpArgs false
set_option linter.unusedVariables false
open Go.RowKit Go.Proofs.Ytknldfighehplaa.HMap Go.Proofs.Ytknldfighehplaa.PFnSameMasks Go.Proofs.YtknldfighehplaaW.PrintWords Go.Proofs.YtknldfighehplaaW.PrintLast Go.Proofs.YtknldfighehplaaW.PrintMore

def u32v (n : Int) : Value := .int .u32 n
theorem enc60 : KeyEnc Try.prog 60 u32v := by
  refine ⟨⟨_, Try.underlying60, fun a b => ?_⟩, fun a => ?_, fun e w a => ?_⟩
  · simp [Instr.sameNow, u32v]; rfl
  · simp [Instr.sameBits, u32v]
  · exact MapKept.run_checkKey Try.underlying60 (by simp [u32v, MapKept.IsKey]) e 9999
def u16v (n : Int) : Value := .int .u16 n
theorem zero25 (w : World) : (zeroValue 25).run Try.prog w = .ok (u16v 0) w := by kernel_rfl

/-- The set of a list of entries: of two of one number the last one. -/
def mapOf (l : List S74) : List (Int × Int) := l.foldl (fun m p => put m p.f0 p.f1) []
theorem mapOf_snoc (l : List S74) (k : Nat) (h : k < l.length) : mapOf (l.take (k + 1)) = put (mapOf (l.take k)) (rd_T74 l k).f0 (rd_T74 l k).f1 := by
  have : l.take (k + 1) = l.take k ++ [rd_T74 l k] := by
    rw [List.take_succ_eq_append_getElem h]
    simp [rd_T74, List.getD, h]
  rw [this]
  simp [mapOf, List.foldl_append]

theorem newMasks (w : World) : Calls Try.prog 68 #[] w fun e w' => e = .returned (.map (some w.heap.size)) ∧ w' = w.alloc (.map #[] 0) := by
  have hmm := @run_makeMap Try.prog
  go_enter Try.func68, Try.ntmps68
  go_wp2
  go_ret
  exact ⟨rfl, rfl⟩

def MapRet (w : World) (l : List S74) (e : Ending) (w' : World) : Prop :=
  ∃ r, e = .returned (.map (some r)) ∧ w.heap.size ≤ r ∧ MapIs u32v u16v w' r (mapOf l) ∧ Below w.heap.size w w'

set_option maxHeartbeats 800000 in
theorem masks (A : Option Addr) (c : Nat) (l : List S74) (w : World) (hr : Kd.C k74 w A l.length l) (hc : l.length ≤ c) (hl : l.length ≤ 9223372036854775807) :
    Calls Try.prog 45 #[.slice A l.length c] w (MapRet w l) := by
  have HR := Aside0.mk hr
  clear hr
  go_enter Try.func45, Try.ntmps45
  go_wp2_with (go_at_call 68; refine (newMasks _).mono ?_; rintro e w1 ⟨rfl, rfl⟩)
  go_loopw [9] (fun i wr => ∃ k : Nat, k ≤ l.length ∧ i = .int .i64 k ∧ Aside0 (MapIs u32v u16v wr w.heap.size (mapOf (l.take k))) ∧ Aside0 (Below w.heap.size w wr)) (fun i _ => l.length - (intOf i).toNat)
  case atStart => exact ⟨0, Nat.zero_le _, rfl, ⟨MapIs.new w⟩, ⟨below_alloc (Below.refl _ _) _⟩⟩
  case round =>
    obtain ⟨k, hk, rfl, HM, HB⟩ := hrel
    by_cases hlt : k < l.length
    · obtain ⟨ad, e0, hx0, hx1⟩ := at_T74 HR.out (k : Int) (by omega) (by omega)
      subst e0
      have hx0' := (HB.out.cell (World.block_lt_of_cell? w _ hx0)).trans hx0
      have hx1' := (HB.out.cell (World.block_lt_of_cell? w _ hx1)).trans hx1
      have hs := mapOf_snoc l k hlt
      simp only [Int.toNat_natCast] at hx0' hx1'
      generalize (rd_T74 l ↑k).f0 = x0 at *
      generalize (rd_T74 l ↑k).f1 = x1 at *
      have hsn := Lib.hid hs
      clear hs hx0 hx1
      go_wp2_with (at_mapUpdate; refine wp_update rfl _ _ _ 76 rfl enc60 Try.underlying76 w.heap.size _ rfl (HM.out.below (below_alloc (Below.refl _ _) _)) x0 x1 rfl rfl ?_; intro w1 hm1 hg1)
      have hB2 : Below w.heap.size w w1 := (below_alloc HB.out _).grown hg1 (by have := HB.out.size; simp; omega) (fun j hj => by cases hj; exact Nat.le_refl _)
      exact ⟨⟨k + 1, by omega, by go_num, ⟨by rw [hsn.out]; exact hm1⟩, ⟨hB2⟩⟩, by simp [intOf]; omega⟩
    · go_wp2
      go_ret
      have hkl : k = l.length := by omega
      have hm := HM.out
      rw [hkl, List.take_length] at hm
      exact ⟨_, rfl, Nat.le_refl _, hm, HB.out⟩


/-- Whether two maps have the same entries. -/
def sameMaps (m1 m2 : List (Int × Int)) : Bool := m1.length == m2.length && m1.all fun p => lk m2 p.1 == some p.2

set_option maxHeartbeats 800000 in
theorem equals (r1 r2 : Nat) (m1 m2 : List (Int × Int)) (w : World) (h1 : MapIs u32v u16v w r1 m1) (h2 : MapIs u32v u16v w r2 m2) :
    Calls Try.prog 46 #[.map (some r1), .map (some r2)] w fun e w' => e = .returned (.bool (sameMaps m1 m2)) ∧ Below w.heap.size w w' := by
  have H1 := Aside0.mk h1
  have H2 := Aside0.mk h2
  clear h1 h2
  by_cases hlen : m1.length = m2.length
  · have hb : ((m1.length : Int) != (m2.length : Int)) = false := by rw [hlen]; simp
    go_enter Try.func46, Try.ntmps46
    go_wp2_with (first
      | (at_len; refine wp_len rfl _ 76 rfl Try.underlying76 r1 m1 rfl H1.out ?_)
      | (at_len; refine wp_len rfl _ 76 rfl Try.underlying76 r2 m2 rfl H2.out ?_)
      | (at_range; refine wp_range rfl _ 76 rfl Try.underlying76 r1 m1 rfl H1.out ?_; intro w1 hit1 hg1 hs1))
    go_frame
    go_loopg [16] m1.length (fun g v wr => ∃ (left dn : List (Int × Int)), g = left.length ∧ (dn ++ left).Perm m1 ∧ Aside0 (∀ p ∈ dn, lk m2 p.1 = some p.2) ∧ Aside0 (IterIs u32v u16v wr w.heap.size r1 m1 left) ∧ Aside0 (Below w.heap.size w wr))
    case atStart => exact ⟨m1, [], rfl, List.Perm.refl _, ⟨fun p hp => by cases hp⟩, ⟨hit1⟩, ⟨(Below.refl _ _).grown hg1 (Nat.le_refl _) (fun j hj => by cases hj)⟩⟩
    case round =>
      obtain ⟨left, dn, hg, hperm, Hdn, Hit, HB⟩ := hrel
      go_wp2_with (at_next; refine wp_next rfl _ rfl w.heap.size r1 m1 left rfl Hit.out ?_ ?_)
      · intro hl
        subst hl
        have hall : sameMaps m1 m2 = true := by
          simp only [sameMaps, Bool.and_eq_true, beq_iff_eq, List.all_eq_true, hlen, true_and]
          intro p hp
          exact Hdn.out p (by simpa using hperm.mem_iff.2 hp)
        have Hall := Lib.hid hall
        clear hall
        go_wp2
        go_ret
        rw [Hall.out]
        exact ⟨rfl, HB.out⟩
      · intro k v q1 q2 w2 he hit2 hg2 hs2 hen
        have hm2 : MapIs u32v u16v w2 r2 m2 := (H2.out.below HB.out).grown hg2 (by have := H2.out.lt; intro e; cases e; omega)
        have hl1 := run_lookup enc60 Try.underlying76 (zero25 w2) hm2 k true
        have hl2 := run_lookup enc60 Try.underlying76 (zero25 w2) hm2 k false
        have hB2 : Below w.heap.size w w2 := HB.out.grown hg2 HB.out.size (fun j hj => by cases hj; exact Nat.le_refl _)
        simp only [if_true, Bool.false_eq_true, if_false] at hl1 hl2
        simp only [u32v, u16v] at hen hl1 hl2 ⊢
        have hmem : (k, v) ∈ m1 := hperm.mem_iff.1 (by rw [he]; simp)
        have hl0 : left.length = (q1 ++ q2).length + 1 := by rw [he]; simp; omega
        have hperm2 : ((dn ++ [(k, v)]) ++ (q1 ++ q2)).Perm m1 := by
          refine List.Perm.trans ?_ hperm
          rw [he, List.append_assoc]
          exact List.Perm.append_left dn (by simpa using List.perm_middle.symm)
        cases hk : lk m2 k with
        | none =>
          rw [hk] at hl1 hl2
          simp only [Option.map_none, Option.getD_none, Option.isSome_none, u16v] at hl1 hl2
          have hno : sameMaps m1 m2 = false := by
            rw [Bool.eq_false_iff]
            intro hs
            simp only [sameMaps, Bool.and_eq_true, List.all_eq_true] at hs
            have := hs.2 _ hmem
            rw [hk] at this
            simp at this
          have Hno := Lib.hid hno
          clear hno hk hmem he hperm hperm2 hl0
          go_wp2
          go_ret
          rw [Hno.out]
          exact ⟨rfl, hB2⟩
        | some u =>
          rw [hk] at hl1 hl2
          simp only [Option.map_some, Option.getD_some, Option.isSome_some, u16v] at hl1 hl2
          by_cases hv : v = u
          · subst hv
            have Hp := Lib.hid hperm2
            have Hl := Lib.hid hl0
            have Hk := Lib.hid hk
            clear hk hmem he hperm hperm2 hl0
            go_wp2
            go_roundg (q1 ++ q2).length
            case measure => have := Hl.out; omega
            case rel => exact ⟨q1 ++ q2, dn ++ [(k, v)], rfl, Hp.out, ⟨fun p hp => by
              rcases List.mem_append.1 hp with h1 | h1
              · exact Hdn.out p h1
              · have : p = (k, v) := by simpa using h1
                subst this
                exact Hk.out⟩, ⟨hit2⟩, ⟨hB2⟩⟩
          · have hvb : (v != u) = true := by simpa using hv
            have hno : sameMaps m1 m2 = false := by
              rw [Bool.eq_false_iff]
              intro hs
              simp only [sameMaps, Bool.and_eq_true, List.all_eq_true] at hs
              have := hs.2 _ hmem
              rw [hk] at this
              simp at this
              exact hv this.symm
            have Hno := Lib.hid hno
            clear hno hk hmem he hperm hperm2 hl0 hv
            go_wp2
            go_ret
            rw [Hno.out]
            exact ⟨rfl, hB2⟩
  · have hb : ((m1.length : Int) != (m2.length : Int)) = true := by simpa using fun e => hlen (by omega)
    have hno : sameMaps m1 m2 = false := by simp [sameMaps, hlen]
    have Hno := Lib.hid hno
    clear hno hlen
    go_enter Try.func46, Try.ntmps46
    go_wp2_with (first
      | (at_len; refine wp_len rfl _ 76 rfl Try.underlying76 r1 m1 rfl H1.out ?_)
      | (at_len; refine wp_len rfl _ 76 rfl Try.underlying76 r2 m2 rfl H2.out ?_))
    go_ret
    rw [Hno.out]
    exact ⟨rfl, Below.refl _ _⟩

theorem implSameMasks (A : Option Addr) (c : Nat) (l : List S74) (A1 : Option Addr) (c1 : Nat) (l1 : List S74) (w : World) (hr : Kd.C k74 w A l.length l) (hc : l.length ≤ c) (hl : l.length ≤ 9223372036854775807)
    (hr1 : Kd.C k74 w A1 l1.length l1) (hc1 : l1.length ≤ c1) (hl1 : l1.length ≤ 9223372036854775807) :
    Calls Try.prog 20 #[.slice A l.length c, .slice A1 l1.length c1] w fun e w' => e = .returned (.bool (sameMaps (mapOf l) (mapOf l1))) ∧ Below w.heap.size w w' := by
  have H1 := Lib.hid (masks A c l w hr hc hl)
  have H2 := Lib.hid (fun (W : World) (hb : Below w.heap.size w W) => masks A1 c1 l1 W (Kd.C_below hr1 hb) hc1 hl1)
  clear hr hr1
  go_enter Try.func20, Try.ntmps20
  go_wp2_with (first
    | (go_at_call_of 45 (Value.slice A l.length c); refine H1.out.mono ?_; rintro e w1 ⟨ra, rfl, hra, hma, hba⟩)
    | (go_at_call 45; refine (H2.out _ hba).mono ?_; rintro e w2 ⟨rb, rfl, hrb, hmb, hbb⟩)
    | (go_at_call 46; refine (equals ra rb _ _ _ (hma.below hbb) hmb).mono ?_; rintro e w3 ⟨rfl, hbe⟩))
  go_ret
  exact ⟨rfl, below_step (below_step hba hbb) hbe⟩
end Go.Proofs.Ytknldfighehplaa.HMasks
