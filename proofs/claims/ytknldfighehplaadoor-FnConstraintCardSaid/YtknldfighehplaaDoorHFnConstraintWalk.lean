/- The package's walks over options and constraints: Validate, Evaluate, GoString; conditions: the first cells of the table of properties, bytes below 128, lengths in bounds. -/
import Derived.Test.YtknldfighehplaaDoorHFnConstraintText
import Derived.Test.YtknldfighehplaaDoorHFnConstraintValid
import Derived.Test.YtknldfighehplaaDoorHFnConstraintEval
import Derived.Test.YtknldfighehplaaDoorHJoin
namespace Go.Proofs.YtknldfighehplaaDoor.HFnConstraintWalk
set_option linter.unusedSimpArgs false
set_option linter.unusedVariables false
open Go.RowKit Go.Proofs.YtknldfighehplaaDoor.HTabP Go.Proofs.YtknldfighehplaaDoor.HMap Go.Proofs.YtknldfighehplaaDoor.HFnConstraintList Go.Proofs.YtknldfighehplaaDoor.HFnConstraintText Go.Proofs.YtknldfighehplaaDoor.HFnConstraintPlain Go.Proofs.YtknldfighehplaaDoor.HFnConstraintValid Go.Proofs.YtknldfighehplaaDoor.HFnConstraintEval Go.Proofs.YtknldfighehplaaDoor.PFnConstraint Go.Proofs.YtknldfighehplaaDoorW.PrintWords Go.Proofs.YtknldfighehplaaDoorW.PrintLast Go.Proofs.YtknldfighehplaaDoorW.PrintMore

set_option maxHeartbeats 800000 in
/-- An option is valid just where all its terms are. -/
theorem optValidate (A : Option Addr) (c : Nat) (l : List ByteArray) (w : World) (hr : Kd.C Kd.string w A l.length l) (hc : l.length ≤ c) (hl : l.length ≤ 2147483647) (ha : ∀ x ∈ l, ascii x = true) (hs : ∀ x ∈ l, x.size ≤ 2147483647) (hT : TabP w) :
    Calls Tryd.prog 63 #[.slice A l.length c] w fun e w' => ErrIs (l.all valid) e ∧ Below w.heap.size w w' := by
  have HR := Aside0.mk hr
  have HV := Lib.hid (fun (k : Nat) (hk : k < l.length) (W : World) (hb : Below w.heap.size w W) => validate (rdOf ByteArray.empty l k) W (ha _ (rdOf_mem hk)) (hs _ (rdOf_mem hk)) (hT.below hb))
  clear hr ha hs hT
  go_enter Tryd.func63, Tryd.ntmps63
  go_wp2
  go_loopw [8] (fun i wr => ∃ k : Nat, k ≤ l.length ∧ i = .int .i64 k ∧ Aside0 (l.all valid = (l.drop k).all valid) ∧ Aside0 (Below w.heap.size w wr)) (fun i _ => l.length - (intOf i).toNat)
  case atStart => exact ⟨0, Nat.zero_le _, rfl, ⟨rfl⟩, ⟨Below.refl _ _⟩⟩
  case round =>
    obtain ⟨k, hk, rfl, HA, HB⟩ := hrel
    by_cases hlt : k < l.length
    · obtain ⟨ad, e0, hx0⟩ := Kd.at_string HR.out (k : Int) (by omega) (by omega)
      subst e0
      have y0 := (HB.out.cell (World.block_lt_of_cell? w _ hx0)).trans hx0
      simp only [Int.toNat_natCast] at y0
      have hv := HV.out k hlt wr HB.out
      have hd := drop_rdOf hlt
      have hall : l.all valid = (valid (rdOf ByteArray.empty l k) && (l.drop (k + 1)).all valid) := by rw [HA.out, hd, List.all_cons]
      generalize rdOf ByteArray.empty l (k : Int) = x at *
      cases hvx : valid x with
      | true =>
        rw [hvx] at hv hall
        simp only [ErrIs, Bool.true_and] at hv hall
        have HVV := Lib.hid hv
        have HAL := Lib.hid hall
        clear hv hall hd hvx hx0
        go_wp2_with (go_at_call 36; refine HVV.out.mono ?_; rintro e w1 ⟨rfl, hb1⟩)
        exact ⟨⟨k + 1, by omega, by go_num, ⟨HAL.out⟩, ⟨below_step HB.out hb1⟩⟩, by simp [intOf]; omega⟩
      | false =>
        rw [hvx] at hv hall
        simp only [ErrIs, Bool.false_and] at hv hall
        have HVV := Lib.hid hv
        have HAL := Lib.hid hall
        clear hv hall hd hvx hx0
        go_wp2_with (first
          | (go_at_call 36; refine HVV.out.mono ?_; rintro e w1 ⟨⟨T, v, rfl⟩, hb1⟩)
          | (go_at_call 59; refine (errNew _ _).mono ?_; rintro e w3 ⟨⟨T1, v1, rfl⟩, hb3⟩))
        go_ret
        rw [HAL.out]
        exact ⟨⟨T1, v1, rfl⟩, below_step (below_step HB.out hb1) hb3⟩
    · have hkl : k = l.length := by omega
      have hall : l.all valid = true := by rw [HA.out, hkl, List.drop_length]; rfl
      have HAL := Lib.hid hall
      clear hall hkl
      go_wp2
      go_ret
      rw [HAL.out]
      exact ⟨rfl, HB.out⟩

theorem rd31 (l : List (List ByteArray)) (k : Int) : rd_L3 l k = rd_L1 l k := rfl
/-- Lists whose terms are plain bytes, in bounds. -/
def plainL (l : List (List ByteArray)) : Prop := ∀ o ∈ l, o.length ≤ 2147483647 ∧ (∀ x ∈ o, ascii x = true) ∧ ∀ x ∈ o, x.size ≤ 2147483647

set_option maxHeartbeats 800000 in
/-- A constraint is valid just where all its options are. -/
theorem conValidate (A : Option Addr) (c : Nat) (l : List (List ByteArray)) (w : World) (hr : Kd.C (Kd.slice 44 Kd.string) w A l.length l) (hc : l.length ≤ c) (hl : l.length ≤ 2147483647) (hp : plainL l) (hT : TabP w) :
    Calls Tryd.prog 46 #[.slice A l.length c] w fun e w' => ErrIs (l.all fun o => o.all valid) e ∧ Below w.heap.size w w' := by
  have HR := Aside0.mk hr
  have HV := Lib.hid (fun (k : Nat) (hk : k < l.length) (W : World) (hb : Below w.heap.size w W) (B : Option Addr) (d : Nat) (hB : Kd.string.C w B (rd_L1 l k).length (rd_L1 l k)) (hd : (rd_L1 l k).length ≤ d) =>
    optValidate B d (rd_L1 l k) W (Kd.C_below hB hb) hd (hp _ (rd1_mem hk)).1 (hp _ (rd1_mem hk)).2.1 (hp _ (rd1_mem hk)).2.2 (hT.below hb))
  clear hr hp hT
  go_enter Tryd.func46, Tryd.ntmps46
  go_wp2
  go_loopw [8] (fun i wr => ∃ k : Nat, k ≤ l.length ∧ i = .int .i64 k ∧ Aside0 ((l.all fun o => o.all valid) = ((l.drop k).all fun o => o.all valid)) ∧ Aside0 (Below w.heap.size w wr)) (fun i _ => l.length - (intOf i).toNat)
  case atStart => exact ⟨0, Nat.zero_le _, rfl, ⟨rfl⟩, ⟨Below.refl _ _⟩⟩
  case round =>
    obtain ⟨k, hk, rfl, HA, HB⟩ := hrel
    by_cases hlt : k < l.length
    · obtain ⟨ad, A0, c0, e0, hx0, hd0, hC0⟩ := at_L3 HR.out (k : Int) (by omega) (by omega)
      subst e0
      have y0 := (HB.out.cell (World.block_lt_of_cell? w _ hx0)).trans hx0
      simp only [Int.toNat_natCast, rd31] at y0 hd0 hC0
      have hv := HV.out k hlt wr HB.out A0 c0 hC0 hd0
      have hd := drop_rd1 hlt
      have hall : (l.all fun o => o.all valid) = ((rd_L1 l k).all valid && ((l.drop (k + 1)).all fun o => o.all valid)) := by rw [HA.out, hd, List.all_cons]
      clear hC0 hx0
      generalize rd_L1 l (k : Int) = x at *
      cases hvx : x.all valid with
      | true =>
        rw [hvx] at hv hall
        simp only [ErrIs, Bool.true_and] at hv hall
        have HVV := Lib.hid hv
        have HAL := Lib.hid hall
        clear hv hall hd hvx
        go_wp2_with (go_at_call 63; refine HVV.out.mono ?_; rintro e w1 ⟨rfl, hb1⟩)
        exact ⟨⟨k + 1, by omega, by go_num, ⟨HAL.out⟩, ⟨below_step HB.out hb1⟩⟩, by simp [intOf]; omega⟩
      | false =>
        rw [hvx] at hv hall
        simp only [ErrIs, Bool.false_and] at hv hall
        have HVV := Lib.hid hv
        have HAL := Lib.hid hall
        clear hv hall hd hvx
        go_wp2_with (go_at_call 63; refine HVV.out.mono ?_; rintro e w1 ⟨⟨T, v, rfl⟩, hb1⟩)
        go_ret
        rw [HAL.out]
        exact ⟨⟨T, v, rfl⟩, below_step HB.out hb1⟩
    · have hkl : k = l.length := by omega
      have hall : (l.all fun o => o.all valid) = true := by rw [HA.out, hkl, List.drop_length]; rfl
      have HAL := Lib.hid hall
      clear hall hkl
      go_wp2
      go_ret
      rw [HAL.out]
      exact ⟨rfl, HB.out⟩

/-- What a term comes to under a map of tags. -/
def evalB (m : List (ByteArray × Bool)) (s : ByteArray) : Bool := valid s && ((lk m (nameOf s)).getD false == !negOf s)
theorem and_snoc (f : ByteArray → Bool) {l : List ByteArray} {k : Nat} (h : k < l.length) : (l.take (k + 1)).all f = ((l.take k).all f && f (rdOf ByteArray.empty l k)) := by
  rw [take_one h, List.all_append]; simp
theorem or_snoc (f : List ByteArray → Bool) {l : List (List ByteArray)} {k : Nat} (h : k < l.length) : (l.take (k + 1)).any f = ((l.take k).any f || f (rd_L1 l k)) := by
  have : l.take (k + 1) = l.take k ++ [rd_L1 l k] := by
    rw [List.take_succ_eq_append_getElem h]
    simp [rd_L1, List.getD, h]
  rw [this, List.any_append]; simp

set_option maxHeartbeats 800000 in
theorem optEvaluate (A : Option Addr) (c : Nat) (l : List ByteArray) (r : Nat) (m : List (ByteArray × Bool)) (w : World) (hr : Kd.C Kd.string w A l.length l) (hc : l.length ≤ c) (hl : l.length ≤ 2147483647) (ha : ∀ x ∈ l, ascii x = true) (hs : ∀ x ∈ l, x.size ≤ 2147483647) (hT : TabP w) (hm : MapIs ks vb w r m) :
    Calls Tryd.prog 64 #[.slice A l.length c, .map (some r)] w fun e w' => e = .returned (.bool (l.all (evalB m))) ∧ Below w.heap.size w w' := by
  have HR := Aside0.mk hr
  have HV := Lib.hid (fun (k : Nat) (hk : k < l.length) (W : World) (hb : Below w.heap.size w W) => evaluate (rdOf ByteArray.empty l k) r m W (ha _ (rdOf_mem hk)) (hs _ (rdOf_mem hk)) (hT.below hb) (hm.below hb))
  clear hr ha hs hT hm
  go_enter Tryd.func64, Tryd.ntmps64
  go_wp2
  go_loopw [5, 10] (fun v5 i wr => ∃ k : Nat, k ≤ l.length ∧ i = .int .i64 k ∧ (∃ b : Bool, v5 = .bool b ∧ Aside0 (b = (l.take k).all (evalB m))) ∧ Aside0 (Below w.heap.size w wr)) (fun _ i _ => l.length - (intOf i).toNat)
  case atStart => exact ⟨0, Nat.zero_le _, rfl, ⟨true, rfl, ⟨by simp⟩⟩, ⟨Below.refl _ _⟩⟩
  case round =>
    obtain ⟨k, hk, rfl, ⟨b, rfl, HA⟩, HB⟩ := hrel
    by_cases hlt : k < l.length
    · obtain ⟨ad, e0, hx0⟩ := Kd.at_string HR.out (k : Int) (by omega) (by omega)
      subst e0
      have y0 := (HB.out.cell (World.block_lt_of_cell? w _ hx0)).trans hx0
      simp only [Int.toNat_natCast] at y0
      have hv := HV.out k hlt wr HB.out
      have hsn : (l.take (k + 1)).all (evalB m) = (b && evalB m (rdOf ByteArray.empty l k)) := by rw [and_snoc _ hlt, HA.out]
      have HVV := Lib.hid hv
      have HSN := Lib.hid hsn
      clear hv hsn hx0 HA
      unfold evalB at HSN
      generalize rdOf ByteArray.empty l (k : Int) = x at *
      generalize (valid x && ((lk m (nameOf x)).getD false == !negOf x)) = t at *
      cases b with
      | true =>
        go_wp2_with (go_at_call 37; refine HVV.out.mono ?_; rintro e w1 ⟨rfl, hb1⟩)
        exact ⟨⟨k + 1, by omega, by go_num, ⟨t, rfl, ⟨by have := HSN.out; unfold evalB; rw [this]; simp⟩⟩, ⟨below_step HB.out hb1⟩⟩, by simp [intOf]; omega⟩
      | false =>
        go_wp2
        exact ⟨⟨k + 1, by omega, by go_num, ⟨false, rfl, ⟨by have := HSN.out; unfold evalB; rw [this]; simp⟩⟩, HB⟩, by simp [intOf]; omega⟩
    · have hkl : k = l.length := by omega
      have hb := HA.out
      rw [hkl, List.take_length] at hb
      have HBB := Lib.hid hb
      clear hb HA
      go_wp2
      go_ret
      rw [← HBB.out]
      exact ⟨rfl, HB.out⟩

set_option maxHeartbeats 800000 in
theorem conEvaluate (A : Option Addr) (c : Nat) (l : List (List ByteArray)) (r : Nat) (m : List (ByteArray × Bool)) (w : World) (hr : Kd.C (Kd.slice 44 Kd.string) w A l.length l) (hc : l.length ≤ c) (hl : l.length ≤ 2147483647) (hp : plainL l) (hT : TabP w) (hm : MapIs ks vb w r m) :
    Calls Tryd.prog 47 #[.slice A l.length c, .map (some r)] w fun e w' => e = .returned (.bool (l.any fun o => o.all (evalB m))) ∧ Below w.heap.size w w' := by
  have HR := Aside0.mk hr
  have HV := Lib.hid (fun (k : Nat) (hk : k < l.length) (W : World) (hb : Below w.heap.size w W) (B : Option Addr) (d : Nat) (hB : Kd.string.C w B (rd_L1 l k).length (rd_L1 l k)) (hd : (rd_L1 l k).length ≤ d) =>
    optEvaluate B d (rd_L1 l k) r m W (Kd.C_below hB hb) hd (hp _ (rd1_mem hk)).1 (hp _ (rd1_mem hk)).2.1 (hp _ (rd1_mem hk)).2.2 (hT.below hb) (hm.below hb))
  clear hr hp hT hm
  go_enter Tryd.func47, Tryd.ntmps47
  go_wp2
  go_loopw [5, 10] (fun v5 i wr => ∃ k : Nat, k ≤ l.length ∧ i = .int .i64 k ∧ (∃ b : Bool, v5 = .bool b ∧ Aside0 (b = (l.take k).any fun o => o.all (evalB m))) ∧ Aside0 (Below w.heap.size w wr)) (fun _ i _ => l.length - (intOf i).toNat)
  case atStart => exact ⟨0, Nat.zero_le _, rfl, ⟨false, rfl, ⟨by simp⟩⟩, ⟨Below.refl _ _⟩⟩
  case round =>
    obtain ⟨k, hk, rfl, ⟨b, rfl, HA⟩, HB⟩ := hrel
    by_cases hlt : k < l.length
    · obtain ⟨ad, A0, c0, e0, hx0, hd0, hC0⟩ := at_L3 HR.out (k : Int) (by omega) (by omega)
      subst e0
      have y0 := (HB.out.cell (World.block_lt_of_cell? w _ hx0)).trans hx0
      simp only [Int.toNat_natCast, rd31] at y0 hd0 hC0
      have hv := HV.out k hlt wr HB.out A0 c0 hC0 hd0
      have hsn : ((l.take (k + 1)).any fun o => o.all (evalB m)) = (b || (rd_L1 l k).all (evalB m)) := by rw [or_snoc _ hlt, HA.out]
      have HVV := Lib.hid hv
      have HSN := Lib.hid hsn
      clear hv hsn hx0 HA hC0
      generalize rd_L1 l (k : Int) = x at *
      generalize x.all (evalB m) = t at *
      cases b with
      | false =>
        go_wp2_with (go_at_call 64; refine HVV.out.mono ?_; rintro e w1 ⟨rfl, hb1⟩)
        exact ⟨⟨k + 1, by omega, by go_num, ⟨t, rfl, ⟨by rw [HSN.out]; simp⟩⟩, ⟨below_step HB.out hb1⟩⟩, by simp [intOf]; omega⟩
      | true =>
        go_wp2
        exact ⟨⟨k + 1, by omega, by go_num, ⟨true, rfl, ⟨by rw [HSN.out]; simp⟩⟩, HB⟩, by simp [intOf]; omega⟩
    · have hkl : k = l.length := by omega
      have hb := HA.out
      rw [hkl, List.take_length] at hb
      have HBB := Lib.hid hb
      clear hb HA
      go_wp2
      go_ret
      rw [← HBB.out]
      exact ⟨rfl, HB.out⟩
end Go.Proofs.YtknldfighehplaaDoor.HFnConstraintWalk
