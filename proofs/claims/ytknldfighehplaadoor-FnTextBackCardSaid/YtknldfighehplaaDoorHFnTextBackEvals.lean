/- Validate, Evaluate and GoString of options and constraints, the copies of lists; conditions: the first cells of the table of properties, bytes below 128, lengths in bounds. -/
import Derived.Test.YtknldfighehplaaDoorHFnTextBackCut
import Derived.Test.YtknldfighehplaaDoorHFnTextBackValid
import Derived.Test.YtknldfighehplaaDoorHFnTextBackEval
import Derived.Test.YtknldfighehplaaDoorHJoin
import Derived.Test.YtknldfighehplaaDoorHRegion
namespace Go.Proofs.YtknldfighehplaaDoor.HFnTextBackEvals
set_option linter.unusedSimpArgs false
set_option linter.unusedVariables false
open Go.RowKit Go.Proofs.YtknldfighehplaaDoor.HTabP Go.Proofs.YtknldfighehplaaDoor.HMap Go.Proofs.YtknldfighehplaaDoor.HRegion Go.Proofs.YtknldfighehplaaDoor.HSplit Go.Proofs.YtknldfighehplaaDoor.HFnTextBackList Go.Proofs.YtknldfighehplaaDoor.HFnTextBackPlain Go.Proofs.YtknldfighehplaaDoor.HFnTextBackValid Go.Proofs.YtknldfighehplaaDoor.HFnTextBackEval Go.Proofs.YtknldfighehplaaDoor.HFnTextBackCut Go.Proofs.YtknldfighehplaaDoor.PFnTextBack Go.Proofs.YtknldfighehplaaDoorW.PrintWords Go.Proofs.YtknldfighehplaaDoorW.PrintLast Go.Proofs.YtknldfighehplaaDoorW.PrintMore

set_option maxHeartbeats 800000 in
/-- An option is valid just where all its terms are. -/
theorem optValidate (A : Option Addr) (c : Nat) (l : List ByteArray) (w : World) (hr : Kd.C Kd.string w A l.length l) (hc : l.length ≤ c) (hl : l.length ≤ 2147483647) (ha : ∀ x ∈ l, ascii x = true) (hs : ∀ x ∈ l, x.size ≤ 2147483647) (hT : TabP w) :
    Calls Tryd.prog 63 #[.slice A l.length c] w fun e w' => ErrIs (l.all valid) e ∧ Below w.heap.size w w' := by
  have HR := Aside0.mk hr
  have HV := Lib.hid (fun (k : Nat) (hk : k < l.length) (W : World) (hb : Below w.heap.size w W) => validate (rdOf ByteArray.empty l k) W (ha _ (rdOf_mem hk)) (hs _ (rdOf_mem hk)) (hT.below hb))
  clear hr ha hs hT
  go_enter Tryd.func63, Tryd.ntmps63
  go_wp2
  go_loopw [8] (fun i wr => ∃ k : Nat, k ≤ l.length ∧ i = .int .i64 k ∧ Aside0 (l.all valid = (l.drop k).all valid) ∧ Aside0 (Below w.heap.size w wr)) (fun i _ => l.length - (intOf i).toNat)
  case atStart => exact ⟨0, Nat.zero_le _, rfl, ⟨rfl⟩, ⟨Below.refl _ _⟩⟩
  case round =>
    obtain ⟨k, hk, rfl, HA, HB⟩ := hrel
    by_cases hlt : k < l.length
    · obtain ⟨ad, e0, hx0⟩ := Kd.at_string HR.out (k : Int) (by omega) (by omega)
      subst e0
      have y0 := (HB.out.cell (World.block_lt_of_cell? w _ hx0)).trans hx0
      simp only [Int.toNat_natCast] at y0
      have hv := HV.out k hlt wr HB.out
      have hd := drop_rdOf hlt
      have hall : l.all valid = (valid (rdOf ByteArray.empty l k) && (l.drop (k + 1)).all valid) := by rw [HA.out, hd, List.all_cons]
      generalize rdOf ByteArray.empty l (k : Int) = x at *
      cases hvx : valid x with
      | true =>
        rw [hvx] at hv hall
        simp only [ErrIs, Bool.true_and] at hv hall
        have HVV := Lib.hid hv
        have HAL := Lib.hid hall
        clear hv hall hd hvx hx0
        go_wp2_with (go_at_call 36; refine HVV.out.mono ?_; rintro e w1 ⟨rfl, hb1⟩)
        exact ⟨⟨k + 1, by omega, by go_num, ⟨HAL.out⟩, ⟨below_step HB.out hb1⟩⟩, by simp [intOf]; omega⟩
      | false =>
        rw [hvx] at hv hall
        simp only [ErrIs, Bool.false_and] at hv hall
        have HVV := Lib.hid hv
        have HAL := Lib.hid hall
        clear hv hall hd hvx hx0
        go_wp2_with (first
          | (go_at_call 36; refine HVV.out.mono ?_; rintro e w1 ⟨⟨T, v, rfl⟩, hb1⟩)
          | (go_at_call 59; refine (errNew _ _).mono ?_; rintro e w3 ⟨⟨T1, v1, rfl⟩, hb3⟩))
        go_ret
        rw [HAL.out]
        exact ⟨⟨T1, v1, rfl⟩, below_step (below_step HB.out hb1) hb3⟩
    · have hkl : k = l.length := by omega
      have hall : l.all valid = true := by rw [HA.out, hkl, List.drop_length]; rfl
      have HAL := Lib.hid hall
      clear hall hkl
      go_wp2
      go_ret
      rw [HAL.out]
      exact ⟨rfl, HB.out⟩

theorem rd31 (l : List (List ByteArray)) (k : Int) : rd_L7 l k = rd_L5 l k := rfl
/-- Lists whose terms are plain bytes, in bounds. -/
def plainL (l : List (List ByteArray)) : Prop := ∀ o ∈ l, o.length ≤ 2147483647 ∧ (∀ x ∈ o, ascii x = true) ∧ ∀ x ∈ o, x.size ≤ 2147483647

/-- What a term comes to under a map of tags. -/
def evalB (m : List (ByteArray × Bool)) (s : ByteArray) : Bool := valid s && ((lk m (nameOf s)).getD false == !negOf s)
theorem and_snoc (f : ByteArray → Bool) {l : List ByteArray} {k : Nat} (h : k < l.length) : (l.take (k + 1)).all f = ((l.take k).all f && f (rdOf ByteArray.empty l k)) := by
  rw [take_one h, List.all_append]; simp
theorem or_snoc (f : List ByteArray → Bool) {l : List (List ByteArray)} {k : Nat} (h : k < l.length) : (l.take (k + 1)).any f = ((l.take k).any f || f (rd_L5 l k)) := by
  have : l.take (k + 1) = l.take k ++ [rd_L5 l k] := by
    rw [List.take_succ_eq_append_getElem h]
    simp [rd_L5, List.getD, h]
  rw [this, List.any_append]; simp

set_option maxHeartbeats 800000 in
theorem optEvaluate (A : Option Addr) (c : Nat) (l : List ByteArray) (r : Nat) (m : List (ByteArray × Bool)) (w : World) (hr : Kd.C Kd.string w A l.length l) (hc : l.length ≤ c) (hl : l.length ≤ 2147483647) (ha : ∀ x ∈ l, ascii x = true) (hs : ∀ x ∈ l, x.size ≤ 2147483647) (hT : TabP w) (hm : MapIs ks vb w r m) :
    Calls Tryd.prog 64 #[.slice A l.length c, .map (some r)] w fun e w' => e = .returned (.bool (l.all (evalB m))) ∧ Below w.heap.size w w' := by
  have HR := Aside0.mk hr
  have HV := Lib.hid (fun (k : Nat) (hk : k < l.length) (W : World) (hb : Below w.heap.size w W) => evaluate (rdOf ByteArray.empty l k) r m W (ha _ (rdOf_mem hk)) (hs _ (rdOf_mem hk)) (hT.below hb) (hm.below hb))
  clear hr ha hs hT hm
  go_enter Tryd.func64, Tryd.ntmps64
  go_wp2
  go_loopw [5, 10] (fun v5 i wr => ∃ k : Nat, k ≤ l.length ∧ i = .int .i64 k ∧ (∃ b : Bool, v5 = .bool b ∧ Aside0 (b = (l.take k).all (evalB m))) ∧ Aside0 (Below w.heap.size w wr)) (fun _ i _ => l.length - (intOf i).toNat)
  case atStart => exact ⟨0, Nat.zero_le _, rfl, ⟨true, rfl, ⟨by simp⟩⟩, ⟨Below.refl _ _⟩⟩
  case round =>
    obtain ⟨k, hk, rfl, ⟨b, rfl, HA⟩, HB⟩ := hrel
    by_cases hlt : k < l.length
    · obtain ⟨ad, e0, hx0⟩ := Kd.at_string HR.out (k : Int) (by omega) (by omega)
      subst e0
      have y0 := (HB.out.cell (World.block_lt_of_cell? w _ hx0)).trans hx0
      simp only [Int.toNat_natCast] at y0
      have hv := HV.out k hlt wr HB.out
      have hsn : (l.take (k + 1)).all (evalB m) = (b && evalB m (rdOf ByteArray.empty l k)) := by rw [and_snoc _ hlt, HA.out]
      have HVV := Lib.hid hv
      have HSN := Lib.hid hsn
      clear hv hsn hx0 HA
      unfold evalB at HSN
      generalize rdOf ByteArray.empty l (k : Int) = x at *
      generalize (valid x && ((lk m (nameOf x)).getD false == !negOf x)) = t at *
      cases b with
      | true =>
        go_wp2_with (go_at_call 37; refine HVV.out.mono ?_; rintro e w1 ⟨rfl, hb1⟩)
        exact ⟨⟨k + 1, by omega, by go_num, ⟨t, rfl, ⟨by have := HSN.out; unfold evalB; rw [this]; simp⟩⟩, ⟨below_step HB.out hb1⟩⟩, by simp [intOf]; omega⟩
      | false =>
        go_wp2
        exact ⟨⟨k + 1, by omega, by go_num, ⟨false, rfl, ⟨by have := HSN.out; unfold evalB; rw [this]; simp⟩⟩, HB⟩, by simp [intOf]; omega⟩
    · have hkl : k = l.length := by omega
      have hb := HA.out
      rw [hkl, List.take_length] at hb
      have HBB := Lib.hid hb
      clear hb HA
      go_wp2
      go_ret
      rw [← HBB.out]
      exact ⟨rfl, HB.out⟩

set_option maxHeartbeats 800000 in
theorem conEvaluate (A : Option Addr) (c : Nat) (l : List (List ByteArray)) (r : Nat) (m : List (ByteArray × Bool)) (w : World) (hr : Kd.C (Kd.slice 44 Kd.string) w A l.length l) (hc : l.length ≤ c) (hl : l.length ≤ 2147483647) (hp : plainL l) (hT : TabP w) (hm : MapIs ks vb w r m) :
    Calls Tryd.prog 47 #[.slice A l.length c, .map (some r)] w fun e w' => e = .returned (.bool (l.any fun o => o.all (evalB m))) ∧ Below w.heap.size w w' := by
  have HR := Aside0.mk hr
  have HV := Lib.hid (fun (k : Nat) (hk : k < l.length) (W : World) (hb : Below w.heap.size w W) (B : Option Addr) (d : Nat) (hB : Kd.string.C w B (rd_L5 l k).length (rd_L5 l k)) (hd : (rd_L5 l k).length ≤ d) =>
    optEvaluate B d (rd_L5 l k) r m W (Kd.C_below hB hb) hd (hp _ (rd1_mem hk)).1 (hp _ (rd1_mem hk)).2.1 (hp _ (rd1_mem hk)).2.2 (hT.below hb) (hm.below hb))
  clear hr hp hT hm
  go_enter Tryd.func47, Tryd.ntmps47
  go_wp2
  go_loopw [5, 10] (fun v5 i wr => ∃ k : Nat, k ≤ l.length ∧ i = .int .i64 k ∧ (∃ b : Bool, v5 = .bool b ∧ Aside0 (b = (l.take k).any fun o => o.all (evalB m))) ∧ Aside0 (Below w.heap.size w wr)) (fun _ i _ => l.length - (intOf i).toNat)
  case atStart => exact ⟨0, Nat.zero_le _, rfl, ⟨false, rfl, ⟨by simp⟩⟩, ⟨Below.refl _ _⟩⟩
  case round =>
    obtain ⟨k, hk, rfl, ⟨b, rfl, HA⟩, HB⟩ := hrel
    by_cases hlt : k < l.length
    · obtain ⟨ad, A0, c0, e0, hx0, hd0, hC0⟩ := at_L7 HR.out (k : Int) (by omega) (by omega)
      subst e0
      have y0 := (HB.out.cell (World.block_lt_of_cell? w _ hx0)).trans hx0
      simp only [Int.toNat_natCast, rd31] at y0 hd0 hC0
      have hv := HV.out k hlt wr HB.out A0 c0 hC0 hd0
      have hsn : ((l.take (k + 1)).any fun o => o.all (evalB m)) = (b || (rd_L5 l k).all (evalB m)) := by rw [or_snoc _ hlt, HA.out]
      have HVV := Lib.hid hv
      have HSN := Lib.hid hsn
      clear hv hsn hx0 HA hC0
      generalize rd_L5 l (k : Int) = x at *
      generalize x.all (evalB m) = t at *
      cases b with
      | false =>
        go_wp2_with (go_at_call 64; refine HVV.out.mono ?_; rintro e w1 ⟨rfl, hb1⟩)
        exact ⟨⟨k + 1, by omega, by go_num, ⟨t, rfl, ⟨by rw [HSN.out]; simp⟩⟩, ⟨below_step HB.out hb1⟩⟩, by simp [intOf]; omega⟩
      | true =>
        go_wp2
        exact ⟨⟨k + 1, by omega, by go_num, ⟨true, rfl, ⟨by rw [HSN.out]; simp⟩⟩, HB⟩, by simp [intOf]; omega⟩
    · have hkl : k = l.length := by omega
      have hb := HA.out
      rw [hkl, List.take_length] at hb
      have HBB := Lib.hid hb
      clear hb HA
      go_wp2
      go_ret
      rw [← HBB.out]
      exact ⟨rfl, HB.out⟩
theorem inf9 : (Tryd.prog.info? 9).map (fun i => (i.zero, i.size, i.bytes)) = some (some (.string ⟨#[]⟩), 1, 16) := by kernel_rfl
theorem string_M (w : World) (base : Nat) (ok : Nat → Prop) (x : ByteArray) : Kd.string.M w base ok x [.string x] := rfl

theorem joinRow (base : Nat) (ok : Nat → Prop) (v : Value) (l : List ByteArray) (W : World) (hR : Kd.string.R 9 W base ok v l) (hl : l.length ≤ 2000) (hs : ∀ x ∈ l, x.size ≤ 2147483647) :
    Calls Tryd.prog 67 #[v, .string ⟨#[44]⟩] W fun e w' => e = .returned (.string (optText l)) ∧ Below W.heap.size W w' := by
  have hsz := optText_size 2147483647 l hs
  obtain ⟨inner, hlen, ho⟩ := Kd.R_own hR
  rcases ho with ⟨rfl, h0⟩ | ⟨g, cap, cur, rfl, hb, hg, hn, hm, hcs, htk⟩
  · have : l = [] := List.eq_nil_of_length_eq_zero h0
    subst this
    refine (HJoin.join_none none 0 ⟨#[44]⟩ W).mono fun e w' ⟨he, hw⟩ => ⟨?_, hw ▸ Below.refl _ _⟩
    rw [he]; simp [optText, Lib.join_nil]
  · have hC := (Kd.R_reads' hR).2.2
    refine HJoin.join g 0 cap l ⟨#[44]⟩ W (fun j x hj => ?_) (blk_lt hg) (by omega) hn ?_
    · have hjl : j < l.length := (List.getElem?_eq_some_iff.1 hj).1
      obtain ⟨ad, he, hc⟩ := Kd.at_string hC (j : Int) (by omega) (by omega)
      injection he with he
      subst he
      have : rdOf ByteArray.empty l (j : Int) = x := by
        have h2 : l[j]? = some x := hj
        simp [rdOf, List.getD, h2]
      rw [this] at hc
      simp only [Int.toNat_natCast] at hc
      have ea : ({ block := g, off := 0 } : Addr).add j = ⟨g, 0 + j, none⟩ := by
        unfold Addr.add
        split
        · rename_i h; simp_all
        · rfl
      rwa [ea] at hc
    · have h1 : (Lib.join (l.map (·.data.toList)) [44]).length = (optText l).size := by simp [optText, ByteArray.size]
      have h2 : l.length * (2147483647 + 1) ≤ 2000 * (2147483647 + 1) := Nat.mul_le_mul_right _ hl
      show (Lib.join (l.map (·.data.toList)) [44]).length ≤ _
      omega

set_option maxHeartbeats 800000 in
theorem optGo (A : Option Addr) (c : Nat) (l : List ByteArray) (w : World) (hr : Kd.C Kd.string w A l.length l) (hc : l.length ≤ c) (hl : l.length ≤ 2000) (hs : ∀ x ∈ l, x.size ≤ 2147483647) :
    Calls Tryd.prog 56 #[.slice A l.length c] w fun e w' => e = .returned (.string (optText l)) ∧ Below w.heap.size w w' := by
  have HR := Aside0.mk hr
  have HJ := Lib.hid (fun (v : Value) (W : World) (hR : Kd.string.R 9 W w.heap.size (fun _ => True) v l) => joinRow w.heap.size (fun _ => True) v l W hR hl hs)
  have HL := Lib.hid hl
  clear hr hs
  go_enter Tryd.func56, Tryd.ntmps56
  go_wp2
  go_loopw [3, 8] (fun v3 i wr => ∃ k : Nat, k ≤ l.length ∧ i = .int .i64 k ∧ Aside0 (Kd.string.R 9 wr w.heap.size (fun _ => True) v3 (l.take k)) ∧ Aside0 (Below w.heap.size w wr)) (fun _ i _ => l.length - (intOf i).toNat)
  case atStart => exact ⟨0, Nat.zero_le _, rfl, ⟨Kd.R_nil _ _ _ _ _⟩, ⟨Below.refl _ _⟩⟩
  case round =>
    obtain ⟨k, hk, rfl, HA, HB⟩ := hrel
    by_cases hlt : k < l.length
    · obtain ⟨ad, e0, hx0⟩ := Kd.at_string HR.out (k : Int) (by omega) (by omega)
      subst e0
      have y0 := (HB.out.cell (World.block_lt_of_cell? w _ hx0)).trans hx0
      simp only [Int.toNat_natCast] at y0
      have HT := Lib.hid (take_one hlt)
      have hlk : (l.take k).length ≤ 2000 := by simp; omega
      have HLK := Lib.hid hlk
      have HG := Lib.hid (fun (W : World) => buildtags_Term_GoString.calls (rdOf ByteArray.empty l k) (rdOf ByteArray.empty l k) W rfl)
      clear hx0 hlk
      generalize rdOf ByteArray.empty l (k : Int) = x at *
      generalize l.take k = ys at *
      go_wp2_with (first
        | (go_at_call 66; refine (HG.out _).mono ?_; rintro e w1 ⟨rfl, hd1⟩; have HR1 := Aside0.mk (Kd.R_below HA.out hd1.below); have HB1 := Aside0.mk (below_step HB.out hd1.below))
        | (at_builtin; refine Kd.R_append Kd.string (w0 := w) w.heap.size ?_ (.tmp 12) (.tmp 15) 22 9 (.string ⟨#[]⟩) 16 ?_ ?_ ?_ ?_ ?_ ?_ u3 ys x [.string x] (fun _ => True) (fun _ => False) ?_ ?_ ?_ (fun _ hk => hk.elim) (fun _ _ => trivial) ?_ ?_ ?_ ?_ ?_; (exact rfl); (exact rfl); (exact Tryd.underlying22); (exact inf9); (exact rfl); (exact Nat.succ_pos 0); (exact Nat.succ_pos 15); (exact rfl); (exact rfl); (exact string_M _ _ _ _); (exact HR1.out); (exact HB1.out); (exact HB1.out.size); (have := HLK.out; omega); intro v4 w4 hr4 hb4 hg4 hat4; have HR4 := Aside0.mk hr4; have HB4 := Aside0.mk hb4; clear hr4 hb4 hg4 hat4))
      exact ⟨⟨k + 1, by omega, by go_num, ⟨by rw [HT.out]; exact HR4.out⟩, HB4⟩, by simp [intOf]; omega⟩
    · have hkl : k = l.length := by omega
      have ha := HA.out
      rw [hkl, List.take_length] at ha
      have HJJ := Lib.hid (HJ.out u3 wr ha)
      clear ha HA hkl
      go_wp2_with (go_at_call 67; refine HJJ.out.mono ?_; rintro e w1 ⟨rfl, hb1⟩)
      go_ret
      exact ⟨rfl, below_step HB.out hb1⟩

set_option maxHeartbeats 800000 in
theorem conGo (A : Option Addr) (c : Nat) (l : List (List ByteArray)) (w : World) (hr : Kd.C (Kd.slice 44 Kd.string) w A l.length l) (hc : l.length ≤ c) (hs : small 2000 2147483647 l) :
    Calls Tryd.prog 49 #[.slice A l.length c] w fun e w' => e = .returned (.string (conText l)) ∧ Below w.heap.size w w' := by
  have HR := Aside0.mk hr
  have HV := Lib.hid (fun (k : Nat) (hk : k < l.length) (W : World) (hb : Below w.heap.size w W) (B : Option Addr) (d : Nat) (hB : Kd.string.C w B (rd_L5 l k).length (rd_L5 l k)) (hd : (rd_L5 l k).length ≤ d) =>
    optGo B d (rd_L5 l k) W (Kd.C_below hB hb) hd (hs.2 _ (rd1_mem hk)).1 (hs.2 _ (rd1_mem hk)).2)
  have HZ := Lib.hid (fun (k : Nat) (hk : k ≤ l.length) => show (bodyText (l.take k)).size ≤ 9000000000000000 from by
    have h1 := bodyText_size 2000 2147483647 l hs k hk
    have h2 : k * (1 + 2000 * (2147483647 + 1)) ≤ 2000 * (1 + 2000 * (2147483647 + 1)) := Nat.mul_le_mul_right _ (by have := hs.1; omega)
    omega)
  have HO := Lib.hid (fun (k : Nat) (hk : k < l.length) => show (optText (rd_L5 l k)).size ≤ 9000000000000 from by
    have h1 := optText_size 2147483647 _ (hs.2 _ (rd1_mem hk)).2
    have h2 : (rd_L5 l k).length * (2147483647 + 1) ≤ 2000 * (2147483647 + 1) := Nat.mul_le_mul_right _ (hs.2 _ (rd1_mem hk)).1
    omega)
  have hl : l.length ≤ 2000 := hs.1
  clear hr hs
  go_enter Tryd.func49, Tryd.ntmps49
  go_wp2
  go_loopw [3, 8] (fun v3 i wr => ∃ k : Nat, k ≤ l.length ∧ i = .int .i64 k ∧ v3 = .string (bodyText (l.take k)) ∧ Aside0 (Below w.heap.size w wr)) (fun _ i _ => l.length - (intOf i).toNat)
  case atStart => exact ⟨0, Nat.zero_le _, rfl, rfl, ⟨Below.refl _ _⟩⟩
  case round =>
    obtain ⟨k, hk, rfl, rfl, HB⟩ := hrel
    have hz := HZ.out k hk
    by_cases hlt : k < l.length
    · obtain ⟨ad, A0, c0, e0, hx0, hd0, hC0⟩ := at_L7 HR.out (k : Int) (by omega) (by omega)
      subst e0
      have y0 := (HB.out.cell (World.block_lt_of_cell? w _ hx0)).trans hx0
      simp only [Int.toNat_natCast, rd31] at y0 hd0 hC0
      have HVV := Lib.hid (HV.out k hlt wr HB.out A0 c0 hC0 hd0)
      have HS := Lib.hid (bodyText_snoc hlt)
      have ho := HO.out k hlt
      have e32 : (⟨#[32]⟩ : ByteArray).size = 1 := rfl
      have h3 : ((⟨#[32]⟩ : ByteArray) ++ optText (rd_L5 l k)).size = 1 + (optText (rd_L5 l k)).size := by rw [ByteArray.size_append, e32]
      clear hx0 hC0 HV HZ HO e32
      generalize rd_L5 l (k : Int) = x at *
      generalize bodyText (l.take k) = t at *
      generalize optText x = ot at *
      go_wp2_with (go_at_call 56; refine HVV.out.mono ?_; rintro e w1 ⟨rfl, hb1⟩)
      exact ⟨⟨k + 1, by omega, by go_num, by rw [HS.out], ⟨below_step HB.out hb1⟩⟩, by simp [intOf]; omega⟩
    · have hkl : k = l.length := by omega
      subst hkl
      rw [List.take_length] at hz ⊢
      clear HV HZ HO
      have HC := Lib.hid (show bodyText l ++ (⟨#[10]⟩ : ByteArray) = conText l from rfl)
      generalize bodyText l = t at *
      go_wp2
      go_ret
      exact ⟨by rw [← HC.out]; rfl, HB.out⟩

theorem option_l (l : List ByteArray) (hl : l.length ≤ 2147483647) : ∀ (m n k : Nat) (acc : List ByteArray), m + n = l.length → m < k → acc.length + m ≤ 4294967296 →
    impl_option.l0 k acc l l.length n = some (acc ++ l.drop n) := by
  intro m
  induction m with
  | zero =>
    intro n k acc hn hk ha
    obtain ⟨k, rfl⟩ : ∃ j, k = j + 1 := ⟨k - 1, by omega⟩
    have : n = l.length := by omega
    subst this
    simp only [impl_option.l0]
    rw [if_neg (by omega), List.drop_length]
    simp
  | succ m ih =>
    intro n k acc hn hk ha
    obtain ⟨k, rfl⟩ : ∃ j, k = j + 1 := ⟨k - 1, by omega⟩
    have hlt : n < l.length := by omega
    have hw : wrap64 ((n : Int) + 1) = ((n + 1 : Nat) : Int) := by unfold wrap64; omega
    simp only [impl_option.l0]
    rw [if_pos (by omega), if_pos (by omega), if_pos (by omega), if_pos (by omega), hw, drop_rdOf hlt, ih (n + 1) k _ (by omega) (by omega) (by simp; omega)]
    simp
theorem option_is (l : List ByteArray) (hl : l.length ≤ 2147483647) (k : Nat) (hk : l.length < k) : impl_option.f k l = some l := by
  unfold impl_option.f
  have h := option_l l hl l.length 0 k [] (by omega) hk (by simp; omega)
  simpa using h
theorem constraint_l (N : Nat) (l : List (List ByteArray)) (hl : l.length ≤ 2147483647) (hN : N ≤ 2147483647) (hs : within N l) : ∀ (m n k : Nat) (acc : List (List ByteArray)), m + n = l.length → m + N < k → acc.length + m ≤ 4294967296 →
    impl_constraint.l0 k acc l l.length n = some (acc ++ l.drop n) := by
  intro m
  induction m with
  | zero =>
    intro n k acc hn hk ha
    obtain ⟨k, rfl⟩ : ∃ j, k = j + 1 := ⟨k - 1, by omega⟩
    have : n = l.length := by omega
    subst this
    simp only [impl_constraint.l0]
    rw [if_neg (by omega), List.drop_length]
    simp
  | succ m ih =>
    intro n k acc hn hk ha
    obtain ⟨k, rfl⟩ : ∃ j, k = j + 1 := ⟨k - 1, by omega⟩
    have hlt : n < l.length := by omega
    have hw : wrap64 ((n : Int) + 1) = ((n + 1 : Nat) : Int) := by unfold wrap64; omega
    have hin := hs _ (rd1_mem hlt)
    simp only [impl_constraint.l0]
    rw [if_pos (by omega), if_pos (by omega), if_pos (by omega), option_is _ (by omega) k (by omega)]
    simp only [Option.bind_some]
    rw [if_pos (by omega), hw, drop_rd1 hlt, ih (n + 1) k _ (by omega) (by omega) (by simp; omega)]
    simp
theorem constraint_is (N : Nat) (l : List (List ByteArray)) (hl : l.length ≤ 2147483647) (hN : N ≤ 2147483647) (hs : within N l) (k : Nat) (hk : l.length + N < k) : impl_constraint.f k l = some l := by
  unfold impl_constraint.f
  have h := constraint_l N l hl hN hs l.length 0 k [] (by omega) hk (by simp; omega)
  simpa using h
/-- The list copied, as the package's own. -/
theorem copied (A : Option Addr) (c : Nat) (l : List (List ByteArray)) (w : World) (hr : Kd.C (Kd.slice 9 Kd.string) w A l.length l) (hc : l.length ≤ c) (hs : small 2000 2147483647 l) :
    Calls Tryd.prog 45 #[.slice A l.length c] w fun e w' => ∃ B d, e = .returned (.slice B l.length d) ∧ l.length ≤ d ∧ Kd.C (Kd.slice 44 Kd.string) w' B l.length l ∧ Below w.heap.size w w' :=
  (impl_constraint.calls (l.length + 2000 + 1) A c l l w hr hc (constraint_is 2000 l (by have := hs.1; omega) (by omega) (fun o ho => (hs.2 o ho).1) _ (by omega))).mono fun e w' ⟨v, he, hS, hb⟩ => by
    obtain ⟨B, d, rfl, hd, hC⟩ := Kd.S_reads hS
    exact ⟨B, d, he, hd, hC, hb⟩
theorem plain_of {l : List (List ByteArray)} (hs : small 2000 2147483647 l) (ha : ∀ o ∈ l, ∀ x ∈ o, ascii x = true) : plainL l := fun o ho => ⟨by have := (hs.2 o ho).1; omega, ha o ho, (hs.2 o ho).2⟩

theorem evalB_is (tags : List ByteArray) : evalB (mapT tags) = fun s => evalT s tags := by
  funext s
  unfold evalB evalT
  rw [lk_mapT]
  cases valid s <;> cases (tags.any fun y => decide (y = nameOf s)) <;> cases negOf s <;> rfl
theorem implEvaluate (A : Option Addr) (c : Nat) (l : List (List ByteArray)) (A1 : Option Addr) (c1 : Nat) (tags : List ByteArray) (w : World) (hr : Kd.C (Kd.slice 9 Kd.string) w A l.length l) (hc : l.length ≤ c) (hs : small 2000 2147483647 l) (ha : ∀ o ∈ l, ∀ x ∈ o, ascii x = true) (hT : TabP w)
    (hr1 : Kd.C Kd.string w A1 tags.length tags) (hc1 : tags.length ≤ c1) (hl1 : tags.length ≤ 2147483647) :
    Calls Tryd.prog 23 #[.slice A l.length c, .slice A1 tags.length c1] w fun e w' => e = .returned (.bool (l.any fun o => o.all fun s => evalT s tags)) ∧ Below w.heap.size w w' := by
  have H1 := Lib.hid (copied A c l w hr hc hs)
  have H2 := Lib.hid (fun (W : World) (hb : Below w.heap.size w W) => setTags A1 c1 tags W (Kd.C_below hr1 hb) hc1 (by omega))
  have H3 := Lib.hid (fun (B : Option Addr) (d : Nat) (r : Nat) (W : World) (hC : Kd.C (Kd.slice 44 Kd.string) W B l.length l) (hd : l.length ≤ d) (hb : Below w.heap.size w W) (hm : MapIs ks vb W r (mapT tags)) => conEvaluate B d l r (mapT tags) W hC hd (by have := hs.1; omega) (plain_of hs ha) (hT.below hb) hm)
  rw [evalB_is] at H3
  clear hr hs ha hT hr1
  go_enter Tryd.func23, Tryd.ntmps23
  go_wp2_with (first
    | (go_at_call 45; refine H1.out.mono ?_; rintro e w1 ⟨B, d, rfl, hd, hC, hb1⟩; have HC := Aside0.mk hC; clear hC)
    | (go_at_call 38; refine (H2.out _ hb1).mono ?_; rintro e w2 ⟨r, rfl, hr, hm, hb2⟩; have HM := Aside0.mk hm; have HC2 := Aside0.mk (Kd.C_below HC.out hb2); have hb12 := below_step hb1 hb2; clear hm)
    | (go_at_call 47; refine (H3.out B d r _ HC2.out hd hb12 HM.out).mono ?_; rintro e w3 ⟨rfl, hb3⟩))
  go_ret
  exact ⟨rfl, below_step hb12 hb3⟩
theorem implText (A : Option Addr) (c : Nat) (l : List (List ByteArray)) (w : World) (hr : Kd.C (Kd.slice 9 Kd.string) w A l.length l) (hc : l.length ≤ c) (hs : small 2000 2147483647 l) :
    Calls Tryd.prog 25 #[.slice A l.length c] w fun e w' => e = .returned (.string (conText l)) ∧ Below w.heap.size w w' := by
  have H1 := Lib.hid (copied A c l w hr hc hs)
  have H2 := Lib.hid (fun (B : Option Addr) (d : Nat) (W : World) (hC : Kd.C (Kd.slice 44 Kd.string) W B l.length l) (hd : l.length ≤ d) => conGo B d l W hC hd hs)
  clear hr hs
  go_enter Tryd.func25, Tryd.ntmps25
  go_wp2_with (first
    | (go_at_call 45; refine H1.out.mono ?_; rintro e w1 ⟨B, d, rfl, hd, hC, hb1⟩; have HC := Aside0.mk hC; clear hC)
    | (go_at_call 49; refine (H2.out B d _ HC.out hd).mono ?_; rintro e w2 ⟨rfl, hb2⟩))
  go_ret
  exact ⟨rfl, below_step hb1 hb2⟩

theorem one_list {W : World} {g : Nat} {A : Option Addr} {c : Nat} {l : List (List ByteArray)} {e : TypeId} {fr : Nat × Nat} (hg : W.heap[g]? = some (Obj.cells #[.slice A l.length c] e fr)) (hC : Kd.C (Kd.slice 9 Kd.string) W A l.length l) (hc : l.length ≤ c) :
    Kd.C (Kd.slice 22 (Kd.slice 9 Kd.string)) W (some ⟨g, 0, none⟩) 1 [l] := by
  refine ⟨by simp, by simp, fun _ => ⟨_, rfl, fun j p hj => ?_⟩⟩
  have hj0 : j = 0 := by
    have := (List.getElem?_eq_some_iff.1 hj).1
    simpa using this
  subst hj0
  have hp : p = l := by simpa using hj.symm
  subst hp
  refine ⟨[.slice A p.length c], rfl, ⟨A, c, rfl, hc, hC⟩, fun i u hu => ?_⟩
  have hi : i = 0 := by
    have := (List.getElem?_eq_some_iff.1 hu).1
    simpa using this
  subst hi
  have hu : u = .slice A p.length c := by simpa using hu.symm
  subst hu
  exact (by simp [World.cell?, hg, Addr.add])

end Go.Proofs.YtknldfighehplaaDoor.HFnTextBackEvals
