/- Contracts of the cut at commas, of Option.Validate and of ParseOption, the package's and the thin one's; conditions: the first cells of the table of properties, bytes below 128, lengths in bounds. -/
import Derived.Test.YtknldfighehplaaDoorHFnMeaningCut
import Derived.Test.YtknldfighehplaaDoorHFnMeaningValid
import Derived.Test.YtknldfighehplaaDoorHRegion
namespace Go.Proofs.YtknldfighehplaaDoor.HFnMeaningWalk
set_option linter.unusedSimpArgs false
set_option linter.unusedVariables false
open Go.RowKit Go.Proofs.YtknldfighehplaaDoor.HTabP Go.Proofs.YtknldfighehplaaDoor.HRegion Go.Proofs.YtknldfighehplaaDoor.HSplit Go.Proofs.YtknldfighehplaaDoor.HFnMeaningPlain Go.Proofs.YtknldfighehplaaDoor.HFnMeaningValid Go.Proofs.YtknldfighehplaaDoor.HFnMeaningCut Go.Proofs.YtknldfighehplaaDoor.PFnMeaning Go.Proofs.YtknldfighehplaaDoorW.PrintWords Go.Proofs.YtknldfighehplaaDoorW.PrintLast Go.Proofs.YtknldfighehplaaDoorW.PrintMore

theorem inf9 : (Tryd.prog.info? 9).map (fun i => (i.zero, i.size, i.bytes)) = some (some (.string ⟨#[]⟩), 1, 16) := by kernel_rfl
theorem inf44 : (Tryd.prog.info? 44).map (fun i => (i.zero, i.size, i.bytes)) = some (some (.string ⟨#[]⟩), 1, 16) := by kernel_rfl
theorem string_M (w : World) (base : Nat) (ok : Nat → Prop) (x : ByteArray) : Kd.string.M w base ok x [.string x] := rfl

set_option maxHeartbeats 1600000 in
theorem zzSplit (s : ByteArray) (w : World) (hs : s.size ≤ 1000000) :
    Calls Tryd.prog 62 #[.string s, .string ⟨#[44]⟩] w fun e w' => ∃ v, e = .returned v ∧ Kd.string.R 9 w' w.heap.size (fun _ => True) v (pieces s) ∧ Below w.heap.size w w' := by
  have HS := Lib.hid hs
  have HPL := Lib.hid (pieces_length s)
  clear hs
  go_enter Tryd.func62, Tryd.ntmps62
  go_wp2
  go_loopg [0, 5] (s.size + 1) (fun g u0 u5 wr => ∃ t ys, g = t.size + 1 ∧ u0 = .string t ∧ Aside0 (t.size ≤ s.size) ∧ Aside0 (Kd.string.R 9 wr w.heap.size (fun _ => True) u5 ys) ∧ Aside0 (ys ++ pieces t = pieces s) ∧ Aside0 (Below w.heap.size w wr))
  case atStart => exact ⟨s, [], rfl, rfl, ⟨Nat.le_refl _⟩, ⟨Kd.R_nil _ _ _ _ _⟩, ⟨rfl⟩, ⟨Below.refl _ _⟩⟩
  case round =>
    obtain ⟨t, ys, hg, rfl, HT, HR, HP, HB⟩ := hrel
    obtain ⟨A0, c0, rfl⟩ := Kd.R_slice HR.out
    have hts : t.size ≤ 1000000 := Nat.le_trans HT.out HS.out
    have hz := zzIndex_is t (by omega)
    have hyl : ys.length + 1 ≤ 1000002 := by
      have h1 := congrArg List.length HP.out
      have h2 := HPL.out
      have h3 := HS.out
      have h4 : 1 ≤ (pieces t).length := by
        unfold pieces
        rw [List.length_map]
        exact List.length_pos_iff.2 (splitL_ne _ _)
      simp only [List.length_append] at h1
      omega
    have HYL := Lib.hid hyl
    have hfl := firstAt_le isComma (bs t)
    rw [bs_length] at hfl
    by_cases hi : firstAt isComma (bs t) < t.size
    · rw [if_pos hi] at hz
      have hp := pieces_yes t _ rfl hi
      generalize firstAt isComma (bs t) = i at *
      have HZ := Lib.hid (fun (W : World) => buildtags_zzIndex.calls (t.size + 1) t ⟨#[44]⟩ i W hz)
      have hp2 : (ys ++ [t.extract 0 i]) ++ pieces (t.extract (i + 1) t.size) = pieces s := by
        rw [← HP.out, hp]; simp
      have HP2 := Aside0.mk hp2
      have hsz : (t.extract (i + 1) t.size).size = t.size - (i + 1) := by rw [ByteArray.size_extract]; omega
      have HSZ := Lib.hid hsz
      clear hp hp2 hz hsz hyl hfl
      go_wp2_with (first
        | (go_at_call 71; refine (HZ.out _).mono ?_; rintro e w1 ⟨rfl, hd1⟩)
        | (at_builtin; refine Kd.R_append Kd.string (w0 := w) w.heap.size ?_ (.tmp 46) (.tmp 50) 22 9 (.string ⟨#[]⟩) 16 ?_ ?_ ?_ ?_ ?_ ?_ (Value.slice A0 ys.length c0) ys (t.extract 0 i) [.string (t.extract 0 i)] (fun _ => True) (fun _ => False) ?_ ?_ ?_ (fun _ hk => hk.elim) (fun _ _ => trivial) ?_ ?_ ?_ ?_ ?_; (exact rfl); (exact rfl); (exact Tryd.underlying22); (exact inf9); (exact rfl); (exact Nat.succ_pos 0); (exact Nat.succ_pos 15); (exact rfl); (exact rfl); (exact string_M _ _ _ _); (exact Kd.R_below HR.out hd1.below); (exact below_step HB.out hd1.below); (have := HB.out.size; have := hd1.below.size; omega); (have := HYL.out; omega); intro v4 w4 hr4 hb4 hg4 hat4; have HR4 := Aside0.mk hr4; have HB4 := Aside0.mk hb4; clear hr4 hb4 hg4 hat4))
      go_roundg (t.size - (i + 1) + 1)
      case measure => omega
      case rel => exact ⟨_, _, by rw [HSZ.out], rfl, ⟨by rw [HSZ.out]; have := HT.out; omega⟩, HR4, HP2, HB4⟩
    · rw [if_neg hi] at hz
      have hp := pieces_no t (by omega)
      have HZ := Lib.hid (fun (W : World) => buildtags_zzIndex.calls (t.size + 1) t ⟨#[44]⟩ (-1) W hz)
      have hp2 : ys ++ [t] = pieces s := by rw [← HP.out, hp]
      have HP2 := Aside0.mk hp2
      clear hp hp2 hz hyl hfl hi
      go_wp2_with (first
        | (go_at_call 71; refine (HZ.out _).mono ?_; rintro e w1 ⟨rfl, hd1⟩)
        | (at_builtin; refine Kd.R_append Kd.string (w0 := w) w.heap.size ?_ (.tmp 42) (.tmp 44) 22 9 (.string ⟨#[]⟩) 16 ?_ ?_ ?_ ?_ ?_ ?_ (Value.slice A0 ys.length c0) ys t [.string t] (fun _ => True) (fun _ => False) ?_ ?_ ?_ (fun _ hk => hk.elim) (fun _ _ => trivial) ?_ ?_ ?_ ?_ ?_; (exact rfl); (exact rfl); (exact Tryd.underlying22); (exact inf9); (exact rfl); (exact Nat.succ_pos 0); (exact Nat.succ_pos 15); (exact rfl); (exact rfl); (exact string_M _ _ _ _); (exact Kd.R_below HR.out hd1.below); (exact below_step HB.out hd1.below); (have := HB.out.size; have := hd1.below.size; omega); (have := HYL.out; omega); intro v4 w4 hr4 hb4 hg4 hat4; have HR4 := Aside0.mk hr4; have HB4 := Aside0.mk hb4; clear hr4 hb4 hg4 hat4))
      go_ret
      exact ⟨_, rfl, by rw [← HP2.out]; exact HR4.out, HB4.out⟩

set_option maxHeartbeats 800000 in
/-- An option is valid just where all its terms are. -/
theorem optValidate (A : Option Addr) (c : Nat) (l : List ByteArray) (w : World) (hr : Kd.C Kd.string w A l.length l) (hc : l.length ≤ c) (hl : l.length ≤ 2147483647) (ha : ∀ x ∈ l, ascii x = true) (hs : ∀ x ∈ l, x.size ≤ 2147483647) (hT : TabP w) :
    Calls Tryd.prog 63 #[.slice A l.length c] w fun e w' => ErrIs (l.all valid) e ∧ Below w.heap.size w w' := by
  have HR := Aside0.mk hr
  have HV := Lib.hid (fun (k : Nat) (hk : k < l.length) (W : World) (hb : Below w.heap.size w W) => validate (rdOf ByteArray.empty l k) W (ha _ (rdOf_mem hk)) (hs _ (rdOf_mem hk)) (hT.below hb))
  clear hr ha hs hT
  go_enter Tryd.func63, Tryd.ntmps63
  go_wp2
  go_loopw [8] (fun i wr => ∃ k : Nat, k ≤ l.length ∧ i = .int .i64 k ∧ Aside0 (l.all valid = (l.drop k).all valid) ∧ Aside0 (Below w.heap.size w wr)) (fun i _ => l.length - (intOf i).toNat)
  case atStart => exact ⟨0, Nat.zero_le _, rfl, ⟨rfl⟩, ⟨Below.refl _ _⟩⟩
  case round =>
    obtain ⟨k, hk, rfl, HA, HB⟩ := hrel
    by_cases hlt : k < l.length
    · obtain ⟨ad, e0, hx0⟩ := Kd.at_string HR.out (k : Int) (by omega) (by omega)
      subst e0
      have y0 := (HB.out.cell (World.block_lt_of_cell? w _ hx0)).trans hx0
      simp only [Int.toNat_natCast] at y0
      have hv := HV.out k hlt wr HB.out
      have hd := drop_rdOf hlt
      have hall : l.all valid = (valid (rdOf ByteArray.empty l k) && (l.drop (k + 1)).all valid) := by rw [HA.out, hd, List.all_cons]
      generalize rdOf ByteArray.empty l (k : Int) = x at *
      cases hvx : valid x with
      | true =>
        rw [hvx] at hv hall
        simp only [ErrIs, Bool.true_and] at hv hall
        have HVV := Lib.hid hv
        have HAL := Lib.hid hall
        clear hv hall hd hvx hx0
        go_wp2_with (go_at_call 36; refine HVV.out.mono ?_; rintro e w1 ⟨rfl, hb1⟩)
        exact ⟨⟨k + 1, by omega, by go_num, ⟨HAL.out⟩, ⟨below_step HB.out hb1⟩⟩, by simp [intOf]; omega⟩
      | false =>
        rw [hvx] at hv hall
        simp only [ErrIs, Bool.false_and] at hv hall
        have HVV := Lib.hid hv
        have HAL := Lib.hid hall
        clear hv hall hd hvx hx0
        go_wp2_with (first
          | (go_at_call 36; refine HVV.out.mono ?_; rintro e w1 ⟨⟨T, v, rfl⟩, hb1⟩)
          | (go_at_call 59; refine (errNew _ _).mono ?_; rintro e w3 ⟨⟨T1, v1, rfl⟩, hb3⟩))
        go_ret
        rw [HAL.out]
        exact ⟨⟨T1, v1, rfl⟩, below_step (below_step HB.out hb1) hb3⟩
    · have hkl : k = l.length := by omega
      have hall : l.all valid = true := by rw [HA.out, hkl, List.drop_length]; rfl
      have HAL := Lib.hid hall
      clear hall hkl
      go_wp2
      go_ret
      rw [HAL.out]
      exact ⟨rfl, HB.out⟩
end Go.Proofs.YtknldfighehplaaDoor.HFnMeaningWalk
