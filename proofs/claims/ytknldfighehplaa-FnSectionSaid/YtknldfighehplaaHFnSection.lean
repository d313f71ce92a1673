/- The walk of FnSection: it returns true for every list of steps; conditions: the slice's cells as they were read, constants' bits in range. -/
import Derived.Test.YtknldfighehplaaHSpec2
import Derived.StillTailTactics
namespace Go.Proofs.Ytknldfighehplaa.HFnSection
set_option linter.unusedSimpArgs false
set_option linter.unusedVariables false
open Go.RowKit Go.Proofs.Ytknldfighehplaa.HConst Go.Proofs.Ytknldfighehplaa.HInt Go.Proofs.Ytknldfighehplaa.HSec Go.Proofs.Ytknldfighehplaa.HSecPlain Go.Proofs.Ytknldfighehplaa.HSpec Go.Proofs.Ytknldfighehplaa.PFnSection Go.Proofs.YtknldfighehplaaW.PrintWords Go.Proofs.YtknldfighehplaaW.PrintLast Go.Proofs.YtknldfighehplaaW.PrintMore

theorem unfit (K : Nat) (A : Option Addr) (c : Nat) (l : List S51) (w : World) (hr : Kd.C k51 w A l.length l) (hc : l.length ≤ c) (h : laws_zzFits15.f K l = some false) :
    Calls Try.prog 9 #[.slice A l.length c] w fun e w' => e = .returned (.bool true) ∧ Below w.heap.size w w' := by
  have H1 := Lib.hid (laws_zzFits15.calls K A c l false w hr hc h)
  clear hr h
  go_enter Try.func9, Try.ntmps9
  go_wp2_with (go_at_call 31; refine H1.out.mono ?_; rintro e w1 ⟨rfl, hb1⟩)
  go_ret
  exact ⟨rfl, hb1⟩
theorem many (K : Nat) (A : Option Addr) (c : Nat) (l : List S51) (w : World) (hr : Kd.C k51 w A l.length l) (hc : l.length ≤ c) (h : laws_zzFits15.f K l = some true) (hl : 2000 < l.length) :
    Calls Try.prog 9 #[.slice A l.length c] w fun e w' => e = .returned (.bool true) ∧ Below w.heap.size w w' := by
  have H1 := Lib.hid (laws_zzFits15.calls K A c l true w hr hc h)
  clear hr h
  go_enter Try.func9, Try.ntmps9
  go_wp2_with (go_at_call 31; refine H1.out.mono ?_; rintro e w1 ⟨rfl, hb1⟩)
  go_ret
  exact ⟨rfl, hb1⟩
theorem strange (K J : Nat) (A : Option Addr) (c : Nat) (l : List S51) (w : World) (hr : Kd.C k51 w A l.length l) (hc : l.length ≤ c) (h : laws_zzFits15.f K l = some true) (hl : l.length ≤ 2000) (hd : spec_DataKnown.f J l = some false) :
    Calls Try.prog 9 #[.slice A l.length c] w fun e w' => e = .returned (.bool true) ∧ Below w.heap.size w w' := by
  have H1 := Lib.hid (laws_zzFits15.calls K A c l true w hr hc h)
  have H2 := Lib.hid (fun (w1 : World) (hb : Below w.heap.size w w1) => spec_DataKnown.calls J A c l false w1 (Kd.C_below hr hb) hc hd)
  clear hr h hd
  go_enter Try.func9, Try.ntmps9
  go_wp2_with (first
    | (go_at_call 31; refine H1.out.mono ?_; rintro e w1 ⟨rfl, hb1⟩)
    | (go_at_call 32; refine (H2.out _ hb1).mono ?_; rintro e w2 ⟨rfl, hb2⟩))
  go_ret
  exact ⟨rfl, below_step hb1 hb2⟩

theorem backB_range {k b : Int} (h0 : 0 ≤ b) (h1 : b < 18446744073709551616) : 0 ≤ backB k b ∧ backB k b < 18446744073709551616 := by
  unfold backB
  repeat' split
  all_goals omega
theorem same_self (o : S40) (hk : cok o.f1.f0 = true) (h0 : 0 ≤ o.f1.f1) (h1 : o.f1.f1 < 18446744073709551616) (W : World) :
    Calls Try.prog 27 #[.agg #[.int .i64 o.f1.f0, .int .u64 o.f1.f1, .string o.f1.f2], .agg #[.int .i64 o.f1.f0, .int .u64 o.f1.f1, .string o.f1.f2]] W fun e w' => e = .returned (.bool true) ∧ Below W.heap.size W w' := by
  refine spec_SameConst.calls 9 _ _ _ _ _ _ true W ?_
  unfold spec_SameConst.f
  rw [if_pos rfl]
  split
  · simp
  · rw [opBits_is _ _ _ h0 h1]; simp
theorem norm_ok (l : List S51) (hg : ∀ x ∈ l, goodS x) : ∀ o ∈ (runM l).data.map norm, cok o.f1.f0 = true ∧ 0 ≤ o.f1.f1 ∧ o.f1.f1 < 18446744073709551616 := by
  intro o ho
  obtain ⟨d, hd, rfl⟩ := List.mem_map.1 ho
  have h := (runM_good l hg l.length (Nat.le_refl _)).1
  rw [List.take_length] at h
  obtain ⟨h1, h2⟩ := h d hd
  exact ⟨h1.1, (backB_range h2.1 h2.2).1, (backB_range h2.1 h2.2).2⟩

set_option maxRecDepth 100000 in
set_option maxHeartbeats 8000000 in
theorem main (K J : Nat) (A : Option Addr) (c : Nat) (l : List S51) (w : World) (hr : Kd.C k51 w A l.length l) (hc : l.length ≤ c) (h : laws_zzFits15.f K l = some true) (hl : l.length ≤ 2000) (hd : spec_DataKnown.f J l = some true) (hg : ∀ x ∈ l, goodS x) :
    Calls Try.prog 9 #[.slice A l.length c] w fun e w' => e = .returned (.bool true) ∧ Below w.heap.size w w' := by
  have HR := Aside0.mk hr
  have HN := Lib.hid (norm_ok l hg)
  have HG := Lib.hid hg
  have H1 := Lib.hid (laws_zzFits15.calls K A c l true w hr hc h)
  have H2 := Lib.hid (fun (w1 : World) (hb : Below w.heap.size w w1) => spec_DataKnown.calls J A c l true w1 (Kd.C_below hr hb) hc hd)
  have H3 := Lib.hid (fun (w1 : World) (hb : Below w.heap.size w w1) => implSection A c l w1 (Kd.C_below hr hb) hc hl hg)
  have H4 := Lib.hid (fun (w1 : World) (hb : Below w.heap.size w w1) => specSection A c l w1 (Kd.C_below hr hb) hc hl hg)
  have HT := Lib.hid (show (runM l).told.length ≤ 2000 ∧ ((runM l).data.map norm).length ≤ 2000 from by
    have h := (runM_good l hg l.length (Nat.le_refl _)).2
    rw [List.take_length] at h
    rw [List.length_map]
    omega)
  unfold SecRet at H3 H4
  generalize (runM l).told = ts at *
  generalize (runM l).data.map norm = ds at *
  generalize (runM l).size = z at *
  clear hr h hd hg
  go_enter Try.func9, Try.ntmps9
  go_wp2_with (first
    | (go_at_call 31; refine H1.out.mono ?_; rintro e w1 ⟨rfl, hb1⟩)
    | (go_at_call 32; refine (H2.out _ hb1).mono ?_; rintro e w2 ⟨rfl, hb2⟩; have HB2 := Aside0.mk (below_step hb1 hb2)))
  clear H1 H2
  go_loopw [26] (fun i wr => ∃ k : Nat, k ≤ l.length ∧ i = .int .i64 k ∧ Aside0 (Below w.heap.size w wr)) (fun i _ => l.length - (intOf i).toNat)
  case atStart => exact ⟨0, Nat.zero_le _, rfl, HB2⟩
  case round =>
    clear HB2
    obtain ⟨k, hk, rfl, HB⟩ := hrel
    by_cases hlt : k < l.length
    · obtain ⟨ad, e0, hx0, hx1, hx2, hx3, hx4, hx5⟩ := at_T51 HR.out (k : Int) (by omega) (by omega)
      subst e0
      have y0 := (HB.out.cell (World.block_lt_of_cell? w _ hx0)).trans hx0
      have y1 := (HB.out.cell (World.block_lt_of_cell? w _ hx1)).trans hx1
      have y2 := (HB.out.cell (World.block_lt_of_cell? w _ hx2)).trans hx2
      have y3 := (HB.out.cell (World.block_lt_of_cell? w _ hx3)).trans hx3
      have y4 := (HB.out.cell (World.block_lt_of_cell? w _ hx4)).trans hx4
      have y5 := (HB.out.cell (World.block_lt_of_cell? w _ hx5)).trans hx5
      clear hx0 hx1 hx2 hx3 hx4 hx5
      simp only [Int.toNat_natCast] at y0 y1 y2 y3 y4 y5
      have hgd := (HG.out (rd_T51 l k) (by simp [rd_T51, List.getD, hlt])).1
      generalize rd_T51 l ↑k = x at *
      rcases hgd with h0 | h0 | h0
      all_goals
        rw [h0] at y0
        go_wp2
        exact ⟨⟨k + 1, by omega, by go_num, ⟨below_alloc HB.out _⟩⟩, by simp [intOf]; omega⟩
    · have hkl : k = l.length := by omega
      subst hkl
      go_wp2_with (first
        | (go_at_call 33; refine (H3.out _ HB.out).mono ?_; rintro e w3 ⟨v1, v2, rfl, hR1, hR2, hb3⟩; have HR1 := Aside0.mk hR1; have HR2 := Aside0.mk hR2; replace hb3 := Aside0.mk hb3; clear hR1 hR2)
        | (go_at_call 34; refine (H4.out _ (below_step HB.out hb3.out)).mono ?_; rintro e w4 ⟨v3, v4, rfl, hR3, hR4, hb4⟩; have HR3 := Aside0.mk hR3; have HR4 := Aside0.mk hR4; have hb4 := Aside0.mk hb4; clear hR3 hR4; have HS1 := Aside0.mk (Kd.R_below HR1.out hb4.out); have HS2 := Aside0.mk (Kd.R_below HR2.out hb4.out); have HB4 := Aside0.mk (below_step (below_step HB.out hb3.out) hb4.out); obtain ⟨A1, c1, rfl⟩ := Kd.R_slice HS1.out; obtain ⟨A2, c2, rfl⟩ := Kd.R_slice HS2.out; obtain ⟨A3, c3, rfl⟩ := Kd.R_slice HR3.out; obtain ⟨A4, c4, rfl⟩ := Kd.R_slice HR4.out))
      clear HR1 HR2 H3 H4 HB HR HG
      have HL := HT.out
      clear HT
      go_loopw [70] (fun i w5 => ∃ k : Nat, k ≤ ts.length ∧ i = .int .i64 k ∧ Aside0 (Below w4.heap.size w4 w5)) (fun i _ => ts.length - (intOf i).toNat)
      case atStart => exact ⟨0, Nat.zero_le _, rfl, ⟨Below.refl _ _⟩⟩
      case round =>
        obtain ⟨j, hj, rfl, HB⟩ := hrel
        by_cases hlt : j < ts.length
        · obtain ⟨ad1, e1, a1⟩ := Kd.at_bool (Kd.R_reads' (Kd.R_below HS1.out HB.out)).2.2 (j : Int) (by omega) (by omega)
          obtain ⟨ad3, e3, a3⟩ := Kd.at_bool (Kd.R_reads' (Kd.R_below HR3.out HB.out)).2.2 (j : Int) (by omega) (by omega)
          subst e1
          subst e3
          simp only [Int.toNat_natCast] at a1 a3
          generalize rdOf false ts ↑j = b at *
          go_wp2
          go_quiet (fail)
          go_wp2
          exact ⟨⟨j + 1, by omega, by go_num, ⟨pw_below_drewN HB.out _⟩⟩, by simp [intOf]; omega⟩
        · have hje : j = ts.length := by omega
          subst hje
          go_wp2
          go_loopw [85] (fun i w5 => ∃ k : Nat, k ≤ ds.length ∧ i = .int .i64 k ∧ Aside0 (Below w4.heap.size w4 w5)) (fun i _ => ds.length - (intOf i).toNat)
          case atStart => exact ⟨0, Nat.zero_le _, rfl, HB⟩
          case round =>
            clear HB
            obtain ⟨j, hj, rfl, HB⟩ := hrel
            by_cases hlt : j < ds.length
            · obtain ⟨ad2, e2, p0, p1, p2, p3⟩ := at_T40 (Kd.R_reads' (Kd.R_below HS2.out HB.out)).2.2 (j : Int) (by omega) (by omega)
              obtain ⟨ad4, e4, q0, q1, q2, q3⟩ := at_T40 (Kd.R_reads' (Kd.R_below HR4.out HB.out)).2.2 (j : Int) (by omega) (by omega)
              subst e2
              subst e4
              simp only [Int.toNat_natCast] at p0 p1 p2 p3 q0 q1 q2 q3
              obtain ⟨n1, n2, n3⟩ := HN.out (rd_T40 ds j) (by simp [rd_T40, List.getD, hlt])
              have HM := Lib.hid (fun (W : World) => same_self (rd_T40 ds j) n1 n2 n3 W)
              clear n1 n2 n3
              generalize rd_T40 ds ↑j = o at *
              go_wp2
              go_still_tail 22, (by kernel_rfl)
              have HBd := Aside0.mk (below_drew1 HB.out)
              go_wp2_with (go_at_call 27; refine (HM.out _).mono ?_; rintro e w6 ⟨rfl, hb6⟩; replace hb6 := Aside0.mk hb6)
              exact ⟨⟨j + 1, by omega, by go_num, ⟨below_step HBd.out hb6.out⟩⟩, by simp [intOf]; omega⟩
            · go_wp2
              go_ret
              exact ⟨rfl, below_step HB4.out HB.out⟩
end Go.Proofs.Ytknldfighehplaa.HFnSection
