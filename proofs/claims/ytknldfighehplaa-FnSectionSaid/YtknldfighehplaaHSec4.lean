/- The walk of impl.Section; conditions: steps of the three kinds, constants in range, at most 2000 steps. -/
import Derived.Test.YtknldfighehplaaHSec3
namespace Go.Proofs.Ytknldfighehplaa.HSec
set_option linter.unusedSimpArgs false
set_option linter.unusedVariables false
open Go.RowKit Go.Proofs.Ytknldfighehplaa.HConst Go.Proofs.Ytknldfighehplaa.HInt Go.Proofs.Ytknldfighehplaa.PFnSection Go.Proofs.YtknldfighehplaaW.PrintWords Go.Proofs.YtknldfighehplaaW.PrintLast Go.Proofs.YtknldfighehplaaW.PrintMore

def norm (d : S40) : S40 := ⟨d.f0, ⟨d.f1.f0, backB d.f1.f0 d.f1.f1, backT d.f1.f0 d.f1.f2⟩⟩
def SecRet (w : World) (l : List S51) (e : Ending) (w' : World) : Prop :=
  ∃ v1 v2, e = .returned (.tuple #[v1, .int .i64 (runM l).size, v2]) ∧ Kd.bool.R 4 w' w.heap.size (fun _ => True) v1 (runM l).told ∧ k40.R 40 w' w.heap.size (fun _ => True) v2 ((runM l).data.map norm) ∧ Below w.heap.size w w'

theorem addErr (B g : Nat) (vd : Value) (sz : Int) (ds : List S40) (d : S40) (w : World) (h : Sec B w g vd sz ds) (hB : B ≤ w.heap.size) (hd : good d) (hds : ∀ o ∈ ds, good o) (hl : ds.length ≤ 1000000) (ha : (ds.any fun o => ovl o d) = true) :
    Calls Try.prog 58 #[.pointer (some ⟨g, 0, none⟩), dval d] w fun e w' => (∃ T v, e = .returned (.iface T v)) ∧ Sec B w' g vd sz ds ∧ KT B w w' :=
  (addDatum B g vd sz ds d w h hB hd hds hl).mono fun e w' ⟨hor, hk⟩ => by
    rcases hor with ⟨_, h1, h2⟩ | ⟨h1, _⟩
    · exact ⟨h1, h2, hk⟩
    · rw [ha] at h1; cases h1
theorem addOk (B g : Nat) (vd : Value) (sz : Int) (ds : List S40) (d : S40) (w : World) (h : Sec B w g vd sz ds) (hB : B ≤ w.heap.size) (hd : good d) (hds : ∀ o ∈ ds, good o) (hl : ds.length ≤ 1000000) (ha : (ds.any fun o => ovl o d) = false) :
    Calls Try.prog 58 #[.pointer (some ⟨g, 0, none⟩), dval d] w fun e w' => e = .returned .nilIface ∧ (∃ vd', Sec B w' g vd' (max sz (ende d)) (ds ++ [d])) ∧ KT B w w' :=
  (addDatum B g vd sz ds d w h hB hd hds hl).mono fun e w' ⟨hor, hk⟩ => by
    rcases hor with ⟨h1, _⟩ | ⟨_, h1, h2⟩
    · rw [ha] at h1; cases h1
    · exact ⟨h1, h2, hk⟩

theorem info40 : (Try.prog.info? 40).map (fun i => (i.zero, i.size, i.bytes)) = some (some (.agg #[.int .i64 0, .int .i64 0, .int .u64 0, .string ⟨#[]⟩]), 4, 40) := by kernel_rfl

set_option maxRecDepth 20000 in
set_option maxHeartbeats 4000000 in
theorem implSection (A : Option Addr) (c : Nat) (l : List S51) (w : World) (hr : Kd.C k51 w A l.length l) (hc : l.length ≤ c) (hl : l.length ≤ 2000) (hg : ∀ x ∈ l, goodS x) :
    Calls Try.prog 33 #[.slice A l.length c] w (SecRet w l) := by
  have HR := Aside0.mk hr
  have HG := Lib.hid hg
  have HL := Aside0.mk hl
  clear hr hg hl
  go_enter Try.func33, Try.ntmps33
  go_wp2_with (go_at_call 57; refine (newStatic _).mono ?_; rintro e w1 ⟨g, rfl, hg1, hs1, hb1⟩)
  have HI0 := Aside0.mk (show Inv w g (.slice none 0 0) (runM (l.take 0)) w1 from ⟨⟨_, Sec.start w w1 g hg1 hs1⟩, Kd.R_nil _ _ _ _ _, hb1⟩)
  clear hg1 hs1 hb1
  go_loopw [2, 16] (fun vt i wr => ∃ k : Nat, k ≤ l.length ∧ i = .int .i64 k ∧ Aside0 (Inv w g vt (runM (l.take k)) wr)) (fun _ i _ => l.length - (intOf i).toNat)
  case atStart => exact ⟨0, Nat.zero_le _, rfl, HI0⟩
  case round =>
    clear HI0
    obtain ⟨k, hk, rfl, HI⟩ := hrel
    have hL := HL.out
    by_cases hlt : k < l.length
    · obtain ⟨ad, e0, hx0, hx1, hx2, hx3, hx4, hx5⟩ := at_T51 HR.out (k : Int) (by omega) (by omega)
      subst e0
      have y0 := (HI.out.bel.cell (World.block_lt_of_cell? w _ hx0)).trans hx0
      have y1 := (HI.out.bel.cell (World.block_lt_of_cell? w _ hx1)).trans hx1
      have y2 := (HI.out.bel.cell (World.block_lt_of_cell? w _ hx2)).trans hx2
      have y3 := (HI.out.bel.cell (World.block_lt_of_cell? w _ hx3)).trans hx3
      have y4 := (HI.out.bel.cell (World.block_lt_of_cell? w _ hx4)).trans hx4
      have y5 := (HI.out.bel.cell (World.block_lt_of_cell? w _ hx5)).trans hx5
      clear hx0 hx1 hx2 hx3 hx4 hx5
      simp only [Int.toNat_natCast] at y0 y1 y2 y3 y4 y5
      have hs := runM_snoc l k hlt
      have hgd := HG.out (rd_T51 l k) (by simp [rd_T51, List.getD, hlt])
      obtain ⟨hdata, htl, hdl⟩ := runM_good l HG.out k hk
      generalize rd_T51 l ↑k = x at *
      generalize runM (l.take k) = s at *
      obtain ⟨sv, hS⟩ := HI.out.sec
      have hC := Lib.hid (fun (W : World) => constU x.f1.f1.f0 x.f1.f1.f1 x.f1.f1.f2 W hgd.2.1.1 hgd.2.1.2)
      have hN := Lib.hid (fun (W : World) => newDatumU x.f1.f0 x.f1.f1.f0 x.f1.f1.f1 x.f1.f1.f2 W)
      have hB0 : w.heap.size ≤ wr.heap.size := HI.out.bel.size
      by_cases h2 : x.f0 = 2
      · have hst : runM (l.take (k + 1)) = ⟨s.told ++ [true], max s.size x.f2, s.data⟩ := by rw [hs]; unfold stepM; rw [if_pos h2]
        have HST := Lib.hid hst
        have HRW := Lib.hid (fun (W : World) (hS : Sec w.heap.size W g sv s.size s.data) => grow w.heap.size g sv s.size x.f2 s.data W hS)
        have HSS := Lib.hid hS
        rw [h2] at y0
        clear hs hst hgd h2 hS hdata
        go_wp2_with (first
          | (go_at_call 49; refine (hC.out _).mono ?_; rintro e w2 ⟨rfl, hb2⟩; have hk2 := blk_below (blk_new wr _) hb2; have z0 : w2.cell? ⟨wr.heap.size, 0, none⟩ = some (Value.int .i64 2) := (blk_cell hk2 0).trans rfl; have z5 : w2.cell? ⟨wr.heap.size, 5, none⟩ = some (Value.int .i64 x.f2) := (blk_cell hk2 5).trans rfl; replace hb2 := Aside0.mk hb2; clear hk2)
          | (go_at_call 60; have hbb := below_step (below_alloc (Below.refl wr.heap.size wr) _) hb2.out; refine (HRW.out _ (HSS.out.below hbb)).mono ?_; rintro e w3 ⟨rfl, hs3, hk3, hkk⟩; have HI3 := Aside0.mk (show Inv w g u2 ⟨s.told, max s.size x.f2, s.data⟩ w3 from (HI.out.below hbb).moved hk3 ⟨_, hs3⟩ rfl); clear hkk hbb hs3 hk3)
          | (at_builtin; refine Kd.R_append Kd.bool (w0 := w) w.heap.size rfl (.tmp 60) (.tmp 62) 52 4 (.bool false) 1 rfl Try.underlying52 info4 rfl (Nat.succ_pos 0) (Nat.succ_pos 0) u2 s.told true [.bool true] (fun _ => True) (fun _ => False) rfl rfl ?_ (fun _ hk => hk.elim) (fun _ _ => trivial) ?_ ?_ ?_ ?_ ?_; (exact rfl); (exact HI3.out.row); (exact HI3.out.bel); (exact HI3.out.bel.size); omega; intro v4 w4 hr4 hb4 hg4 hat4; have HI4 := Aside0.mk (HI3.out.told (s' := ⟨s.told ++ [true], max s.size x.f2, s.data⟩) hr4 hb4 hg4 rfl rfl); clear hr4 hb4 hg4 hat4))
        exact ⟨⟨k + 1, by omega, by go_num, ⟨by rw [HST.out]; exact HI4.out⟩⟩, by simp [intOf]; omega⟩
      · cases hok : cok x.f1.f1.f0 with
        | false =>
          rw [hok] at hC
          rcases hgd.1 with h0 | h0 | h0
          · have hst : runM (l.take (k + 1)) = ⟨s.told ++ [false], s.size, s.data⟩ := by rw [hs]; unfold stepM; rw [if_neg h2, if_neg (by simp [fits, hok])]
            have HST := Lib.hid hst
            rw [h0] at y0
            clear hs hst hgd h2 h0 hdata hS hok
            go_wp2_with (first
              | (go_at_call 49; refine (hC.out _).mono ?_; rintro e w2 ⟨rfl, hb2⟩; have hk2 := blk_below (blk_new wr _) hb2; have z0 : w2.cell? ⟨wr.heap.size, 0, none⟩ = some (Value.int .i64 0) := (blk_cell hk2 0).trans rfl; have z1 : w2.cell? ⟨wr.heap.size, 1, none⟩ = some (Value.int .i64 x.f1.f0) := (blk_cell hk2 1).trans rfl; have HI2 := Aside0.mk (HI.out.below (below_step (below_alloc (Below.refl wr.heap.size wr) _) hb2)); replace hb2 := Aside0.mk hb2; clear hk2)
              | (at_builtin; refine Kd.R_append Kd.bool (w0 := w) w.heap.size rfl (.tmp 60) (.tmp 62) 52 4 (.bool false) 1 rfl Try.underlying52 info4 rfl (Nat.succ_pos 0) (Nat.succ_pos 0) u2 s.told false [.bool false] (fun _ => True) (fun _ => False) rfl rfl ?_ (fun _ hk => hk.elim) (fun _ _ => trivial) ?_ ?_ ?_ ?_ ?_; (exact rfl); (exact HI2.out.row); (exact HI2.out.bel); (exact HI2.out.bel.size); omega; intro v4 w4 hr4 hb4 hg4 hat4; have HI4 := Aside0.mk (HI2.out.told (s' := ⟨s.told ++ [false], s.size, s.data⟩) hr4 hb4 hg4 rfl rfl); clear hr4 hb4 hg4 hat4))
            exact ⟨⟨k + 1, by omega, by go_num, ⟨by rw [HST.out]; exact HI4.out⟩⟩, by simp [intOf]; omega⟩
          · have hst : runM (l.take (k + 1)) = ⟨s.told ++ [false], s.size, s.data⟩ := by rw [hs]; unfold stepM; rw [if_neg h2, if_neg (by simp [fits, hok])]
            have HST := Lib.hid hst
            rw [h0] at y0
            clear hs hst hgd h2 h0 hdata hS hok
            go_wp2_with (first
              | (go_at_call 49; refine (hC.out _).mono ?_; rintro e w2 ⟨rfl, hb2⟩; have hk2 := blk_below (blk_new wr _) hb2; have z0 : w2.cell? ⟨wr.heap.size, 0, none⟩ = some (Value.int .i64 1) := (blk_cell hk2 0).trans rfl; have z1 : w2.cell? ⟨wr.heap.size, 1, none⟩ = some (Value.int .i64 x.f1.f0) := (blk_cell hk2 1).trans rfl; have HI2 := Aside0.mk (HI.out.below (below_step (below_alloc (Below.refl wr.heap.size wr) _) hb2)); replace hb2 := Aside0.mk hb2; clear hk2)
              | (at_builtin; refine Kd.R_append Kd.bool (w0 := w) w.heap.size rfl (.tmp 60) (.tmp 62) 52 4 (.bool false) 1 rfl Try.underlying52 info4 rfl (Nat.succ_pos 0) (Nat.succ_pos 0) u2 s.told false [.bool false] (fun _ => True) (fun _ => False) rfl rfl ?_ (fun _ hk => hk.elim) (fun _ _ => trivial) ?_ ?_ ?_ ?_ ?_; (exact rfl); (exact HI2.out.row); (exact HI2.out.bel); (exact HI2.out.bel.size); omega; intro v4 w4 hr4 hb4 hg4 hat4; have HI4 := Aside0.mk (HI2.out.told (s' := ⟨s.told ++ [false], s.size, s.data⟩) hr4 hb4 hg4 rfl rfl); clear hr4 hb4 hg4 hat4))
            exact ⟨⟨k + 1, by omega, by go_num, ⟨by rw [HST.out]; exact HI4.out⟩⟩, by simp [intOf]; omega⟩
          · exact absurd h0 h2
        | true =>
          rw [hok] at hC
          rcases hgd.1 with h0 | h0 | h0
          · have hdat : datumOf s.size x = ⟨x.f1.f0, x.f1.f1⟩ := by unfold datumOf; rw [if_neg (by omega)]
            have hgo : good ⟨x.f1.f0, x.f1.f1⟩ := ⟨hok, hgd.2.2⟩
            have HSS := Lib.hid hS
            cases hany : (s.data.any fun o => ovl o ⟨x.f1.f0, x.f1.f1⟩) with
            | true =>
              have hst : runM (l.take (k + 1)) = ⟨s.told ++ [false], s.size, s.data⟩ := by rw [hs]; unfold stepM; rw [if_neg h2, if_neg (by simp only [fits, hdat, hany, h0, decide_true, Bool.and_true, Bool.true_and, Bool.not_true, Bool.and_false]; decide)]
              have HST := Lib.hid hst
              have HA := Lib.hid (fun (W : World) (hh : Sec w.heap.size W g sv s.size s.data) (hb : w.heap.size ≤ W.heap.size) => addErr w.heap.size g sv s.size s.data ⟨x.f1.f0, x.f1.f1⟩ W hh hb hgo (fun o ho => (hdata o ho).1) (by omega) hany)
              rw [h0] at y0
              clear hs hst hgd h2 h0 hdata hS hok hany hgo hdat
              go_wp2_with (first
                | (go_at_call 49; refine (hC.out _).mono ?_; rintro e w2 ⟨rfl, hb2⟩; have hk2 := blk_below (blk_new wr _) hb2; have z0 : w2.cell? ⟨wr.heap.size, 0, none⟩ = some (Value.int .i64 0) := (blk_cell hk2 0).trans rfl; have z1 : w2.cell? ⟨wr.heap.size, 1, none⟩ = some (Value.int .i64 x.f1.f0) := (blk_cell hk2 1).trans rfl; have HI2 := Aside0.mk (HI.out.below (below_step (below_alloc (Below.refl wr.heap.size wr) _) hb2)); replace hb2 := Aside0.mk hb2; clear hk2)
                | (go_at_call 50; refine (hN.out _).mono ?_; rintro e w3 ⟨rfl, hb3⟩; have HI3 := Aside0.mk (HI2.out.below hb3); replace hb3 := Aside0.mk hb3)
                | (go_at_call 58; refine (HA.out _ ((HSS.out.below (below_step (below_alloc (Below.refl wr.heap.size wr) _) hb2.out)).below hb3.out) HI3.out.bel.size).mono ?_; rintro e w5 ⟨⟨T5, v5, rfl⟩, hs5, hk5⟩; have HI5 := Aside0.mk (HI3.out.moved (s' := s) hk5 ⟨_, hs5⟩ rfl); clear hs5 hk5)
                | (at_builtin; refine Kd.R_append Kd.bool (w0 := w) w.heap.size rfl (.tmp 60) (.tmp 62) 52 4 (.bool false) 1 rfl Try.underlying52 info4 rfl (Nat.succ_pos 0) (Nat.succ_pos 0) u2 s.told false [.bool false] (fun _ => True) (fun _ => False) rfl rfl ?_ (fun _ hk => hk.elim) (fun _ _ => trivial) ?_ ?_ ?_ ?_ ?_; (exact rfl); (exact HI5.out.row); (exact HI5.out.bel); (exact HI5.out.bel.size); omega; intro v4 w4 hr4 hb4 hg4 hat4; have HI4 := Aside0.mk (HI5.out.told (s' := ⟨s.told ++ [false], s.size, s.data⟩) hr4 hb4 hg4 rfl rfl); clear hr4 hb4 hg4 hat4))
              exact ⟨⟨k + 1, by omega, by go_num, ⟨by rw [HST.out]; exact HI4.out⟩⟩, by simp [intOf]; omega⟩
            | false =>
              have hst : runM (l.take (k + 1)) = ⟨s.told ++ [true], max s.size (ende ⟨x.f1.f0, x.f1.f1⟩), s.data ++ [⟨x.f1.f0, x.f1.f1⟩]⟩ := by rw [hs]; unfold stepM; rw [if_neg h2, if_pos (by simp only [fits, hdat, hany, hok, Bool.and_false, Bool.not_false, Bool.and_true]), hdat]
              have HST := Lib.hid hst
              have HA := Lib.hid (fun (W : World) (hh : Sec w.heap.size W g sv s.size s.data) (hb : w.heap.size ≤ W.heap.size) => addOk w.heap.size g sv s.size s.data ⟨x.f1.f0, x.f1.f1⟩ W hh hb hgo (fun o ho => (hdata o ho).1) (by omega) hany)
              rw [h0] at y0
              clear hs hst hgd h2 h0 hdata hS hok hany hgo hdat
              go_wp2_with (first
                | (go_at_call 49; refine (hC.out _).mono ?_; rintro e w2 ⟨rfl, hb2⟩; have hk2 := blk_below (blk_new wr _) hb2; have z0 : w2.cell? ⟨wr.heap.size, 0, none⟩ = some (Value.int .i64 0) := (blk_cell hk2 0).trans rfl; have z1 : w2.cell? ⟨wr.heap.size, 1, none⟩ = some (Value.int .i64 x.f1.f0) := (blk_cell hk2 1).trans rfl; have HI2 := Aside0.mk (HI.out.below (below_step (below_alloc (Below.refl wr.heap.size wr) _) hb2)); replace hb2 := Aside0.mk hb2; clear hk2)
                | (go_at_call 50; refine (hN.out _).mono ?_; rintro e w3 ⟨rfl, hb3⟩; have HI3 := Aside0.mk (HI2.out.below hb3); replace hb3 := Aside0.mk hb3)
                | (go_at_call 58; refine (HA.out _ ((HSS.out.below (below_step (below_alloc (Below.refl wr.heap.size wr) _) hb2.out)).below hb3.out) HI3.out.bel.size).mono ?_; rintro e w5 ⟨rfl, hs5, hk5⟩; have HI5 := Aside0.mk (HI3.out.moved (s' := ⟨s.told, max s.size (ende ⟨x.f1.f0, x.f1.f1⟩), s.data ++ [⟨x.f1.f0, x.f1.f1⟩]⟩) hk5 hs5 rfl); clear hs5 hk5)
                | (at_builtin; refine Kd.R_append Kd.bool (w0 := w) w.heap.size rfl (.tmp 60) (.tmp 62) 52 4 (.bool false) 1 rfl Try.underlying52 info4 rfl (Nat.succ_pos 0) (Nat.succ_pos 0) u2 s.told true [.bool true] (fun _ => True) (fun _ => False) rfl rfl ?_ (fun _ hk => hk.elim) (fun _ _ => trivial) ?_ ?_ ?_ ?_ ?_; (exact rfl); (exact HI5.out.row); (exact HI5.out.bel); (exact HI5.out.bel.size); omega; intro v4 w4 hr4 hb4 hg4 hat4; have HI4 := Aside0.mk (HI5.out.told (s' := ⟨s.told ++ [true], max s.size (ende ⟨x.f1.f0, x.f1.f1⟩), s.data ++ [⟨x.f1.f0, x.f1.f1⟩]⟩) hr4 hb4 hg4 rfl rfl); clear hr4 hb4 hg4 hat4))
              exact ⟨⟨k + 1, by omega, by go_num, ⟨by rw [HST.out]; exact HI4.out⟩⟩, by simp [intOf]; omega⟩
          · have hdat : datumOf s.size x = ⟨s.size, x.f1.f1⟩ := by unfold datumOf; rw [if_pos h0]
            have hgo : good ⟨s.size, x.f1.f1⟩ := ⟨hok, hgd.2.2⟩
            have HSS := Lib.hid hS
            have hst : runM (l.take (k + 1)) = ⟨s.told ++ [true], max s.size (ende ⟨s.size, x.f1.f1⟩), s.data ++ [⟨s.size, x.f1.f1⟩]⟩ := by rw [hs]; unfold stepM; rw [if_neg h2, if_pos (by simp [fits, hok, h0]), hdat]
            have HST := Lib.hid hst
            have HA := Lib.hid (fun (W : World) (hh : Sec w.heap.size W g sv s.size s.data) (hb : w.heap.size ≤ W.heap.size) => append w.heap.size g sv s.size s.data x.f1.f1 W hh hb hgo (by omega))
            rw [h0] at y0
            clear hs hst hgd h2 h0 hdata hS hok hgo hdat
            go_wp2_with (first
              | (go_at_call 49; refine (hC.out _).mono ?_; rintro e w2 ⟨rfl, hb2⟩; have hk2 := blk_below (blk_new wr _) hb2; have z0 : w2.cell? ⟨wr.heap.size, 0, none⟩ = some (Value.int .i64 1) := (blk_cell hk2 0).trans rfl; have z1 : w2.cell? ⟨wr.heap.size, 1, none⟩ = some (Value.int .i64 x.f1.f0) := (blk_cell hk2 1).trans rfl; have HI2 := Aside0.mk (HI.out.below (below_step (below_alloc (Below.refl wr.heap.size wr) _) hb2)); replace hb2 := Aside0.mk hb2; clear hk2)
              | (go_at_call 59; refine (HA.out _ (HSS.out.below (below_step (below_alloc (Below.refl wr.heap.size wr) _) hb2.out)) HI2.out.bel.size).mono ?_; rintro e w5 ⟨rfl, hs5, hk5⟩; have HI5 := Aside0.mk (HI2.out.moved (s' := ⟨s.told, max s.size (ende ⟨s.size, x.f1.f1⟩), s.data ++ [⟨s.size, x.f1.f1⟩]⟩) hk5 hs5 rfl); clear hs5 hk5)
              | (at_builtin; refine Kd.R_append Kd.bool (w0 := w) w.heap.size rfl (.tmp 60) (.tmp 62) 52 4 (.bool false) 1 rfl Try.underlying52 info4 rfl (Nat.succ_pos 0) (Nat.succ_pos 0) u2 s.told true [.bool true] (fun _ => True) (fun _ => False) rfl rfl ?_ (fun _ hk => hk.elim) (fun _ _ => trivial) ?_ ?_ ?_ ?_ ?_; (exact rfl); (exact HI5.out.row); (exact HI5.out.bel); (exact HI5.out.bel.size); omega; intro v4 w4 hr4 hb4 hg4 hat4; have HI4 := Aside0.mk (HI5.out.told (s' := ⟨s.told ++ [true], max s.size (ende ⟨s.size, x.f1.f1⟩), s.data ++ [⟨s.size, x.f1.f1⟩]⟩) hr4 hb4 hg4 rfl rfl); clear hr4 hb4 hg4 hat4))
            exact ⟨⟨k + 1, by omega, by go_num, ⟨by rw [HST.out]; exact HI4.out⟩⟩, by simp [intOf]; omega⟩
          · exact absurd h0 h2
    · have hkl : k = l.length := by omega
      have HI' := HI.out
      obtain ⟨hdata, htl, hdl⟩ := runM_good l HG.out k hk
      rw [hkl, List.take_length] at HI' hdata hdl
      have HRET := Lib.hid (fun (v1 v2 : Value) (W : World) (h1 : Kd.bool.R 4 W w.heap.size (fun _ => True) v1 (runM l).told) (h2 : k40.R 40 W w.heap.size (fun _ => True) v2 ((runM l).data.map norm)) (h3 : Below w.heap.size w W) => (show SecRet w l (.returned (.tuple #[v1, .int .i64 (runM l).size, v2])) W from ⟨v1, v2, rfl, h1, h2, h3⟩))
      have hJ : (runM l).data.length ≤ 2000 := by omega
      clear HI htl
      generalize runM l = s at *
      obtain ⟨sv, hS⟩ := HI'.sec
      obtain ⟨A2, c2, rfl⟩ := Kd.R_slice hS.row
      have hg3 : wr.cell? ⟨g, 3, none⟩ = some (Value.slice A2 s.data.length c2) := (blk_cell hS.blk 3).trans rfl
      have HI := Aside0.mk HI'
      have HSS := Lib.hid hS
      have HD := Lib.hid hdata
      clear HI' hS hdata
      go_wp2
      go_loopw [4, 70] (fun v4 i w2 => ∃ j : Nat, j ≤ s.data.length ∧ i = .int .i64 j ∧ Aside0 (k40.R 40 w2 w.heap.size (fun _ => True) v4 ((s.data.take j).map norm)) ∧ Aside0 (Inv w g u2 s w2) ∧ Aside0 (Sec w.heap.size w2 g (.slice A2 s.data.length c2) s.size s.data)) (fun _ i _ => s.data.length - (intOf i).toNat)
      case atStart => exact ⟨0, Nat.zero_le _, rfl, ⟨Kd.R_nil _ _ _ _ _⟩, HI, ⟨HSS.out⟩⟩
      case round =>
        clear HI HSS hg3
        obtain ⟨j, hj, rfl, HR4, HI, HS⟩ := hrel
        by_cases hjl : j < s.data.length
        · obtain ⟨ad2, e2, hx0, hx1⟩ := at_T86 (Kd.R_reads' HS.out.row).2.2 (j : Int) (by omega) (by omega)
          subst e2
          simp only [Int.toNat_natCast] at hx0 hx1
          have htk : (s.data.take (j + 1)).map norm = (s.data.take j).map norm ++ [(⟨(rd_T40 s.data j).f0, ⟨(rd_T40 s.data j).f1.f0, backB (rd_T40 s.data j).f1.f0 (rd_T40 s.data j).f1.f1, backT (rd_T40 s.data j).f1.f0 (rd_T40 s.data j).f1.f2⟩⟩ : S40)] := by
            have h9 : s.data.take (j + 1) = s.data.take j ++ [rd_T40 s.data j] := by
              rw [List.take_succ_eq_append_getElem hjl]
              simp [rd_T40, List.getD, hjl]
            rw [h9, List.map_append]; rfl
          have hlen : ((s.data.take j).map norm).length ≤ 2000 := by simp; omega
          have hgb := HD.out (rd_T40 s.data j) (by simp [rd_T40, List.getD, hjl])
          have HPL := Lib.hid (fun (W : World) => plainU (rd_T40 s.data j).f1.f0 (rd_T40 s.data j).f1.f1 (rd_T40 s.data j).f1.f2 W hgb.1.1 hgb.2.1 hgb.2.2)
          obtain ⟨T, v, hv⟩ := cval_iface (b := (rd_T40 s.data j).f1.f1) (t := (rd_T40 s.data j).f1.f2) hgb.1.1
          rw [hv] at HPL hx1
          have HMK := Lib.hid (fun (W : World) (ok : Nat → Prop) => k40_mkM W w.heap.size ok (norm (rd_T40 s.data j)))
          unfold norm at HMK
          have HTK := Lib.hid htk
          have HLEN := Lib.hid hlen
          clear htk hlen hgb hv hdl
          generalize (List.take j s.data).map norm = dn at *
          generalize rd_T40 s.data j = d at *
          generalize backB d.f1.f0 d.f1.f1 = bb at *
          generalize backT d.f1.f0 d.f1.f2 = bt at *
          obtain ⟨A4, c4, rfl⟩ := Kd.R_slice HR4.out
          go_wp2_with (fail)
          go_region_law (first
            | (refine Kd.R_append_step k40 (w0 := w) (W := w5) w.heap.size rfl (.tmp 74) (.tmp 81) 53 40 (.agg #[.int .i64 0, .int .i64 0, .int .u64 0, .string ⟨#[]⟩]) 40 rfl Try.underlying53 info40 rfl (Nat.succ_pos 3) (Nat.succ_pos 39) (.slice A4 dn.length c4) dn ⟨d.f0, ⟨d.f1.f0, bb, bt⟩⟩ [.int .i64 d.f0, .int .i64 d.f1.f0, .int .u64 bb, .string bt] (fun _ => True) (fun _ => False) ?_ ?_ (HMK.out w5 _) (fun _ hk => hk.elim) (fun _ _ => trivial) hr5.out hi5.out.bel hi5.out.bel.size ?_ ?_; rfl; rfl; (have := HLEN.out; omega); intro v6 w6 hr6 hb6 hg6 hat6; have HI6 := Aside0.mk (Inv.grown40 hi5.out hr5.out hb6 hg6); replace hr6 := Aside0.mk hr6; clear hb6 hg6 hat6)
            | (go_simp; go_at_call 52; refine (HPL.out _).mono ?_; rintro e w5 ⟨rfl, hb5⟩; have hk5 := blk_below (blk_drew (blk_new wr (Obj.cells #[Value.int .i64 d.f0, Value.iface T v] 86))) hb5; have hi5 := Aside0.mk (HI.out.below (below_step (below_drew1 (below_alloc (Below.refl wr.heap.size wr) _)) hb5)); have hr5 := Aside0.mk (Kd.R_below HR4.out (below_step (below_drew1 (below_alloc (Below.refl wr.heap.size wr) _)) hb5)); have hs5 := Aside0.mk (HS.out.below (below_step (below_drew1 (below_alloc (Below.refl wr.heap.size wr) _)) hb5)); have z0 : w5.cell? ⟨wr.heap.size, 0, none⟩ = some (Value.int .i64 d.f0) := (blk_cell hk5 0).trans rfl; replace hb5 := Aside0.mk hb5; clear hk5))
          all_goals
            go_wp2
            exact ⟨⟨j + 1, by omega, by go_num, ⟨by rw [HTK.out]; simpa using hr6.out⟩, ⟨HI6.out.1⟩, ⟨HI6.out.2 _ hs5.out⟩⟩, by simp [intOf]; omega⟩
        · have hje : j = s.data.length := by omega
          have hr4 := HR4.out
          rw [hje, List.take_length] at hr4
          have zg4 : wr.cell? ⟨g, 4, none⟩ = some (Value.int .i64 s.size) := (blk_cell HS.out.blk 4).trans rfl
          have HR5 := Aside0.mk hr4
          clear hr4 HR4
          go_wp2
          go_quiet (fail)
          go_wp2
          refine bodyPost_ret (v := .tuple #[u2, .int .i64 s.size, u4]) (by simp [results, Try.results33, go_sem]) rfl (HRET.out u2 u4 _ HI.out.row HR5.out (pw_below_drewN HI.out.bel _))
end Go.Proofs.Ytknldfighehplaa.HSec
