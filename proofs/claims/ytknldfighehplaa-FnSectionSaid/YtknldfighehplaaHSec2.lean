/- Contracts of the data section's add, Append and AddDatum; conditions: what the section's block and its row hold. -/
import Derived.Test.YtknldfighehplaaHSec
namespace Go.Proofs.Ytknldfighehplaa.HSec
set_option linter.unusedSimpArgs false
set_option linter.unusedVariables false
open Go.RowKit Go.Proofs.Ytknldfighehplaa.HConst Go.Proofs.Ytknldfighehplaa.HInt Go.Proofs.Ytknldfighehplaa.PFnSection Go.Proofs.YtknldfighehplaaW.PrintWords Go.Proofs.YtknldfighehplaaW.PrintLast Go.Proofs.YtknldfighehplaaW.PrintMore

/-- A datum as a value. -/
def dval (d : S40) : Value := .agg #[.int .i64 d.f0, cval d.f1.f0 d.f1.f1 d.f1.f2]

set_option maxHeartbeats 800000 in
theorem add (B g : Nat) (vd : Value) (sz : Int) (ds : List S40) (d : S40) (w : World) (h : Sec B w g vd sz ds) (hB : B ≤ w.heap.size) (hd : good d) (hl : ds.length ≤ 1000000) :
    Calls Try.prog 77 #[.pointer (some ⟨g, 0, none⟩), dval d] w fun e w' => e = .returned (.tuple #[]) ∧ (∃ vd', Sec B w' g vd' (max sz (ende d)) (ds ++ [d])) ∧ KT B w w' := by
  unfold dval
  have H1 := Lib.hid (fun (W : World) => intervalU d.f0 d.f1.f0 d.f1.f1 d.f1.f2 W hd.1 hd.2)
  have HM := Lib.hid (fun (W : World) (ok : Nat → Prop) => kd86_mkM W B ok d)
  obtain ⟨T, v, hv⟩ := cval_iface (b := d.f1.f1) (t := d.f1.f2) hd.1
  rw [hv] at H1 HM ⊢
  have hE : wrap64 (d.f0 + bytesOf d.f1.f0 d.f1.f2) = ende d := rfl
  rw [hE] at H1
  obtain ⟨A, c, rfl⟩ := Kd.R_slice h.row
  have H2 := Lib.hid (fun (W : World) (hh : Sec B W g (.slice A ds.length c) sz ds) => grow B g (.slice A ds.length c) sz (ende d) ds W hh)
  have H0 := Lib.hid h
  clear hE hv hd h
  generalize ende d = de at *
  generalize d.f0 = df at *
  go_enter Try.func77, Try.ntmps77
  go_wp2_with (first
    | (go_at_call 51; refine (H1.out _).mono ?_; rintro e w1 ⟨rfl, hb1⟩; have hk : w1.heap[w.heap.size]? = some (Obj.cells #[Value.int IntKind.i64 df, Value.iface T v] 86 (0, 0)) := blk_below (blk_new w (Obj.cells #[Value.int IntKind.i64 df, Value.iface T v] 86)) hb1; have hs1 := H0.out.below (below_step (below_alloc (Below.refl _ _) _) hb1); replace hb1 := Aside0.mk hb1; replace hk := Aside0.mk hk)
    | (go_at_call 60; refine (H2.out _ hs1).mono ?_; rintro e w2 ⟨rfl, hs2, hb2, hk2⟩; have hk3 := (hk2 w.heap.size (by have := blk_lt H0.out.blk; omega)).trans hk.out; have hc0 : w2.cell? ⟨w.heap.size, 0, none⟩ = some (Value.int IntKind.i64 df) := (blk_cell hk3 0).trans rfl; have hc1 : w2.cell? ⟨w.heap.size, 1, none⟩ = some (Value.iface T v) := (blk_cell hk3 1).trans rfl; have hg3 : w2.cell? ⟨g, 3, none⟩ = some (.slice A ds.length c) := (blk_cell hs2.blk 3).trans rfl; have hf3 := blk_frozen hs2.blk 3; replace hs2 := Aside0.mk hs2; replace hb2 := Aside0.mk hb2; replace hk3 := Aside0.mk hk3; clear hk2))
  have hlt : (ds.length + 1) * 24 ≤ 140737488355328 := by omega
  have hB2 : B ≤ w2.heap.size := by have := hb2.out.1.size; have := hb1.out.size; simp at this; omega
  have HB2 := Aside0.mk hB2
  have HL := Aside0.mk hlt
  have HB0 := Aside0.mk hB
  clear hB2 hlt hl hB
  have hg3' : (w2.alloc (Obj.cells #[Value.int IntKind.i64 df, Value.iface T v] 86)).cell? ⟨g, 3, none⟩ = some (Value.slice A ds.length c) := (blk_cell (blk_alloc hs2.out.blk _) 3).trans rfl
  go_region_law (refine Kd.R_append_step kd86 (w0 := w2) (W := w2.drew) B rfl (.tmp 18) (.tmp 20) 102 86 (.agg #[.int .i64 0, .nilIface]) 24 rfl Try.underlying102 info86 rfl (Nat.succ_pos 1) (Nat.succ_pos 23) (.slice A ds.length c) ds d [.int .i64 df, .iface T v] (fun _ => True) (fun k => some k ≠ (Value.slice A ds.length c).ownBlock) ?_ ?_ ?_ (fun _ hk => ⟨trivial, hk⟩) (fun _ _ => trivial) ?_ ?_ ?_ HL.out ?_; (any_goals (first | exact HM.out w2.drew _ | exact Kd.R_drew hs2.out.row | exact (Below.refl _ _).drew | exact HB2.out | with_reducible rfl | (simp only [Act.eval, Act.put]; done) | (simp [Act.eval, Act.put]; done))); intro v1 w3 hr3 hbb3 hg3 hat3; obtain ⟨A1, c1, rfl⟩ := Kd.R_slice hr3; have hblk3 : SecB w3 g (.slice A ds.length c) (max sz de) := blk_grown (w := w2.drew) hs2.out.blk hg3 (Kd.R_ne hs2.out.row hs2.out.blk (by decide)); have hcg3 : w3.cell? ⟨g, 3, none⟩ = some (Value.slice A ds.length c) := (blk_cell hblk3 3).trans rfl; have hfg3 := blk_frozen hblk3 3; replace hr3 := Aside0.mk hr3; replace hbb3 := Aside0.mk hbb3; replace hg3 := Aside0.mk hg3; replace hblk3 := Aside0.mk hblk3; clear hat3)
  all_goals
    refine bodyPost_end (v := .tuple #[]) (by simp [results, Try.results77, go_sem]) rfl ?_
    have h1 : KT B w w1 := (KT.refl B w).below HB0.out (below_step (below_alloc (Below.refl _ _) _) hb1.out)
    have h2 := h1.trans hb2.out
    have h3 : KT B w w2.drew := ⟨h2.1.drew, h2.2⟩
    have h4 := h3.grown HB2.out (Kd.R_drew hs2.out.row) hg3.out
    have hr4 : kd86.R 86 w3 B (fun x => True) (Value.slice A1 (ds.length + 1) c1) (ds ++ [d]) := by simpa using hr3.out
    exact ⟨rfl, ⟨_, blk_put hblk3.out 3 _ rfl, H0.out.base, Kd.R_set hr4 hblk3.out types86 3 _⟩, h4.set hblk3.out H0.out.base⟩

theorem append (B g : Nat) (vd : Value) (sz : Int) (ds : List S40) (c : S38) (w : World) (h : Sec B w g vd sz ds) (hB : B ≤ w.heap.size) (hd : good ⟨sz, c⟩) (hl : ds.length ≤ 1000000) :
    Calls Try.prog 59 #[.pointer (some ⟨g, 0, none⟩), cval c.f0 c.f1 c.f2] w fun e w' => e = .returned (.tuple #[]) ∧ (∃ vd', Sec B w' g vd' (max sz (ende ⟨sz, c⟩)) (ds ++ [⟨sz, c⟩])) ∧ KT B w w' := by
  have H := Lib.hid (add B g vd sz ds ⟨sz, c⟩ w h hB hd hl)
  have hc4 : w.cell? ⟨g, 4, none⟩ = some (.int .i64 sz) := (blk_cell h.blk 4).trans rfl
  unfold dval at H
  obtain ⟨T, v, hv⟩ := cval_iface (b := c.f1) (t := c.f2) hd.1
  simp only [hv] at H ⊢
  clear hv h hB hl
  go_enter Try.func59, Try.ntmps59
  go_wp2_with (go_at_call 77; refine H.out.mono ?_; rintro e w1 ⟨rfl, hs, hk⟩)
  refine bodyPost_end (v := .tuple #[]) (by simp [results, Try.results59, go_sem]) rfl ?_
  exact ⟨rfl, hs, hk⟩

set_option maxHeartbeats 400000 in
/-- AddDatum: an error where the datum overlaps with one that is there; else it is added. -/
theorem addDatum (B g : Nat) (vd : Value) (sz : Int) (ds : List S40) (d : S40) (w : World) (h : Sec B w g vd sz ds) (hB : B ≤ w.heap.size) (hd : good d) (hds : ∀ o ∈ ds, good o) (hl : ds.length ≤ 1000000) :
    Calls Try.prog 58 #[.pointer (some ⟨g, 0, none⟩), dval d] w fun e w' =>
      (((ds.any fun o => ovl o d) = true ∧ (∃ T v, e = .returned (.iface T v)) ∧ Sec B w' g vd sz ds) ∨ ((ds.any fun o => ovl o d) = false ∧ e = .returned .nilIface ∧ ∃ vd', Sec B w' g vd' (max sz (ende d)) (ds ++ [d]))) ∧ KT B w w' := by
  have HA := Lib.hid (fun (W : World) (hs : Sec B W g vd sz ds) (hb : B ≤ W.heap.size) => add B g vd sz ds d W hs hb hd hl)
  have HO := Lib.hid (fun (k : Nat) (hk : k < ds.length) (W : World) => overlaps d (rd_T40 ds k) W hd (hds _ (by simp [rd_T40, List.getD, hk])))
  have HG := Lib.hid (fun (k : Nat) (hk : k < ds.length) => (hds (rd_T40 ds k) (by simp [rd_T40, List.getD, hk])).1)
  unfold dval at HA ⊢
  obtain ⟨T, v, hv⟩ := cval_iface (b := d.f1.f1) (t := d.f1.f2) hd.1
  simp only [hv] at HA HO ⊢
  obtain ⟨A, c, rfl⟩ := Kd.R_slice h.row
  have hg3 : w.cell? ⟨g, 3, none⟩ = some (Value.slice A ds.length c) := (blk_cell h.blk 3).trans rfl
  have hC := (Kd.R_reads' h.row).2.2
  have H0 := Lib.hid h
  have HC := Lib.hid hC
  have HB0 := Aside0.mk hB
  have HL := Aside0.mk hl
  have hg3' := hg3
  clear hv hd hds hC h hB
  have ha3 : (w.alloc (Obj.cells #[Value.int IntKind.i64 d.f0, Value.iface T v] 86)).cell? ⟨g, 3, none⟩ = some (Value.slice A ds.length c) := (blk_cell (blk_alloc H0.out.blk _) 3).trans rfl
  go_enter Try.func58, Try.ntmps58
  go_wp2
  go_loopw [12] (fun i wr => ∃ k : Nat, k ≤ ds.length ∧ i = .int .i64 k ∧ Aside0 (∀ j, j < k → ovl (rd_T40 ds j) d = false) ∧ Aside0 (Below w.heap.size w wr) ∧ Aside0 (wr.heap[w.heap.size]? = some (Obj.cells #[Value.int IntKind.i64 d.f0, Value.iface T v] 86 (0, 0)))) (fun i _ => ds.length - (intOf i).toNat)
  case atStart => exact ⟨0, Nat.zero_le _, rfl, ⟨fun j hj => absurd hj (Nat.not_lt_zero j)⟩, ⟨below_alloc (Below.refl _ _) _⟩, ⟨blk_new _ _⟩⟩
  case round =>
    obtain ⟨k, hk, rfl, HN, HB, HD⟩ := hrel
    have hL := HL.out
    by_cases hlt : k < ds.length
    · obtain ⟨ad, e0, hx0, hx1⟩ := at_T86 HC.out (k : Int) (by omega) (by omega)
      subst e0
      have hx0' := (HB.out.cell (World.block_lt_of_cell? w _ hx0)).trans hx0
      have hx1' := (HB.out.cell (World.block_lt_of_cell? w _ hx1)).trans hx1
      simp only [Int.toNat_natCast] at hx0' hx1'
      have HO1 := Lib.hid (HO.out k hlt)
      have hany : ovl (rd_T40 ds k) d = true → (ds.any fun o => ovl o d) = true := fun he => List.any_eq_true.2 ⟨rd_T40 ds k, by simp [rd_T40, List.getD, hlt], he⟩
      have HY := Lib.hid hany
      have hd0 : wr.cell? ⟨w.heap.size, 0, none⟩ = some (Value.int IntKind.i64 d.f0) := (blk_cell HD.out 0).trans rfl
      have hd1 : wr.cell? ⟨w.heap.size, 1, none⟩ = some (Value.iface T v) := (blk_cell HD.out 1).trans rfl
      have hn0 : ∀ o, (wr.alloc o).cell? ⟨w.heap.size, 0, none⟩ = some (Value.int IntKind.i64 d.f0) := fun o => (blk_cell (blk_alloc HD.out o) 0).trans rfl
      have hn1 : ∀ o, (wr.alloc o).cell? ⟨w.heap.size, 1, none⟩ = some (Value.iface T v) := fun o => (blk_cell (blk_alloc HD.out o) 1).trans rfl
      have HN' : ovl (rd_T40 ds k) d = false → ∀ j, j < k + 1 → ovl (rd_T40 ds j) d = false := fun he j hj => by
        by_cases hjk : j < k
        · exact HN.out j hjk
        · have : j = k := by omega
          subst this; exact he
      have HNH := Lib.hid HN'
      clear hx0 hx1 hany HN'
      generalize ovl (rd_T40 ds k) d = ov at HO1 HY HNH
      generalize (rd_T40 ds k).f0 = x0 at *
      obtain ⟨T1, v1, hv1⟩ := cval_iface (b := (rd_T40 ds k).f1.f1) (t := (rd_T40 ds k).f1.f2) (HG.out k hlt)
      rw [hv1] at HO1 hx1'
      clear hv1
      cases ov with
      | true =>
        go_wp2_with (first
          | (go_at_call 75; refine (HO1.out _).mono ?_; rintro e w1 ⟨rfl, hb1⟩)
          | (go_at_call 76; refine (errNew _ _).mono ?_; rintro e w2 ⟨⟨T2, v2, rfl⟩, hb2⟩))
        go_ret
        have hB2 := below_step (below_step (below_alloc HB.out _) hb1) hb2
        exact ⟨.inl ⟨HY.out trivial, ⟨T2, v2, rfl⟩, H0.out.below hB2⟩, (KT.refl B w).below HB0.out hB2⟩
      | false =>
        go_wp2_with (go_at_call 75; refine (HO1.out _).mono ?_; rintro e w1 ⟨rfl, hb1⟩)
        have hB1 := below_step (below_alloc HB.out _) hb1
        exact ⟨⟨k + 1, by omega, by go_num, ⟨HNH.out trivial⟩, ⟨hB1⟩, ⟨blk_below (blk_alloc HD.out _) hb1⟩⟩, by simp [intOf]; omega⟩
    · have hkl : k = ds.length := by omega
      have hno : (ds.any fun o => ovl o d) = false := by
        rw [List.any_eq_false]
        intro o ho
        obtain ⟨j, hj, rfl⟩ := List.getElem_of_mem ho
        have := HN.out j (by omega)
        simp only [rd_T40, List.getD, Int.toNat_natCast, List.getElem?_eq_getElem hj, Option.getD_some] at this
        simp [this]
      have HNO := Lib.hid hno
      have hd0 : wr.cell? ⟨w.heap.size, 0, none⟩ = some (Value.int IntKind.i64 d.f0) := (blk_cell HD.out 0).trans rfl
      have hd1 : wr.cell? ⟨w.heap.size, 1, none⟩ = some (Value.iface T v) := (blk_cell HD.out 1).trans rfl
      clear hno
      go_wp2_with (go_at_call 77; refine (HA.out _ (H0.out.below HB.out) (Nat.le_trans HB0.out HB.out.size)).mono ?_; rintro e w1 ⟨rfl, hs1, hk1⟩)
      go_ret
      exact ⟨.inr ⟨HNO.out, rfl, hs1⟩, ((KT.refl B w).below HB0.out HB.out).trans hk1⟩
end Go.Proofs.Ytknldfighehplaa.HSec
