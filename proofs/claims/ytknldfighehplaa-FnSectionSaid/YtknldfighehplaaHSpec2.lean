/- The walk of the specification's Section; conditions: steps of the three kinds, constants in range, at most 2000 steps. -/
import Derived.Test.YtknldfighehplaaHSpec
import Derived.Test.YtknldfighehplaaHSec4
import Derived.Test.YtknldfighehplaaHSecPlain
namespace Go.Proofs.Ytknldfighehplaa.HSpec
set_option linter.unusedSimpArgs false
set_option linter.unusedVariables false
open Go.RowKit Go.Proofs.Ytknldfighehplaa.HConst Go.Proofs.Ytknldfighehplaa.HInt Go.Proofs.Ytknldfighehplaa.HSec Go.Proofs.Ytknldfighehplaa.HSecPlain Go.Proofs.Ytknldfighehplaa.PFnSection Go.Proofs.YtknldfighehplaaW.PrintWords Go.Proofs.YtknldfighehplaaW.PrintLast Go.Proofs.YtknldfighehplaaW.PrintMore

theorem bytes_norm (k : Int) (t : ByteArray) : HConst.bytesOf k (backT k t) = HConst.bytesOf k t := by
  unfold backT
  by_cases h : k = 11
  · rw [if_pos h]
  · rw [if_neg h]; unfold HConst.bytesOf; rw [if_neg h, if_neg h]
theorem ende_norm (d : S40) : ende (norm d) = ende d := by
  unfold ende norm
  simp only [bytes_norm]
theorem ovl_norm (o d : S40) : ovl (norm o) d = ovl o d := by
  unfold ovl
  rw [ende_norm]
  rfl
/-- The same state, its data told plainly. -/
def nrm (s : St) : St := ⟨s.told, s.size, s.data.map norm⟩
def fitN (s : St) (x : S51) : Bool := cok x.f1.f1.f0 && !(decide (x.f0 = 0) && s.data.any fun o => ovl o (datumOf s.size x))
theorem fitN_is (s : St) (x : S51) : fitN (nrm s) x = fits s x := by
  unfold fitN fits nrm
  simp only [List.any_map]
  congr 3
  congr 1
  funext o
  exact ovl_norm o _
theorem nrm_two (s : St) (x : S51) (h : x.f0 = 2) : nrm (stepM s x) = ⟨(nrm s).told ++ [true], max (nrm s).size x.f2, (nrm s).data⟩ := by
  unfold stepM; rw [if_pos h]; rfl
theorem nrm_no (s : St) (x : S51) (h : x.f0 ≠ 2) (hf : fitN (nrm s) x = false) : nrm (stepM s x) = ⟨(nrm s).told ++ [false], (nrm s).size, (nrm s).data⟩ := by
  rw [fitN_is] at hf
  unfold stepM; rw [if_neg h, if_neg (by rw [hf]; decide)]; rfl
theorem nrm_yes (s : St) (x : S51) (h : x.f0 ≠ 2) (hf : fitN (nrm s) x = true) : nrm (stepM s x) = ⟨(nrm s).told ++ [true], max (nrm s).size (ende (datumOf (nrm s).size x)), (nrm s).data ++ [norm (datumOf (nrm s).size x)]⟩ := by
  rw [fitN_is] at hf
  unfold stepM; rw [if_neg h, if_pos hf]; simp [nrm]

/-- What holds between the steps. -/
structure InvN (w : World) (v2 v4 : Value) (s : St) (W : World) : Prop where
  row : Kd.bool.R 4 W w.heap.size (fun _ => True) v2 s.told
  dat : k40.R 40 W w.heap.size (fun _ => True) v4 s.data
  bel : Below w.heap.size w W
theorem InvN.below {w W W2 : World} {v2 v4 : Value} {s : St} (h : InvN w v2 v4 s W) (hb : Below W.heap.size W W2) : InvN w v2 v4 s W2 :=
  ⟨Kd.R_below h.row hb, Kd.R_below h.dat hb, below_step h.bel hb⟩
theorem e40 : k40.E = [] := rfl
theorem eb : Kd.bool.E = [] := rfl
theorem grown_set (W : World) (g j : Nat) (u : Value) : W.grownBy (W.setCell ⟨g, j, none⟩ u) (some g) where
  os := rfl
  tape := rfl
  output := rfl
  size := by simp
  block := fun k _ hk => Below.heap_setCell W ⟨g, j, none⟩ u k (fun e => hk (by rw [e]))
theorem InvN.put {w W : World} {v2 v4 : Value} {s : St} (h : InvN w v2 v4 s W) (g j : Nat) (u : Value) (h2 : some g ≠ v2.ownBlock) (h4 : some g ≠ v4.ownBlock) (hg : w.heap.size ≤ g) : InvN w v2 v4 s (W.setCell ⟨g, j, none⟩ u) :=
  ⟨Kd.R_grown1 h.row eb (grown_set W g j u) h2, Kd.R_grown1 h.dat e40 (grown_set W g j u) h4, below_set h.bel hg⟩
theorem InvN.told {w W W2 : World} {v2 v4 v1 : Value} {s s' : St} (h : InvN w v2 v4 s W) (hr : Kd.bool.R 4 W2 w.heap.size (fun _ => True) v1 s'.told) (hb : Below w.heap.size w W2) (hg : W.grownBy W2 v2.ownBlock) (h2 : s'.data = s.data) : InvN w v1 v4 s' W2 := by
  refine ⟨hr, ?_, hb⟩
  rw [h2]
  refine Kd.R_over h.dat h.row ?_ hg
  intro q hq
  have : q = 40 := by simpa [e40] using hq
  subst this
  decide
theorem InvN.data {w W W2 : World} {v2 v4 v1 : Value} {s s' : St} (h : InvN w v2 v4 s W) (hr : k40.R 40 W2 w.heap.size (fun _ => True) v1 s'.data) (hb : Below w.heap.size w W2) (hg : W.grownBy W2 v4.ownBlock) (h2 : s'.told = s.told) : InvN w v2 v1 s' W2 := by
  refine ⟨?_, hr, hb⟩
  rw [h2]
  refine Kd.R_over h.row h.dat ?_ hg
  intro q hq
  have : q = 4 := by simpa [eb] using hq
  subst this
  decide
theorem any_snoc (ds : List S40) (j : Nat) (h : j < ds.length) (f : S40 → Bool) : (ds.take (j + 1)).any f = ((ds.take j).any f || f (rd_T40 ds j)) := by
  rw [List.take_succ_eq_append_getElem h, List.any_append]
  simp [rd_T40, List.getD, h]
theorem constOKU (a b : Int) (t : ByteArray) (W : World) : Calls Try.prog 56 #[.agg #[.int .i64 a, .int .u64 b, .string t]] W fun e w' => e = .returned (.bool (cok a)) ∧ Below W.heap.size W w' :=
  spec_ConstOK.calls a b t (cok a) W (constOK_is a b t)
theorem overlapsU (o d : S40) (W : World) (ho : cok o.f1.f0 = true) (hd : cok d.f1.f0 = true) : Calls Try.prog 61 #[.agg #[.int .i64 o.f0, .int .i64 o.f1.f0, .int .u64 o.f1.f1, .string o.f1.f2], .agg #[.int .i64 d.f0, .int .i64 d.f1.f0, .int .u64 d.f1.f1, .string d.f1.f2]] W fun e w' => e = .returned (.bool (ovl o d)) ∧ Below W.heap.size W w' :=
  spec_Overlaps.calls 6 _ _ _ _ _ _ _ _ (ovl o d) W (overlaps_is 0 o d ho hd)
theorem intervalU (d : S40) (W : World) (hd : cok d.f1.f0 = true) : Calls Try.prog 25 #[.agg #[.int .i64 d.f0, .int .i64 d.f1.f0, .int .u64 d.f1.f1, .string d.f1.f2]] W fun e w' => e = .returned (.tuple #[.int .i64 d.f0, .int .i64 (ende d)]) ∧ Below W.heap.size W w' :=
  spec_Interval.calls 5 _ _ _ _ d.f0 (ende d) W (interval_is 0 d hd)
theorem plainOpU (k b : Int) (t : ByteArray) (W : World) (hk : cok k = true) (h0 : 0 ≤ b) (h1 : b < 18446744073709551616) : Calls Try.prog 62 #[.agg (opC 3 k b t)] W fun e w' => e = .returned (.agg (opC 3 k (backB k b) (backT k t))) ∧ Below W.heap.size W w' :=
  plainOp (opC 3 k b t) k b t W hk h0 h1 rfl rfl rfl rfl rfl

theorem wpList_took {P : Program} {ops : Array Oper} {rest : List Oper} {o : Oper} {a : Act} {w : World} {Q : Exit → Act → World → Prop} (hg : o.guard = none)
    (v : Value) (hrun : (execOp a.eval o).run P w = .ok (.value v) w) (h : wpList P ops Q rest (a.put o.dst v) w) : wpList P ops Q (o :: rest) a w :=
  wpList_plain hg fun K hK => by
    unfold Oper.wp
    rw [hrun]
    exact hK _ _ h
theorem ifmax (a b : Int) : (if a < b then b else a) = max a b := by split <;> omega
theorem blk_new1 (w : World) (a b : Obj) : ((w.alloc a).alloc b).heap[w.heap.size + 1]? = some b := by
  have := blk_new (w.alloc a) b
  rwa [show (w.alloc a).heap.size = w.heap.size + 1 by simp] at this
theorem no_more {c a b : Bool} (h : false = (c && !a)) : false = (c && !(a || b)) := by cases c <;> cases a <;> simp_all
theorem go_on {c a b : Bool} (h : true = (c && !a)) : (!b) = (c && !(a || b)) := by cases c <;> cases a <;> simp_all
theorem and_true_left {a b : Bool} (h : true = (a && b)) : a = true := by cases a <;> simp_all

set_option maxRecDepth 20000 in
set_option maxHeartbeats 16000000 in
theorem specSection (A : Option Addr) (c : Nat) (l : List S51) (w : World) (hr : Kd.C k51 w A l.length l) (hc : l.length ≤ c) (hl : l.length ≤ 2000) (hg : ∀ x ∈ l, goodS x) :
    Calls Try.prog 34 #[.slice A l.length c] w (SecRet w l) := by
  have HR := Aside0.mk hr
  have HG := Lib.hid hg
  have HL := Aside0.mk hl
  clear hr hg hl
  go_enter Try.func34, Try.ntmps34
  have HI0 := Aside0.mk (show InvN w (.slice none 0 0) (.slice none 0 0) (nrm (runM (l.take 0))) w from ⟨Kd.R_nil _ _ _ _ _, Kd.R_nil _ _ _ _ _, Below.refl _ _⟩)
  go_wp2_with (fail)
  go_loopw [2, 3, 4, 15] (fun v2 v3 v4 i wr => ∃ k : Nat, k ≤ l.length ∧ i = .int .i64 k ∧ v3 = .int .i64 (nrm (runM (l.take k))).size ∧ Aside0 (InvN w v2 v4 (nrm (runM (l.take k))) wr)) (fun _ _ _ i _ => l.length - (intOf i).toNat)
  case atStart => exact ⟨0, Nat.zero_le _, rfl, rfl, HI0⟩
  case round =>
    clear HI0
    obtain ⟨k, hk, rfl, rfl, HI⟩ := hrel
    have hL := HL.out
    by_cases hlt : k < l.length
    · obtain ⟨ad, e0, hx0, hx1, hx2, hx3, hx4, hx5⟩ := at_T51 HR.out (k : Int) (by omega) (by omega)
      subst e0
      have y0 := (HI.out.bel.cell (World.block_lt_of_cell? w _ hx0)).trans hx0
      have y1 := (HI.out.bel.cell (World.block_lt_of_cell? w _ hx1)).trans hx1
      have y2 := (HI.out.bel.cell (World.block_lt_of_cell? w _ hx2)).trans hx2
      have y3 := (HI.out.bel.cell (World.block_lt_of_cell? w _ hx3)).trans hx3
      have y4 := (HI.out.bel.cell (World.block_lt_of_cell? w _ hx4)).trans hx4
      have y5 := (HI.out.bel.cell (World.block_lt_of_cell? w _ hx5)).trans hx5
      clear hx0 hx1 hx2 hx3 hx4 hx5
      simp only [Int.toNat_natCast] at y0 y1 y2 y3 y4 y5
      have hs := congrArg nrm (runM_snoc l k hlt)
      have hgd := HG.out (rd_T51 l k) (by simp [rd_T51, List.getD, hlt])
      obtain ⟨hdata, htl, hdl⟩ := runM_good l HG.out k hk
      have hS2 := nrm_two (runM (l.take k)) (rd_T51 l k)
      have hSn := nrm_no (runM (l.take k)) (rd_T51 l k)
      have hSy := nrm_yes (runM (l.take k)) (rd_T51 l k)
      rw [← hs] at hS2 hSn hSy
      have hcokd : ∀ o ∈ (nrm (runM (l.take k))).data, cok o.f1.f0 = true := by
        intro o ho
        obtain ⟨o', ho', rfl⟩ := List.mem_map.1 ho
        exact (hdata o' ho').1.1
      have htl' : (nrm (runM (l.take k))).told.length = k := htl
      have hdl' : (nrm (runM (l.take k))).data.length ≤ k := by simpa [nrm] using hdl
      obtain ⟨s', hs'⟩ : ∃ s', s' = nrm (runM (l.take (k + 1))) := ⟨_, rfl⟩
      rw [← hs'] at hS2 hSn hSy
      have HST := Lib.hid hs'
      clear hs hs' hdata htl hdl
      generalize rd_T51 l ↑k = x at *
      generalize nrm (runM (l.take k)) = s at *
      have hB0 : w.heap.size ≤ wr.heap.size := HI.out.bel.size
      obtain ⟨A4, c4, rfl⟩ := Kd.R_slice HI.out.dat
      by_cases h2 : x.f0 = 2
      · obtain rfl := hS2 h2
        rw [h2] at y0
        clear hSn hSy hgd h2 hS2 hcokd
        go_wp2_with (first
          | (at_builtin; refine Kd.R_append Kd.bool (w0 := w) w.heap.size rfl (.tmp 28) (.tmp 29) 52 4 (.bool false) 1 rfl Try.underlying52 info4 rfl (Nat.succ_pos 0) (Nat.succ_pos 0) u2 s.told true [.bool true] (fun _ => True) (fun _ => False) rfl ?_ ?_ (fun _ hk => hk.elim) (fun _ _ => trivial) ?_ ?_ ?_ ?_ ?_; (first | exact rfl | exact congrArg (fun n => Value.slice (some ⟨n,0,none⟩) 1 1) (by simp)); (exact rfl); (exact Kd.R_below HI.out.row (below_alloc (below_alloc (Below.refl _ _) _) _)); (exact below_step HI.out.bel (below_alloc (below_alloc (Below.refl _ _) _) _)); (exact (below_step HI.out.bel (below_alloc (below_alloc (Below.refl _ _) _) _)).size); omega; intro v4 w4 hr4 hb4 hg4 hat4; have HI4 := Aside0.mk ((HI.out.below (below_alloc (below_alloc (Below.refl _ _) _) _)).told (s' := ⟨s.told ++ [true], max s.size x.f2, s.data⟩) hr4 hb4 hg4 rfl); clear hr4 hb4 hg4 hat4))
        exact ⟨⟨k + 1, by omega, by go_num, by rw [← HST.out, ifmax], ⟨by rw [← HST.out]; exact HI4.out⟩⟩, by simp [intOf]; omega⟩
      · rcases hgd.1 with h0 | h0 | h0
        · rw [h0] at y0
          have hdat : datumOf s.size x = (⟨x.f1.f0, x.f1.f1⟩ : S40) := by unfold datumOf; rw [if_neg (by omega)]
          have hfit : fitN s x = (cok x.f1.f1.f0 && !((s.data.take s.data.length).any fun o => ovl o (⟨x.f1.f0, x.f1.f1⟩ : S40))) := by unfold fitN; rw [hdat, h0]; simp
          rw [hdat, hfit] at hSy
          rw [hfit] at hSn
          have HSN := Lib.hid (hSn h2)
          have HSY := Lib.hid (hSy h2)
          have hA4 : some (wr.heap.size + 1) ≠ (Value.slice A4 s.data.length c4).ownBlock := fun e => by have := Kd.R_lt HI.out.dat _ e.symm; omega
          have HA4 := Aside0.mk hA4
          have HGD := Aside0.mk hgd.2
          have HCK := Lib.hid hcokd
          have HC := Lib.hid (fun (W : World) => constOKU x.f1.f1.f0 x.f1.f1.f1 x.f1.f1.f2 W)
          clear hSn hSy hS2 hfit hdat hA4 hgd hcokd h2 h0
          go_wp2_with (go_at_call 56; refine (HC.out _).mono ?_; rintro e w2 ⟨rfl, hb2⟩; have kb6 := Aside0.mk (show w2.heap[wr.heap.size]? = some (Obj.cells #[.int .i64 0, .int .i64 x.f1.f0, .int .i64 x.f1.f1.f0, .int .u64 x.f1.f1.f1, .string x.f1.f1.f2, .int .i64 x.f2] 51) from blk_below (blk_alloc (blk_new wr (Obj.cells #[.int .i64 0, .int .i64 x.f1.f0, .int .i64 x.f1.f1.f0, .int .u64 x.f1.f1.f1, .string x.f1.f1.f2, .int .i64 x.f2] 51)) (Obj.cells #[.int .i64 x.f1.f0, .int .i64 x.f1.f1.f0, .int .u64 x.f1.f1.f1, .string x.f1.f1.f2] 40)) hb2); have kb7 := Aside0.mk (show w2.heap[wr.heap.size + 1]? = some (Obj.cells #[.int .i64 x.f1.f0, .int .i64 x.f1.f1.f0, .int .u64 x.f1.f1.f1, .string x.f1.f1.f2] 40) from blk_below (blk_new1 wr (Obj.cells #[.int .i64 0, .int .i64 x.f1.f0, .int .i64 x.f1.f1.f0, .int .u64 x.f1.f1.f1, .string x.f1.f1.f2, .int .i64 x.f2] 51) (Obj.cells #[.int .i64 x.f1.f0, .int .i64 x.f1.f1.f0, .int .u64 x.f1.f1.f1, .string x.f1.f1.f2] 40)) hb2); have HI2 := Aside0.mk (HI.out.below (below_step (below_alloc (below_alloc (Below.refl wr.heap.size wr) _) _) hb2)); clear hb2)
          clear y0 y1 y2 y3 y4 y5 HC
          replace HI := HI2
          clear HI2
          generalize wr.heap.size = n0 at *
          go_loopw [8, 41] (fun v8 i w3 => ∃ j : Nat, j ≤ s.data.length ∧ i = .int .i64 j ∧ (∃ b : Bool, v8 = .bool b ∧ Aside0 (b = (cok x.f1.f1.f0 && !((s.data.take j).any fun o => ovl o (⟨x.f1.f0, x.f1.f1⟩ : S40))))) ∧ Aside0 (Below w2.heap.size w2 w3)) (fun _ i _ => s.data.length - (intOf i).toNat)
          case atStart => exact ⟨0, Nat.zero_le _, rfl, ⟨_, rfl, ⟨by simp⟩⟩, ⟨Below.refl _ _⟩⟩
          case round =>
            obtain ⟨j, hj, rfl, ⟨b, rfl, hb⟩, HB3⟩ := hrel
            replace HI := Aside0.mk (HI.out.below HB3.out)
            replace kb6 := Aside0.mk (blk_below kb6.out HB3.out)
            replace kb7 := Aside0.mk (blk_below kb7.out HB3.out)
            have c60 : wr.cell? ⟨n0, 0, none⟩ = some (Value.int .i64 0) := (blk_cell kb6.out 0).trans rfl
            have c70 : wr.cell? ⟨n0 + 1, 0, none⟩ = some (Value.int .i64 x.f1.f0) := (blk_cell kb7.out 0).trans rfl
            have c71 : wr.cell? ⟨n0 + 1, 1, none⟩ = some (Value.int .i64 x.f1.f1.f0) := (blk_cell kb7.out 1).trans rfl
            have c72 : wr.cell? ⟨n0 + 1, 2, none⟩ = some (Value.int .u64 x.f1.f1.f1) := (blk_cell kb7.out 2).trans rfl
            have c73 : wr.cell? ⟨n0 + 1, 3, none⟩ = some (Value.string x.f1.f1.f2) := (blk_cell kb7.out 3).trans rfl
            have n60 : ∀ o, (wr.alloc o).cell? ⟨n0, 0, none⟩ = some (Value.int .i64 0) := fun o => (blk_cell (blk_alloc kb6.out o) 0).trans rfl
            have n70 : ∀ o, (wr.alloc o).cell? ⟨n0 + 1, 0, none⟩ = some (Value.int .i64 x.f1.f0) := fun o => (blk_cell (blk_alloc kb7.out o) 0).trans rfl
            have n71 : ∀ o, (wr.alloc o).cell? ⟨n0 + 1, 1, none⟩ = some (Value.int .i64 x.f1.f1.f0) := fun o => (blk_cell (blk_alloc kb7.out o) 1).trans rfl
            have n72 : ∀ o, (wr.alloc o).cell? ⟨n0 + 1, 2, none⟩ = some (Value.int .u64 x.f1.f1.f1) := fun o => (blk_cell (blk_alloc kb7.out o) 2).trans rfl
            have n73 : ∀ o, (wr.alloc o).cell? ⟨n0 + 1, 3, none⟩ = some (Value.string x.f1.f1.f2) := fun o => (blk_cell (blk_alloc kb7.out o) 3).trans rfl
            by_cases hjl : j < s.data.length
            · obtain ⟨ad4, e4, q0, q1, q2, q3⟩ := at_T40 (Kd.R_reads' HI.out.dat).2.2 (j : Int) (by omega) (by omega)
              subst e4
              simp only [Int.toNat_natCast] at q0 q1 q2 q3
              have hco := HCK.out (rd_T40 s.data j) (by simp [rd_T40, List.getD, hjl])
              have hsn : ((s.data.take (j + 1)).any fun o => ovl o (⟨x.f1.f0, x.f1.f1⟩ : S40)) = (((s.data.take j).any fun o => ovl o (⟨x.f1.f0, x.f1.f1⟩ : S40)) || ovl (rd_T40 s.data j) (⟨x.f1.f0, x.f1.f1⟩ : S40)) := any_snoc s.data j hjl (fun o => ovl o (⟨x.f1.f0, x.f1.f1⟩ : S40))
              have hJL : s.data.length ≤ 2000 := by omega
              cases b with
              | false =>
                have hn0 : false = (cok x.f1.f1.f0 && !((s.data.take (j + 1)).any fun o => ovl o (⟨x.f1.f0, x.f1.f1⟩ : S40))) := by rw [hsn]; exact no_more hb.out
                have hn := Lib.hid hn0
                clear hsn hb hn0
                generalize rd_T40 s.data j = d at *
                go_wp2
                exact ⟨⟨j + 1, by omega, by go_num, ⟨false, rfl, ⟨hn.out⟩⟩, ⟨below_alloc HB3.out _⟩⟩, by simp [intOf]; omega⟩
              | true =>
                have HO := Lib.hid (fun (W : World) => overlapsU (rd_T40 s.data j) (⟨x.f1.f0, x.f1.f1⟩ : S40) W hco (and_true_left hb.out))
                have hn0 : (!(ovl (rd_T40 s.data j) (⟨x.f1.f0, x.f1.f1⟩ : S40))) = (cok x.f1.f1.f0 && !((s.data.take (j + 1)).any fun o => ovl o (⟨x.f1.f0, x.f1.f1⟩ : S40))) := by rw [hsn]; exact go_on hb.out
                have hn := Lib.hid hn0
                clear hsn hb hn0
                generalize ovl (rd_T40 s.data j) (⟨x.f1.f0, x.f1.f1⟩ : S40) = ov at *
                generalize rd_T40 s.data j = d at *
                cases ov with
                | false =>
                  go_wp2_with (go_at_call 61; refine (HO.out _).mono ?_; rintro e w4 ⟨rfl, hb4⟩; replace hb4 := Aside0.mk hb4)
                  exact ⟨⟨j + 1, by omega, by go_num, ⟨!false, rfl, ⟨hn.out⟩⟩, ⟨below_step (below_alloc HB3.out _) hb4.out⟩⟩, by simp [intOf]; omega⟩
                | true =>
                  go_wp2_with (go_at_call 61; refine (HO.out _).mono ?_; rintro e w4 ⟨rfl, hb4⟩; replace hb4 := Aside0.mk hb4)
                  exact ⟨⟨j + 1, by omega, by go_num, ⟨!true, rfl, ⟨hn.out⟩⟩, ⟨below_step (below_alloc HB3.out _) hb4.out⟩⟩, by simp [intOf]; omega⟩
            · have hje : j = s.data.length := by omega
              have hbo := hb.out
              rw [hje] at hbo
              clear hb
              cases b with
              | false =>
                obtain rfl := HSN.out hbo.symm
                clear hbo
                go_wp2_with (first | (at_builtin; refine Kd.R_append Kd.bool (w0 := w) w.heap.size rfl (.tmp 57) (.tmp 59) 52 4 (.bool false) 1 rfl Try.underlying52 info4 rfl (Nat.succ_pos 0) (Nat.succ_pos 0) u2 s.told false [.bool false] (fun _ => True) (fun _ => False) rfl ?_ ?_ (fun _ hk => hk.elim) (fun _ _ => trivial) ?_ ?_ ?_ ?_ ?_; (first | exact rfl | exact congrArg (fun n => Value.slice (some ⟨n,0,none⟩) 1 1) (by simp)); (exact rfl); (exact HI.out.row); (exact HI.out.bel); (exact HI.out.bel.size); omega; intro v4 w4 hr4 hb4 hg4 hat4; have HI4 := Aside0.mk (HI.out.told (s' := ⟨s.told ++ [false], s.size, s.data⟩) hr4 hb4 hg4 rfl);  clear hr4 hb4 hg4 hat4))
                exact ⟨⟨k + 1, by omega, by go_num, by rw [← HST.out], ⟨by rw [← HST.out]; exact HI4.out⟩⟩, by simp [intOf]; omega⟩
              | true =>
                obtain rfl := HSY.out hbo.symm
                have hck := and_true_left hbo
                clear hbo
                have HP := Lib.hid (fun (W : World) => plainOpU x.f1.f1.f0 x.f1.f1.f1 x.f1.f1.f2 W hck HGD.out.1.1 HGD.out.1.2)
                unfold opC at HP
                have HV := Lib.hid (fun (W : World) => intervalU (norm (⟨x.f1.f0, x.f1.f1⟩ : S40)) W hck)
                rw [ende_norm] at HV
                have HMK := Lib.hid (fun (W : World) (ok : Nat → Prop) => k40_mkM W w.heap.size ok (norm (⟨x.f1.f0, x.f1.f1⟩ : S40)))
                unfold norm at HMK HV
                simp only [] at HMK HV
                have HNB1 : w.heap.size ≤ n0 + 1 := by omega
                go_wp2_with (first
                    | (at_builtin; refine Kd.R_append Kd.bool (w0 := w) w.heap.size rfl (.tmp 57) (.tmp 59) 52 4 (.bool false) 1 rfl Try.underlying52 info4 rfl (Nat.succ_pos 0) (Nat.succ_pos 0) u2 s.told true [.bool true] (fun _ => True) (fun _ => False) rfl ?_ ?_ (fun _ hk => hk.elim) (fun _ _ => trivial) ?_ ?_ ?_ ?_ ?_; (first | exact rfl | exact congrArg (fun n => Value.slice (some ⟨n,0,none⟩) 1 1) (by simp)); (exact rfl); (exact HI.out.row); (exact HI.out.bel); (exact HI.out.bel.size); omega; intro v4 w4 hr4 hb4 hg4 hat4; have HI4 := Aside0.mk (HI.out.told (s' := ⟨s.told ++ [true], s.size, s.data⟩) hr4 hb4 hg4 rfl); have kb4 := Aside0.mk (blk_grown kb7.out hg4 (Kd.R_ne HI.out.row kb7.out (by decide))); have H2A := Kd.R_ne HI4.out.row kb4.out (by decide); have z0 : w4.cell? ⟨n0 + 1, 0, none⟩ = some (Value.int .i64 x.f1.f0) := (blk_cell kb4.out 0).trans rfl; have z1 : w4.cell? ⟨n0 + 1, 1, none⟩ = some (Value.int .i64 x.f1.f1.f0) := (blk_cell kb4.out 1).trans rfl; have z2 : w4.cell? ⟨n0 + 1, 2, none⟩ = some (Value.int .u64 x.f1.f1.f1) := (blk_cell kb4.out 2).trans rfl; have z3 : w4.cell? ⟨n0 + 1, 3, none⟩ = some (Value.string x.f1.f1.f2) := (blk_cell kb4.out 3).trans rfl; clear hr4 hb4 hg4 hat4)
                    | (go_at_call 62; refine (HP.out _).mono ?_; rintro e w5 ⟨rfl, hb5⟩; have kb5 := Aside0.mk (blk_below kb4.out hb5); have z0 : w5.cell? ⟨n0 + 1, 0, none⟩ = some (Value.int .i64 x.f1.f0) := (blk_cell kb5.out 0).trans rfl; have z1 : w5.cell? ⟨n0 + 1, 1, none⟩ = some (Value.int .i64 x.f1.f1.f0) := (blk_cell kb5.out 1).trans rfl; have z2 : w5.cell? ⟨n0 + 1, 2, none⟩ = some (Value.int .u64 x.f1.f1.f1) := (blk_cell kb5.out 2).trans rfl; have z3 : w5.cell? ⟨n0 + 1, 3, none⟩ = some (Value.string x.f1.f1.f2) := (blk_cell kb5.out 3).trans rfl; have f1 := blk_frozen kb5.out 1; have f2 := blk_frozen kb5.out 2; have f3 := blk_frozen kb5.out 3; replace hb5 := Aside0.mk hb5; have HI6 := Aside0.mk ((((HI4.out.below hb5.out).put (n0 + 1) 1 (.int .i64 x.f1.f1.f0) H2A HA4.out HNB1).put (n0 + 1) 2 (.int .u64 (backB x.f1.f1.f0 x.f1.f1.f1)) H2A HA4.out HNB1).put (n0 + 1) 3 (.string (backT x.f1.f1.f0 x.f1.f1.f2)) H2A HA4.out HNB1); have kb6b := Aside0.mk (blk_put (blk_put (blk_put kb5.out 1 (.int .i64 x.f1.f1.f0) rfl) 2 (.int .u64 (backB x.f1.f1.f0 x.f1.f1.f1)) rfl) 3 (.string (backT x.f1.f1.f0 x.f1.f1.f2)) rfl))
                    | ((with_reducible refine gate_dst (N := 67) rfl ?_); refine wpList_took rfl (.agg #[.int .i64 x.f1.f1.f0, .int .u64 (backB x.f1.f1.f0 x.f1.f1.f1), .string (backT x.f1.f1.f0 x.f1.f1.f2)]) (by kernel_rfl) ?_)
                    | (at_builtin; refine Kd.R_append k40 (w0 := w) w.heap.size rfl (.tmp 69) (.tmp 71) 53 40 (.agg #[.int .i64 0, .int .i64 0, .int .u64 0, .string ⟨#[]⟩]) 40 rfl Try.underlying53 info40 rfl (Nat.succ_pos 3) (Nat.succ_pos 39) (.slice A4 s.data.length c4) s.data (norm (⟨x.f1.f0, x.f1.f1⟩ : S40)) [.int .i64 x.f1.f0, .int .i64 x.f1.f1.f0, .int .u64 (backB x.f1.f1.f0 x.f1.f1.f1), .string (backT x.f1.f1.f0 x.f1.f1.f2)] (fun _ => True) (fun _ => False) rfl ?_ ?_ (fun _ hk => hk.elim) (fun _ _ => trivial) ?_ ?_ ?_ ?_ ?_; (first | exact rfl | exact congrArg (fun n => Value.slice (some ⟨n,0,none⟩) 1 1) (by simp)); (exact HMK.out _ _); (exact HI6.out.dat); (exact HI6.out.bel); (exact HI6.out.bel.size); omega; intro v6 w6 hr6 hb6 hg6 hat6; have HI7 := Aside0.mk (HI6.out.data (s' := ⟨s.told ++ [true], max s.size (ende (⟨x.f1.f0, x.f1.f1⟩ : S40)), s.data ++ [norm (⟨x.f1.f0, x.f1.f1⟩ : S40)]⟩) hr6 hb6 hg6 rfl); have kb8 := Aside0.mk (blk_grown kb6b.out hg6 HA4.out); have q0 : w6.cell? ⟨n0 + 1, 0, none⟩ = some (Value.int .i64 x.f1.f0) := (blk_cell kb8.out 0).trans rfl; have q1 : w6.cell? ⟨n0 + 1, 1, none⟩ = some (Value.int .i64 x.f1.f1.f0) := (blk_cell kb8.out 1).trans rfl; have q2 : w6.cell? ⟨n0 + 1, 2, none⟩ = some (Value.int .u64 (backB x.f1.f1.f0 x.f1.f1.f1)) := (blk_cell kb8.out 2).trans rfl; have q3 : w6.cell? ⟨n0 + 1, 3, none⟩ = some (Value.string (backT x.f1.f1.f0 x.f1.f1.f2)) := (blk_cell kb8.out 3).trans rfl; clear hr6 hb6 hg6 hat6)
                    | (go_at_call 25; refine (HV.out _).mono ?_; rintro e w7 ⟨rfl, hb7⟩; replace hb7 := Aside0.mk hb7))
                exact ⟨⟨k + 1, by omega, by go_num, by rw [← HST.out, ← ifmax], ⟨by rw [← HST.out]; exact HI7.out.below hb7.out⟩⟩, by simp [intOf]; omega⟩
        · rw [h0] at y0
          have hdat : datumOf s.size x = (⟨s.size, x.f1.f1⟩ : S40) := by unfold datumOf; rw [if_pos h0]
          have hfit : fitN s x = (cok x.f1.f1.f0) := by unfold fitN; rw [hdat, h0]; simp
          rw [hdat, hfit] at hSy
          rw [hfit] at hSn
          have HSN := Lib.hid (hSn h2)
          have HSY := Lib.hid (hSy h2)
          have hA4 : some (wr.heap.size + 1) ≠ (Value.slice A4 s.data.length c4).ownBlock := fun e => by have := Kd.R_lt HI.out.dat _ e.symm; omega
          have HA4 := Aside0.mk hA4
          have HGD := Aside0.mk hgd.2
          have HCK := Lib.hid hcokd
          have HC := Lib.hid (fun (W : World) => constOKU x.f1.f1.f0 x.f1.f1.f1 x.f1.f1.f2 W)
          clear hSn hSy hS2 hfit hdat hA4 hgd hcokd h2 h0
          go_wp2_with (go_at_call 56; refine (HC.out _).mono ?_; rintro e w2 ⟨rfl, hb2⟩; have kb6 := Aside0.mk (show w2.heap[wr.heap.size]? = some (Obj.cells #[.int .i64 1, .int .i64 x.f1.f0, .int .i64 x.f1.f1.f0, .int .u64 x.f1.f1.f1, .string x.f1.f1.f2, .int .i64 x.f2] 51) from blk_below (blk_alloc (blk_new wr (Obj.cells #[.int .i64 1, .int .i64 x.f1.f0, .int .i64 x.f1.f1.f0, .int .u64 x.f1.f1.f1, .string x.f1.f1.f2, .int .i64 x.f2] 51)) (Obj.cells #[.int .i64 s.size, .int .i64 x.f1.f1.f0, .int .u64 x.f1.f1.f1, .string x.f1.f1.f2] 40)) hb2); have kb7 := Aside0.mk (show w2.heap[wr.heap.size + 1]? = some (Obj.cells #[.int .i64 s.size, .int .i64 x.f1.f1.f0, .int .u64 x.f1.f1.f1, .string x.f1.f1.f2] 40) from blk_below (blk_new1 wr (Obj.cells #[.int .i64 1, .int .i64 x.f1.f0, .int .i64 x.f1.f1.f0, .int .u64 x.f1.f1.f1, .string x.f1.f1.f2, .int .i64 x.f2] 51) (Obj.cells #[.int .i64 s.size, .int .i64 x.f1.f1.f0, .int .u64 x.f1.f1.f1, .string x.f1.f1.f2] 40)) hb2); have HI2 := Aside0.mk (HI.out.below (below_step (below_alloc (below_alloc (Below.refl wr.heap.size wr) _) _) hb2)); clear hb2)
          clear y0 y1 y2 y3 y4 y5 HC
          replace HI := HI2
          clear HI2
          generalize wr.heap.size = n0 at *
          go_loopw [8, 41] (fun v8 i w3 => ∃ j : Nat, j ≤ s.data.length ∧ i = .int .i64 j ∧ (∃ b : Bool, v8 = .bool b ∧ Aside0 (b = (cok x.f1.f1.f0))) ∧ Aside0 (Below w2.heap.size w2 w3)) (fun _ i _ => s.data.length - (intOf i).toNat)
          case atStart => exact ⟨0, Nat.zero_le _, rfl, ⟨_, rfl, ⟨by simp⟩⟩, ⟨Below.refl _ _⟩⟩
          case round =>
            obtain ⟨j, hj, rfl, ⟨b, rfl, hb⟩, HB3⟩ := hrel
            replace HI := Aside0.mk (HI.out.below HB3.out)
            replace kb6 := Aside0.mk (blk_below kb6.out HB3.out)
            replace kb7 := Aside0.mk (blk_below kb7.out HB3.out)
            have c60 : wr.cell? ⟨n0, 0, none⟩ = some (Value.int .i64 1) := (blk_cell kb6.out 0).trans rfl
            have c70 : wr.cell? ⟨n0 + 1, 0, none⟩ = some (Value.int .i64 s.size) := (blk_cell kb7.out 0).trans rfl
            have c71 : wr.cell? ⟨n0 + 1, 1, none⟩ = some (Value.int .i64 x.f1.f1.f0) := (blk_cell kb7.out 1).trans rfl
            have c72 : wr.cell? ⟨n0 + 1, 2, none⟩ = some (Value.int .u64 x.f1.f1.f1) := (blk_cell kb7.out 2).trans rfl
            have c73 : wr.cell? ⟨n0 + 1, 3, none⟩ = some (Value.string x.f1.f1.f2) := (blk_cell kb7.out 3).trans rfl
            have n60 : ∀ o, (wr.alloc o).cell? ⟨n0, 0, none⟩ = some (Value.int .i64 1) := fun o => (blk_cell (blk_alloc kb6.out o) 0).trans rfl
            have n70 : ∀ o, (wr.alloc o).cell? ⟨n0 + 1, 0, none⟩ = some (Value.int .i64 s.size) := fun o => (blk_cell (blk_alloc kb7.out o) 0).trans rfl
            have n71 : ∀ o, (wr.alloc o).cell? ⟨n0 + 1, 1, none⟩ = some (Value.int .i64 x.f1.f1.f0) := fun o => (blk_cell (blk_alloc kb7.out o) 1).trans rfl
            have n72 : ∀ o, (wr.alloc o).cell? ⟨n0 + 1, 2, none⟩ = some (Value.int .u64 x.f1.f1.f1) := fun o => (blk_cell (blk_alloc kb7.out o) 2).trans rfl
            have n73 : ∀ o, (wr.alloc o).cell? ⟨n0 + 1, 3, none⟩ = some (Value.string x.f1.f1.f2) := fun o => (blk_cell (blk_alloc kb7.out o) 3).trans rfl
            by_cases hjl : j < s.data.length
            · obtain ⟨ad4, e4, q0, q1, q2, q3⟩ := at_T40 (Kd.R_reads' HI.out.dat).2.2 (j : Int) (by omega) (by omega)
              subst e4
              simp only [Int.toNat_natCast] at q0 q1 q2 q3
              have hco := HCK.out (rd_T40 s.data j) (by simp [rd_T40, List.getD, hjl])
              have hJL : s.data.length ≤ 2000 := by omega
              cases b with
              | false =>
                generalize rd_T40 s.data j = d at *
                go_wp2
                exact ⟨⟨j + 1, by omega, by go_num, ⟨false, rfl, ⟨hb.out⟩⟩, ⟨below_alloc HB3.out _⟩⟩, by simp [intOf]; omega⟩
              | true =>
                generalize rd_T40 s.data j = d at *
                go_wp2
                exact ⟨⟨j + 1, by omega, by go_num, ⟨true, rfl, ⟨hb.out⟩⟩, ⟨below_alloc HB3.out _⟩⟩, by simp [intOf]; omega⟩
            · have hje : j = s.data.length := by omega
              have hbo := hb.out
              clear hb
              cases b with
              | false =>
                obtain rfl := HSN.out hbo.symm
                clear hbo
                go_wp2_with (first | (at_builtin; refine Kd.R_append Kd.bool (w0 := w) w.heap.size rfl (.tmp 57) (.tmp 59) 52 4 (.bool false) 1 rfl Try.underlying52 info4 rfl (Nat.succ_pos 0) (Nat.succ_pos 0) u2 s.told false [.bool false] (fun _ => True) (fun _ => False) rfl ?_ ?_ (fun _ hk => hk.elim) (fun _ _ => trivial) ?_ ?_ ?_ ?_ ?_; (first | exact rfl | exact congrArg (fun n => Value.slice (some ⟨n,0,none⟩) 1 1) (by simp)); (exact rfl); (exact HI.out.row); (exact HI.out.bel); (exact HI.out.bel.size); omega; intro v4 w4 hr4 hb4 hg4 hat4; have HI4 := Aside0.mk (HI.out.told (s' := ⟨s.told ++ [false], s.size, s.data⟩) hr4 hb4 hg4 rfl);  clear hr4 hb4 hg4 hat4))
                exact ⟨⟨k + 1, by omega, by go_num, by rw [← HST.out], ⟨by rw [← HST.out]; exact HI4.out⟩⟩, by simp [intOf]; omega⟩
              | true =>
                obtain rfl := HSY.out hbo.symm
                have hck := hbo.symm
                clear hbo
                have HP := Lib.hid (fun (W : World) => plainOpU x.f1.f1.f0 x.f1.f1.f1 x.f1.f1.f2 W hck HGD.out.1.1 HGD.out.1.2)
                unfold opC at HP
                have HV := Lib.hid (fun (W : World) => intervalU (norm (⟨s.size, x.f1.f1⟩ : S40)) W hck)
                rw [ende_norm] at HV
                have HMK := Lib.hid (fun (W : World) (ok : Nat → Prop) => k40_mkM W w.heap.size ok (norm (⟨s.size, x.f1.f1⟩ : S40)))
                unfold norm at HMK HV
                simp only [] at HMK HV
                have HNB1 : w.heap.size ≤ n0 + 1 := by omega
                go_wp2_with (first
                    | (at_builtin; refine Kd.R_append Kd.bool (w0 := w) w.heap.size rfl (.tmp 57) (.tmp 59) 52 4 (.bool false) 1 rfl Try.underlying52 info4 rfl (Nat.succ_pos 0) (Nat.succ_pos 0) u2 s.told true [.bool true] (fun _ => True) (fun _ => False) rfl ?_ ?_ (fun _ hk => hk.elim) (fun _ _ => trivial) ?_ ?_ ?_ ?_ ?_; (first | exact rfl | exact congrArg (fun n => Value.slice (some ⟨n,0,none⟩) 1 1) (by simp)); (exact rfl); (exact HI.out.row); (exact HI.out.bel); (exact HI.out.bel.size); omega; intro v4 w4 hr4 hb4 hg4 hat4; have HI4 := Aside0.mk (HI.out.told (s' := ⟨s.told ++ [true], s.size, s.data⟩) hr4 hb4 hg4 rfl); have kb4 := Aside0.mk (blk_grown kb7.out hg4 (Kd.R_ne HI.out.row kb7.out (by decide))); have H2A := Kd.R_ne HI4.out.row kb4.out (by decide); have z0 : w4.cell? ⟨n0 + 1, 0, none⟩ = some (Value.int .i64 s.size) := (blk_cell kb4.out 0).trans rfl; have z1 : w4.cell? ⟨n0 + 1, 1, none⟩ = some (Value.int .i64 x.f1.f1.f0) := (blk_cell kb4.out 1).trans rfl; have z2 : w4.cell? ⟨n0 + 1, 2, none⟩ = some (Value.int .u64 x.f1.f1.f1) := (blk_cell kb4.out 2).trans rfl; have z3 : w4.cell? ⟨n0 + 1, 3, none⟩ = some (Value.string x.f1.f1.f2) := (blk_cell kb4.out 3).trans rfl; clear hr4 hb4 hg4 hat4)
                    | (go_at_call 62; refine (HP.out _).mono ?_; rintro e w5 ⟨rfl, hb5⟩; have kb5 := Aside0.mk (blk_below kb4.out hb5); have z0 : w5.cell? ⟨n0 + 1, 0, none⟩ = some (Value.int .i64 s.size) := (blk_cell kb5.out 0).trans rfl; have z1 : w5.cell? ⟨n0 + 1, 1, none⟩ = some (Value.int .i64 x.f1.f1.f0) := (blk_cell kb5.out 1).trans rfl; have z2 : w5.cell? ⟨n0 + 1, 2, none⟩ = some (Value.int .u64 x.f1.f1.f1) := (blk_cell kb5.out 2).trans rfl; have z3 : w5.cell? ⟨n0 + 1, 3, none⟩ = some (Value.string x.f1.f1.f2) := (blk_cell kb5.out 3).trans rfl; have f1 := blk_frozen kb5.out 1; have f2 := blk_frozen kb5.out 2; have f3 := blk_frozen kb5.out 3; replace hb5 := Aside0.mk hb5; have HI6 := Aside0.mk ((((HI4.out.below hb5.out).put (n0 + 1) 1 (.int .i64 x.f1.f1.f0) H2A HA4.out HNB1).put (n0 + 1) 2 (.int .u64 (backB x.f1.f1.f0 x.f1.f1.f1)) H2A HA4.out HNB1).put (n0 + 1) 3 (.string (backT x.f1.f1.f0 x.f1.f1.f2)) H2A HA4.out HNB1); have kb6b := Aside0.mk (blk_put (blk_put (blk_put kb5.out 1 (.int .i64 x.f1.f1.f0) rfl) 2 (.int .u64 (backB x.f1.f1.f0 x.f1.f1.f1)) rfl) 3 (.string (backT x.f1.f1.f0 x.f1.f1.f2)) rfl))
                    | ((with_reducible refine gate_dst (N := 67) rfl ?_); refine wpList_took rfl (.agg #[.int .i64 x.f1.f1.f0, .int .u64 (backB x.f1.f1.f0 x.f1.f1.f1), .string (backT x.f1.f1.f0 x.f1.f1.f2)]) (by kernel_rfl) ?_)
                    | (at_builtin; refine Kd.R_append k40 (w0 := w) w.heap.size rfl (.tmp 69) (.tmp 71) 53 40 (.agg #[.int .i64 0, .int .i64 0, .int .u64 0, .string ⟨#[]⟩]) 40 rfl Try.underlying53 info40 rfl (Nat.succ_pos 3) (Nat.succ_pos 39) (.slice A4 s.data.length c4) s.data (norm (⟨s.size, x.f1.f1⟩ : S40)) [.int .i64 s.size, .int .i64 x.f1.f1.f0, .int .u64 (backB x.f1.f1.f0 x.f1.f1.f1), .string (backT x.f1.f1.f0 x.f1.f1.f2)] (fun _ => True) (fun _ => False) rfl ?_ ?_ (fun _ hk => hk.elim) (fun _ _ => trivial) ?_ ?_ ?_ ?_ ?_; (first | exact rfl | exact congrArg (fun n => Value.slice (some ⟨n,0,none⟩) 1 1) (by simp)); (exact HMK.out _ _); (exact HI6.out.dat); (exact HI6.out.bel); (exact HI6.out.bel.size); omega; intro v6 w6 hr6 hb6 hg6 hat6; have HI7 := Aside0.mk (HI6.out.data (s' := ⟨s.told ++ [true], max s.size (ende (⟨s.size, x.f1.f1⟩ : S40)), s.data ++ [norm (⟨s.size, x.f1.f1⟩ : S40)]⟩) hr6 hb6 hg6 rfl); have kb8 := Aside0.mk (blk_grown kb6b.out hg6 HA4.out); have q0 : w6.cell? ⟨n0 + 1, 0, none⟩ = some (Value.int .i64 s.size) := (blk_cell kb8.out 0).trans rfl; have q1 : w6.cell? ⟨n0 + 1, 1, none⟩ = some (Value.int .i64 x.f1.f1.f0) := (blk_cell kb8.out 1).trans rfl; have q2 : w6.cell? ⟨n0 + 1, 2, none⟩ = some (Value.int .u64 (backB x.f1.f1.f0 x.f1.f1.f1)) := (blk_cell kb8.out 2).trans rfl; have q3 : w6.cell? ⟨n0 + 1, 3, none⟩ = some (Value.string (backT x.f1.f1.f0 x.f1.f1.f2)) := (blk_cell kb8.out 3).trans rfl; clear hr6 hb6 hg6 hat6)
                    | (go_at_call 25; refine (HV.out _).mono ?_; rintro e w7 ⟨rfl, hb7⟩; replace hb7 := Aside0.mk hb7))
                exact ⟨⟨k + 1, by omega, by go_num, by rw [← HST.out, ← ifmax], ⟨by rw [← HST.out]; exact HI7.out.below hb7.out⟩⟩, by simp [intOf]; omega⟩
        · exact absurd h0 h2
    · have hkl : k = l.length := by omega
      have HI' := HI.out
      rw [hkl, List.take_length] at HI' ⊢
      go_wp2
      refine bodyPost_ret (v := .tuple #[u2, .int .i64 (nrm (runM l)).size, u4]) (by simp [results, Try.results34, go_sem]) rfl ⟨u2, u4, rfl, HI'.row, HI'.dat, HI'.bel⟩
end Go.Proofs.Ytknldfighehplaa.HSpec
