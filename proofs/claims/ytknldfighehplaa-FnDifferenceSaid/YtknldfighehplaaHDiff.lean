/- Contracts of the set's Discard, DifferenceUpdate and Difference, of impl.Difference, and of the specification's maskDiscard, maskMinus and Difference; conditions: the maps' and the slices' entries, masks in range. -/
import Derived.Test.YtknldfighehplaaHClone
import Derived.StillTailTactics
namespace Go.Proofs.Ytknldfighehplaa.HDiff
set_option linter.unusedSimpArgs false
set_option linter.unusedVariables false
open Go.RowKit Go.Proofs.Ytknldfighehplaa.HMap Go.Proofs.Ytknldfighehplaa.HMasks Go.Proofs.Ytknldfighehplaa.HTidy Go.Proofs.Ytknldfighehplaa.HSet Go.Proofs.Ytknldfighehplaa.HClone Go.Proofs.Ytknldfighehplaa.PFnSameMasks Go.Proofs.YtknldfighehplaaW.PrintWords Go.Proofs.YtknldfighehplaaW.PrintLast Go.Proofs.YtknldfighehplaaW.PrintMore

theorem gb_step {w W W2 : World} {row row2 : Option Nat} (h : w.grownBy W row) (h2 : W.grownBy W2 row2) (hr : ∀ k, k < w.heap.size → some k ≠ row → some k ≠ row2) : w.grownBy W2 row := by
  obtain ⟨a1, a2, a3, a4, a5⟩ := h
  obtain ⟨b1, b2, b3, b4, b5⟩ := h2
  exact ⟨b1.trans a1, b2.trans a2, b3.trans a3, Nat.le_trans a4 b4, fun k hk hne => (b5 k (Nat.lt_of_lt_of_le hk a4) (hr k hk hne)).trans (a5 k hk hne)⟩

set_option maxHeartbeats 800000 in
/-- Discard: the set as 'disE' has it. -/
theorem discard (r : Nat) (m : List (Int × Int)) (k b : Int) (w : World) (h : MapIs u32v u16v w r m) :
    Calls Try.prog 88 #[.map (some r), u32v k, u16v b] w fun e w' => (∃ c, e = .returned (.bool c)) ∧ MapIs u32v u16v w' r (disE m k b) ∧ w.grownBy w' (some r) := by
  have hl1 := run_lookup enc60 Try.underlying76 (zero25 w) h k true
  have hl2 := run_lookup enc60 Try.underlying76 (zero25 w) h k false
  simp only [if_true, Bool.false_eq_true, if_false] at hl1 hl2
  have H := Aside0.mk h
  clear h
  cases hk : lk m k with
  | none =>
    rw [hk] at hl1 hl2
    simp only [Option.map_none, Option.getD_none, Option.isSome_none, u16v] at hl1 hl2
    have hd : disE m k b = m := by unfold disE; rw [hk]
    have HD := Lib.hid hd
    simp only [u32v, u16v] at hl1 hl2 ⊢
    clear hd hk hl2
    go_enter Try.func88, Try.ntmps88
    go_wp2
    go_ret
    rw [HD.out]
    exact ⟨⟨_, rfl⟩, H.out, World.grownBy.refl _ _⟩
  | some c =>
    rw [hk] at hl1 hl2
    simp only [Option.map_some, Option.getD_some, Option.isSome_some, u16v] at hl1 hl2
    by_cases ha : Go.bits .and .u16 c b = 0
    · have hd : disE m k b = m := by unfold disE; rw [hk]; simp only [if_pos ha]
      have HD := Lib.hid hd
      have hb : (Go.bits .and .u16 c b == 0) = true := by simpa using ha
      simp only [u32v, u16v] at hl1 hl2 ⊢
      clear hd hk hl2 ha
      go_enter Try.func88, Try.ntmps88
      go_wp2
      go_ret
      rw [HD.out]
      exact ⟨⟨_, rfl⟩, H.out, World.grownBy.refl _ _⟩
    · have hb : (Go.bits .and .u16 c b == 0) = false := by simpa using ha
      have HL3 := Lib.hid (fun (W : World) (hm : MapIs u32v u16v W r (put m k (Go.bits .andNot .u16 c b))) => run_lookup enc60 Try.underlying76 (zero25 W) hm k false)
      simp only [lk_put, if_true, Option.map_some, Option.getD_some, Bool.false_eq_true, if_false] at HL3
      by_cases hz : Go.bits .andNot .u16 c b = 0
      · have hd : disE m k b = del (put m k (Go.bits .andNot .u16 c b)) k := by unfold disE; rw [hk]; simp only [if_neg ha, if_pos hz]
        have HD := Lib.hid hd
        have hzb : (Go.bits .andNot .u16 c b == 0) = true := by simpa using hz
        simp only [u32v, u16v] at hl1 hl2 HL3 ⊢
        clear hd hk ha hz
        go_enter Try.func88, Try.ntmps88
        go_wp2_with (first
          | (at_mapUpdate; refine wp_update rfl _ _ _ 76 rfl enc60 Try.underlying76 r m rfl H.out k (Go.bits .andNot .u16 c b) rfl rfl ?_; intro w1 hm1 hg1; have hl3 := HL3.out w1 hm1; have HM1 := Aside0.mk hm1; clear hm1)
          | (at_delete; refine wp_delete rfl _ _ 76 60 rfl enc60 Try.underlying76 r _ rfl HM1.out k rfl ?_; intro w2 hm2 hg2))
        go_ret
        rw [HD.out]
        exact ⟨⟨_, rfl⟩, hm2, gb_step hg1 hg2 (fun _ _ h => h)⟩
      · have hd : disE m k b = put m k (Go.bits .andNot .u16 c b) := by unfold disE; rw [hk]; simp only [if_neg ha, if_neg hz]
        have HD := Lib.hid hd
        have hzb : (Go.bits .andNot .u16 c b == 0) = false := by simpa using hz
        simp only [u32v, u16v] at hl1 hl2 HL3 ⊢
        clear hd hk ha hz
        go_enter Try.func88, Try.ntmps88
        go_wp2_with (at_mapUpdate; refine wp_update rfl _ _ _ 76 rfl enc60 Try.underlying76 r m rfl H.out k (Go.bits .andNot .u16 c b) rfl rfl ?_; intro w1 hm1 hg1; have hl3 := HL3.out w1 hm1; have HM1 := Aside0.mk hm1; clear hm1)
        go_ret
        rw [HD.out]
        exact ⟨⟨_, rfl⟩, HM1.out, hg1⟩

theorem mns_ok {o q : Option Int} {v : Int} (h : mns o q = some v) (ho : ∀ u, o = some u → u16ok u ∧ u ≠ 0) : u16ok v ∧ v ≠ 0 := by
  cases o with
  | none => cases h
  | some c =>
    cases q with
    | none =>
      simp only [mns, Option.some.injEq] at h
      subst h
      exact ho c rfl
    | some b =>
      have h' : nz (some (Go.bits .andNot .u16 c b)) = some v := h
      obtain ⟨h1, h2⟩ := nz_some h'
      injection h1 with h1
      subst h1
      exact ⟨andNot_ok c b, h2⟩
def okM (d : List (Int × Int)) : Prop := ∀ y v, lk d y = some v → u16ok v ∧ v ≠ 0
def UpRet (w : World) (r1 : Nat) (d0 mt : List (Int × Int)) (e : Ending) (w' : World) : Prop :=
  (∃ c, e = .returned (.bool c)) ∧ (∃ d, MapIs u32v u16v w' r1 d ∧ (∀ x, lk d x = mns (lk d0 x) (lk mt x)) ∧ d.length ≤ d0.length) ∧ w.grownBy w' (some r1)

set_option maxHeartbeats 1600000 in
theorem diffUpdate (r1 r2 : Nat) (d0 mt : List (Int × Int)) (w : World) (h1 : MapIs u32v u16v w r1 d0) (h2 : MapIs u32v u16v w r2 mt) (hne : r1 ≠ r2) (hd : okM d0) (ht : inR mt) :
    Calls Try.prog 81 #[.map (some r1), .map (some r2)] w (UpRet w r1 d0 mt) := by
  have H1 := Aside0.mk h1
  have H2 := Aside0.mk h2
  have HD0 := Lib.hid hd
  have HT := Lib.hid ht
  have HNE := Lib.hid hne
  clear h1 h2 hd ht hne
  go_enter Try.func81, Try.ntmps81
  go_wp2_with (at_range; refine wp_range rfl _ 76 rfl Try.underlying76 r2 mt rfl H2.out ?_; intro w1 hit1 hg1 hs1)
  have hd1 : MapIs u32v u16v w1 r1 d0 := H1.out.grown hg1 (by simp)
  have hG1 : w.grownBy w1 (some r1) := gb_step (World.grownBy.refl _ _) hg1 (fun _ _ _ => by simp)
  clear hs1 hg1
  go_frame
  go_loopg [5] mt.length (fun g u wr => ∃ left dn d ch, g = left.length ∧ u = .bool ch ∧ Aside0 ((dn ++ left).Perm mt) ∧ Aside0 (MapIs u32v u16v wr r1 d) ∧ Aside0 (∀ x, lk d x = mns (lk d0 x) (lk dn x)) ∧ Aside0 (d.length ≤ d0.length) ∧ Aside0 (IterIs u32v u16v wr w.heap.size r2 mt left) ∧ Aside0 (w.grownBy wr (some r1)))
  case atStart => exact ⟨mt, [], d0, false, rfl, rfl, ⟨List.Perm.refl _⟩, ⟨hd1⟩, ⟨fun x => by cases lk d0 x <;> rfl⟩, ⟨Nat.le_refl _⟩, ⟨hit1⟩, ⟨hG1⟩⟩
  case round =>
    clear hit1 hG1 hd1
    obtain ⟨left, dn, d, ch, hg, rfl, HP, HC, HL, HN, HIT, HG⟩ := hrel
    go_wp2_with (at_next; refine wp_next rfl _ rfl w.heap.size r2 mt left rfl HIT.out ?_ ?_)
    · intro hleft
      subst hleft
      go_wp2
      go_ret
      have hp := HP.out
      simp only [List.append_nil] at hp
      exact ⟨⟨ch, rfl⟩, ⟨d, HC.out, fun x => by rw [HL.out x, lk_perm hp H2.out.nodup], HN.out⟩, HG.out⟩
    · intro k u q1 q2 w2 he hit2 hg2 hs2 hen
      have hr1 : r1 < w.heap.size := H1.out.lt
      have hC2 : MapIs u32v u16v w2 r1 d := HC.out.grown hg2 (by intro e; injection e with e; omega)
      have hG2 : w.grownBy w2 (some r1) := gb_step HG.out hg2 (fun j hj _ => by intro e; injection e with e; omega)
      have hmem : (k, u) ∈ mt := HP.out.mem_iff.1 (by rw [he]; simp)
      have hu : u16ok u := HT.out _ hmem
      have hperm2 : ((dn ++ [(k, u)]) ++ (q1 ++ q2)).Perm mt := by
        refine List.Perm.trans ?_ HP.out
        rw [he, List.append_assoc]
        exact List.Perm.append_left dn (by simpa using List.perm_middle.symm)
      have hnd : lk dn k = none := by
        have h1 : (keys (dn ++ [(k, u)] ++ (q1 ++ q2))).Nodup := (List.Perm.nodup_iff (hperm2.map _)).2 H2.out.nodup
        simp only [keys, List.map_append, List.map_cons, List.map_nil, List.append_assoc] at h1
        rw [List.nodup_append] at h1
        refine lk_none.2 fun hk => ?_
        exact h1.2.2 k hk k (by simp) rfl
      have hokd : ∀ y v, lk d y = some v → u16ok v ∧ v ≠ 0 := fun y v hy => mns_ok ((HL.out y).symm.trans hy) (fun x hx => HD0.out y x hx)
      have hl2 : ∀ x, lk (disE d k u) x = mns (lk d0 x) (lk (dn ++ [(k, u)]) x) := fun x => by
        rw [lk_disE d HC.out.nodup k u hu hokd, lk_snoc dn k u x hnd, HL.out x, HL.out k, hnd]
        by_cases hx : x = k
        · subst hx
          rw [if_pos rfl, if_pos rfl]
          cases lk d0 x <;> rfl
        · rw [if_neg hx, if_neg hx]
      have hn2 : (disE d k u).length ≤ d0.length := Nat.le_trans (disE_length d k u) HN.out
      have hl0 : left.length = (q1 ++ q2).length + 1 := by rw [he]; simp; omega
      have HA := Lib.hid (discard r1 d k u w2 hC2)
      have HP2 := Aside0.mk hperm2
      have HL2 := Aside0.mk hl2
      have HN2 := Aside0.mk hn2
      have HLL := Lib.hid hl0
      have HIT2 := Aside0.mk hit2
      have HG2 := Aside0.mk hG2
      simp only [u32v, u16v] at hen HA ⊢
      clear hperm2 hl2 hn2 hl0 hit2 hG2 hokd hnd hu hmem hC2 he hg2 hs2 hr1
      go_wp2_with (go_at_call 88; refine HA.out.mono ?_; rintro e w3 ⟨⟨b3, rfl⟩, hm3, hg3⟩; have HM3 := Aside0.mk hm3; have HG3 := Aside0.mk hg3; clear hm3 hg3; cases b3)
      all_goals
        go_wp2
        go_roundg (q1 ++ q2).length
        case measure => have := HLL.out; omega
        case rel =>
          have h1 := HIT2.out
          have h2 := H1.out.lt
          have h3 := HNE.out
          refine ⟨q1 ++ q2, dn ++ [(k, u)], disE d k u, _, rfl, rfl, HP2, HM3, HL2, HN2, ⟨h1.grown HG3.out (by intro e; injection e with e; omega) (by intro e; injection e with e; exact h3 e.symm)⟩, ⟨gb_step HG2.out HG3.out (fun _ _ h => h)⟩⟩

def DiffRet (w : World) (ms mt : List (Int × Int)) (e : Ending) (w' : World) : Prop :=
  ∃ r d, e = .returned (.map (some r)) ∧ MapIs u32v u16v w' r d ∧ (∀ x, lk d x = mns (nz (lk ms x)) (lk mt x)) ∧ d.length ≤ ms.length ∧ Below w.heap.size w w'
theorem difference (r1 r2 : Nat) (ms mt : List (Int × Int)) (w : World) (h1 : MapIs u32v u16v w r1 ms) (h2 : MapIs u32v u16v w r2 mt) (hs : inR ms) (ht : inR mt) :
    Calls Try.prog 65 #[.map (some r1), .map (some r2)] w (DiffRet w ms mt) := by
  have H1 := Lib.hid (clone r1 ms w h1 hs)
  have H2 := Lib.hid (fun (W : World) (r : Nat) (c : List (Int × Int)) (hb : Below w.heap.size w W) (hm : MapIs u32v u16v W r c) (hr : w.heap.size ≤ r) (hx : ∀ x, lk c x = nz (lk ms x)) =>
    diffUpdate r r2 c mt W hm (h2.below hb) (by have := h2.lt; omega) (fun y v hy => by
      obtain ⟨e1, e2⟩ := nz_some ((hx y).symm.trans hy)
      exact ⟨hs (y, v) (mem_of_lk e1), e2⟩) ht)
  clear h1 h2 hs ht
  go_enter Try.func65, Try.ntmps65
  go_wp2_with (first
    | (go_at_call 64; refine H1.out.mono ?_; rintro e w1 ⟨r, c, rfl, hr, hm, hx, hn, hb⟩; have HC := Lib.hid (H2.out w1 r c hb hm hr hx); have HX := Lib.hid hx; have HN := Lib.hid hn; clear hm hx hn)
    | (go_at_call 81; refine HC.out.mono ?_; rintro e w2 ⟨⟨b, rfl⟩, ⟨d, hm2, hx2, hn2⟩, hg2⟩; have HM2 := Aside0.mk hm2; have HX2 := Aside0.mk hx2; have HN2 := Lib.hid hn2; clear hm2 hx2 hn2))
  go_ret
  exact ⟨r, d, rfl, HM2.out, fun x => by rw [HX2.out x, HX.out x], by have := HN.out; have := HN2.out; omega, hb.grown hg2 hb.size (fun j hj => by cases hj; exact hr)⟩

theorem implDifference (A : Option Addr) (c : Nat) (l : List S74) (A1 : Option Addr) (c1 : Nat) (l1 : List S74) (w : World) (hr : Kd.C k74 w A l.length l) (hc : l.length ≤ c) (hl : l.length ≤ 1000000) (hg : ∀ e ∈ l, u16ok e.f1)
    (hr1 : Kd.C k74 w A1 l1.length l1) (hc1 : l1.length ≤ c1) (hl1 : l1.length ≤ 1000000) (hg1 : ∀ e ∈ l1, u16ok e.f1) (m : List S74) (hm : Asc m) (hx : ∀ x, lk (prs m) x = mns (nz (lastv l x)) (lastv l1 x)) :
    Calls Try.prog 36 #[.slice A l.length c, .slice A1 l1.length c1] w fun e w' => ∃ B d zs, e = .returned (.slice B zs.length d) ∧ zs.length ≤ d ∧ Kd.C k74 w' B zs.length zs ∧ zs.length ≤ l.length ∧ tidy zs = m ∧ Below w.heap.size w w' := by
  have H1 := Lib.hid (masks A c l w hr hc (by omega))
  have H2 := Lib.hid (fun (W : World) (hb : Below w.heap.size w W) => masks A1 c1 l1 W (Kd.C_below hr1 hb) hc1 (by omega))
  have HM := Lib.hid (mapOf_in l hg)
  have HM1 := Lib.hid (mapOf_in l1 hg1)
  have HN := Lib.hid (mapOf_length l)
  have HL := Lib.hid hl
  have HX := Lib.hid hx
  clear hr hc hl hg hr1 hc1 hl1 hg1 hx
  go_enter Try.func36, Try.ntmps36
  go_wp2_with (first
    | (go_at_call_of 45 (Value.slice A l.length c); refine H1.out.mono ?_; rintro e w1 ⟨ra, rfl, hra, hma, hba⟩; have HA := Aside0.mk hma; clear hma)
    | (go_at_call 45; refine (H2.out _ hba).mono ?_; rintro e w2 ⟨rb, rfl, hrb, hmb, hbb⟩; have HB := Aside0.mk hmb; clear hmb)
    | (go_at_call 65; refine (difference ra rb _ _ _ (HA.out.below hbb) HB.out HM.out HM1.out).mono ?_; rintro e w3 ⟨r2, cc, rfl, hm2, hx2, hn2, hb2⟩; have HM2 := Aside0.mk hm2; have HX2 := Aside0.mk hx2; have HN2 := Lib.hid hn2; clear hm2 hx2 hn2)
    | (go_at_call 63; refine (plainMasks r2 cc _ HM2.out (by have := HN.out; have := HN2.out; have := HL.out; omega)).mono ?_; rintro e w4 ⟨B, d, zs, rfl, hd, hC, hp, hb3⟩; have HP := Aside0.mk hp; clear hp))
  go_ret
  have hlen : zs.length = cc.length := by have := HP.out.length_eq; simpa [prs] using this
  refine ⟨B, d, zs, rfl, hd, hC, by have := HN.out; have := HN2.out; omega, ?_, below_step (below_step (below_step hba hbb) hb2) hb3⟩
  exact tidy_of zs m cc HM2.out.nodup HP.out (fun x => by rw [HX2.out x, nz_mns _ _ (nz_nz _), HX.out x, lk_mapOf, lk_mapOf]) hm

theorem disL_snoc (l : List S74) (k : Nat) (h : k < l.length) (a b : Int) : disL (l.take (k + 1)) a b = disL (l.take k) a b ++ disL [rd_T74 l k] a b := by
  have : l.take (k + 1) = l.take k ++ [rd_T74 l k] := by
    rw [List.take_succ_eq_append_getElem h]
    simp [rd_T74, List.getD, h]
  rw [this]
  unfold disL
  rw [List.map_append, List.filter_append]

set_option maxHeartbeats 1600000 in
theorem maskDiscard (A : Option Addr) (c : Nat) (l : List S74) (a b : Int) (w : World) (hr : Kd.C k74 w A l.length l) (hc : l.length ≤ c) (hl : l.length ≤ 1000000) :
    Calls Try.prog 82 #[.slice A l.length c, .int .u32 a, .int .u16 b] w fun e w' => ∃ v, e = .returned v ∧ k74.R 74 w' w.heap.size (fun _ => True) v (disL l a b) ∧ Below w.heap.size w w' := by
  have HR := Aside0.mk hr
  have HL := Lib.hid hl
  clear hr hl
  go_enter Try.func82, Try.ntmps82
  go_wp2
  go_loopw [7, 8] (fun v i wr => ∃ k : Nat, k ≤ l.length ∧ i = .int .i64 k ∧ Aside0 (k74.R 74 wr w.heap.size (fun _ => True) v (disL (l.take k) a b)) ∧ Aside0 (Below w.heap.size w wr)) (fun _ i _ => l.length - (intOf i).toNat)
  case atStart => exact ⟨0, Nat.zero_le _, rfl, ⟨Kd.R_nil _ _ _ _ _⟩, ⟨Below.refl _ _⟩⟩
  case round =>
    obtain ⟨k, hk, rfl, HO, HB⟩ := hrel
    have hL := HL.out
    by_cases hlt : k < l.length
    · obtain ⟨ad, e0, hx0, hx1⟩ := at_T74 HR.out (k : Int) (by omega) (by omega)
      subst e0
      have y0 := (HB.out.cell (World.block_lt_of_cell? w _ hx0)).trans hx0
      have y1 := (HB.out.cell (World.block_lt_of_cell? w _ hx1)).trans hx1
      clear hx0 hx1
      simp only [Int.toNat_natCast] at y0 y1
      have hs := disL_snoc l k hlt a b
      have hdl := disL_length (l.take k) a b
      have htl : (l.take k).length ≤ k := List.length_take_le _ _
      generalize hys : disL (l.take k) a b = ys at *
      clear hys
      obtain ⟨A0, c0, rfl⟩ := Kd.R_slice HO.out
      have hyl : ys.length ≤ 1000000 := by omega
      have HYL := Lib.hid hyl
      clear hdl htl hyl
      generalize hx : rd_T74 l k = x at *
      clear hx
      obtain ⟨f0, f1⟩ := x
      simp only at y0 y1
      by_cases h0 : f0 = a
      · subst h0
        by_cases h1 : Go.bits .andNot .u16 f1 b = 0
        · have hb1 : (Go.bits .andNot .u16 f1 b != 0) = false := by simp [h1]
          have hs1 : disL (l.take (k + 1)) f0 b = ys := by rw [hs]; simp [disL, h1]
          have HS := Lib.hid hs1
          clear hs hs1 h1
          go_wp2
          exact ⟨⟨k + 1, by omega, by go_num, ⟨by rw [HS.out]; exact Kd.R_below HO.out (below_alloc (Below.refl _ _) _)⟩, ⟨below_alloc HB.out _⟩⟩, by simp [intOf]; omega⟩
        · have hb1 : (Go.bits .andNot .u16 f1 b != 0) = true := by simp [h1]
          have hs1 : disL (l.take (k + 1)) f0 b = ys ++ [⟨f0, Go.bits .andNot .u16 f1 b⟩] := by rw [hs]; simp [disL, h1]
          have HS := Lib.hid hs1
          clear hs hs1 h1
          go_wp2_with (at_builtin; refine Kd.R_append k74 (w0 := w) w.heap.size ?_ (.tmp 32) (.tmp 34) 32 74 (.agg #[.int .u32 0, .int .u16 0]) 8 ?_ ?_ ?_ ?_ ?_ ?_ (Value.slice A0 ys.length c0) ys ⟨f0, Go.bits .andNot .u16 f1 b⟩ [.int .u32 f0, .int .u16 (Go.bits .andNot .u16 f1 b)] (fun _ => True) (fun _ => False) ?_ ?_ ?_ (fun _ hk => hk.elim) (fun _ _ => trivial) ?_ ?_ ?_ ?_ ?_; (exact rfl); (exact rfl); (exact Try.underlying32); (exact HClone.info74); (exact rfl); (exact Nat.succ_pos 1); (exact Nat.succ_pos 7); (exact rfl); (exact congrArg (fun n => Value.slice (some ⟨n, 0, none⟩) 1 1) (by simp)); (exact k74_mkM _ _ _ _); (exact Kd.R_below HO.out (below_alloc (Below.refl _ _) _)); (exact below_alloc HB.out _); (have := HB.out.size; simp; omega); (have := HYL.out; omega); intro v4 w4 hr4 hb4 hg4 hat4)
          exact ⟨⟨k + 1, by omega, by go_num, ⟨by rw [HS.out]; exact hr4⟩, ⟨hb4⟩⟩, by simp [intOf]; omega⟩
      · have hb0 : (f0 == a) = false := by simpa using h0
        by_cases h1 : f1 = 0
        · have hb1 : (f1 != 0) = false := by simp [h1]
          have hs1 : disL (l.take (k + 1)) a b = ys := by rw [hs]; simp [disL, h0, h1]
          have HS := Lib.hid hs1
          clear hs hs1 h1 h0
          go_wp2
          exact ⟨⟨k + 1, by omega, by go_num, ⟨by rw [HS.out]; exact Kd.R_below HO.out (below_alloc (Below.refl _ _) _)⟩, ⟨below_alloc HB.out _⟩⟩, by simp [intOf]; omega⟩
        · have hb1 : (f1 != 0) = true := by simp [h1]
          have hs1 : disL (l.take (k + 1)) a b = ys ++ [⟨f0, f1⟩] := by rw [hs]; simp [disL, h0, h1]
          have HS := Lib.hid hs1
          clear hs hs1 h1 h0
          go_wp2_with (at_builtin; refine Kd.R_append k74 (w0 := w) w.heap.size ?_ (.tmp 32) (.tmp 34) 32 74 (.agg #[.int .u32 0, .int .u16 0]) 8 ?_ ?_ ?_ ?_ ?_ ?_ (Value.slice A0 ys.length c0) ys ⟨f0, f1⟩ [.int .u32 f0, .int .u16 f1] (fun _ => True) (fun _ => False) ?_ ?_ ?_ (fun _ hk => hk.elim) (fun _ _ => trivial) ?_ ?_ ?_ ?_ ?_; (exact rfl); (exact rfl); (exact Try.underlying32); (exact HClone.info74); (exact rfl); (exact Nat.succ_pos 1); (exact Nat.succ_pos 7); (exact rfl); (exact congrArg (fun n => Value.slice (some ⟨n, 0, none⟩) 1 1) (by simp)); (exact k74_mkM _ _ _ _); (exact Kd.R_below HO.out (below_alloc (Below.refl _ _) _)); (exact below_alloc HB.out _); (have := HB.out.size; simp; omega); (have := HYL.out; omega); intro v4 w4 hr4 hb4 hg4 hat4)
          exact ⟨⟨k + 1, by omega, by go_num, ⟨by rw [HS.out]; exact hr4⟩, ⟨hb4⟩⟩, by simp [intOf]; omega⟩
    · have hkl : k = l.length := by omega
      obtain ⟨A0, c0, rfl⟩ := Kd.R_slice HO.out
      go_wp2
      go_ret
      have h1 := HO.out
      rw [hkl, List.take_length] at h1
      exact ⟨_, rfl, by rw [hkl, List.take_length]; exact h1, HB.out⟩

theorem minL_snoc (s t : List S74) (k : Nat) (h : k < t.length) : minL s (t.take (k + 1)) = disL (minL s (t.take k)) (rd_T74 t k).f0 (rd_T74 t k).f1 := by
  have : t.take (k + 1) = t.take k ++ [rd_T74 t k] := by
    rw [List.take_succ_eq_append_getElem h]
    simp [rd_T74, List.getD, h]
  rw [this]
  simp [minL, List.foldl_append]
theorem minL_length (s t : List S74) : (minL s t).length ≤ s.length := by
  unfold minL
  induction t generalizing s with
  | nil => exact Nat.le_refl _
  | cons e es ih => exact Nat.le_trans (ih _) (disL_length _ _ _)

set_option maxRecDepth 100000 in
set_option maxHeartbeats 1600000 in
theorem maskMinus (A : Option Addr) (c : Nat) (l : List S74) (A1 : Option Addr) (c1 : Nat) (t : List S74) (w : World) (hr : Kd.C k74 w A l.length l) (hc : l.length ≤ c) (hl : l.length ≤ 1000000)
    (hr1 : Kd.C k74 w A1 t.length t) (hc1 : t.length ≤ c1) (hl1 : t.length ≤ 1000000) :
    Calls Try.prog 66 #[.slice A l.length c, .slice A1 t.length c1] w fun e w' => ∃ B d, e = .returned (.slice B (minL l t).length d) ∧ (minL l t).length ≤ d ∧ Kd.C k74 w' B (minL l t).length (minL l t) ∧ Below w.heap.size w w' := by
  have HR := Aside0.mk hr
  have HR1 := Aside0.mk hr1
  have HL := Lib.hid hl
  have HL1 := Lib.hid hl1
  have HC := Lib.hid hc
  clear hr hl hr1 hl1 hc
  go_enter Try.func66, Try.ntmps66
  go_wp2
  go_loopw [0, 5] (fun v i wr => ∃ (k : Nat) (B : Option Addr) (d : Nat), k ≤ t.length ∧ i = .int .i64 k ∧ v = .slice B (minL l (t.take k)).length d ∧ Aside0 ((minL l (t.take k)).length ≤ d) ∧ Aside0 (Kd.C k74 wr B (minL l (t.take k)).length (minL l (t.take k))) ∧ Aside0 (Below w.heap.size w wr)) (fun _ i _ => t.length - (intOf i).toNat)
  case atStart => exact ⟨0, A, c, Nat.zero_le _, rfl, rfl, ⟨HC.out⟩, ⟨HR.out⟩, ⟨Below.refl _ _⟩⟩
  case round =>
    obtain ⟨k, B, d, hk, rfl, rfl, HD, HO, HB⟩ := hrel
    have hL1 := HL1.out
    by_cases hlt : k < t.length
    · obtain ⟨ad, e0, hx0, hx1⟩ := at_T74 HR1.out (k : Int) (by omega) (by omega)
      subst e0
      have y0 := (HB.out.cell (World.block_lt_of_cell? w _ hx0)).trans hx0
      have y1 := (HB.out.cell (World.block_lt_of_cell? w _ hx1)).trans hx1
      clear hx0 hx1
      simp only [Int.toNat_natCast] at y0 y1
      have hs := minL_snoc l t k hlt
      have hml := minL_length l (t.take k)
      generalize minL l (t.take k) = ys at *
      generalize rd_T74 t k = x at *
      obtain ⟨f0, f1⟩ := x
      simp only at y0 y1 hs
      have HM := Lib.hid (fun (W : World) (hb : Below wr.heap.size wr W) => maskDiscard B d ys f0 f1 W (Kd.C_below HO.out hb) HD.out (by have := HL.out; omega))
      have HS := Lib.hid hs
      have hYL := Lib.hid (Nat.le_trans hml HL.out)
      clear hs hml
      go_wp2
      go_still_tail 11, (by kernel_rfl)
      have hB1 : Below w.heap.size w wr.drew := below_drew1 HB.out
      go_wp2_with (go_at_call 82; refine (HM.out _ (below_drew1 (Below.refl _ _))).mono ?_; rintro e w1 ⟨v1, rfl, hR, hb1⟩; obtain ⟨B2, d2, rfl, hd2, hC2⟩ := Kd.R_reads hR; clear hR)
      exact ⟨⟨k + 1, B2, d2, by omega, by go_num, by rw [HS.out], ⟨by rw [HS.out]; exact hd2⟩, ⟨by rw [HS.out]; exact hC2⟩, ⟨below_step hB1 hb1⟩⟩, by simp [intOf]; omega⟩
    · have hkl : k = t.length := by omega
      subst hkl
      simp only [List.take_length] at HO HD ⊢
      go_wp2
      go_ret
      exact ⟨B, d, rfl, HD.out, HO.out, HB.out⟩

theorem specDifference (A : Option Addr) (c : Nat) (l : List S74) (A1 : Option Addr) (c1 : Nat) (t : List S74) (w : World) (hr : Kd.C k74 w A l.length l) (hc : l.length ≤ c) (hl : l.length ≤ 1000000)
    (hr1 : Kd.C k74 w A1 t.length t) (hc1 : t.length ≤ c1) (hl1 : t.length ≤ 1000000) :
    Calls Try.prog 37 #[.slice A l.length c, .slice A1 t.length c1] w fun e w' => ∃ B d, e = .returned (.slice B (minL (tidy l) (tidy t)).length d) ∧ (minL (tidy l) (tidy t)).length ≤ d ∧ Kd.C k74 w' B (minL (tidy l) (tidy t)).length (minL (tidy l) (tidy t)) ∧ Below w.heap.size w w' := by
  have H4 := Lib.hid (spec_Tidy.calls (tidyK l.length) A c l (tidy l) w hr hc (tidy_is l (by omega)))
  have H5 := Lib.hid (fun (W : World) (hb : Below w.heap.size w W) => spec_Tidy.calls (tidyK t.length) A1 c1 t (tidy t) W (Kd.C_below hr1 hb) hc1 (tidy_is t (by omega)))
  have HL := Lib.hid hl
  have HL1 := Lib.hid hl1
  have H6 := Lib.hid (fun (W : World) (B : Option Addr) (d : Nat) (B1 : Option Addr) (d1 : Nat) (hb : Kd.C k74 W B (tidy l).length (tidy l)) (hd : (tidy l).length ≤ d) (hb1 : Kd.C k74 W B1 (tidy t).length (tidy t)) (hd1 : (tidy t).length ≤ d1) =>
    maskMinus B d (tidy l) B1 d1 (tidy t) W hb hd (by have := tidy_length l; omega) hb1 hd1 (by have := tidy_length t; omega))
  clear hr hr1 hl hl1
  generalize tidy l = l' at H4 H6 ⊢
  generalize tidy t = t' at H5 H6 ⊢
  go_enter Try.func37, Try.ntmps37
  go_wp2_with (first
    | (go_at_call_of 22 (Value.slice A l.length c); refine H4.out.mono ?_; rintro e w1 ⟨v1, rfl, hR1, hb1⟩; obtain ⟨B1, d1, rfl, hd1, hC1⟩ := Kd.R_reads hR1; clear hR1)
    | (go_at_call 22; refine (H5.out _ hb1).mono ?_; rintro e w2 ⟨v2, rfl, hR2, hb2⟩; obtain ⟨B2, d2, rfl, hd2, hC2⟩ := Kd.R_reads hR2; clear hR2)
    | (go_at_call 66; refine (H6.out _ B1 d1 B2 d2 (Kd.C_below hC1 hb2) hd1 hC2 hd2).mono ?_; rintro e w3 ⟨B3, d3, rfl, hd3, hC3, hb3⟩))
  go_ret
  exact ⟨B3, d3, rfl, hd3, hC3, below_step (below_step hb1 hb2) hb3⟩
end Go.Proofs.Ytknldfighehplaa.HDiff
