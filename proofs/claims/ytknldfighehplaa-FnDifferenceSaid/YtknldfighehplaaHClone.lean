/- Contracts of plainMasks, of the set's Add and Clone, and of impl.Cloned; conditions: the maps' entries, masks in range, at most a million. -/
import Derived.Test.YtknldfighehplaaHSortM
namespace Go.Proofs.Ytknldfighehplaa.HClone
set_option linter.unusedSimpArgs false
set_option linter.unusedVariables false
open Go.RowKit Go.Proofs.Ytknldfighehplaa.HMap Go.Proofs.Ytknldfighehplaa.HMasks Go.Proofs.Ytknldfighehplaa.HTidy Go.Proofs.Ytknldfighehplaa.HSet Go.Proofs.Ytknldfighehplaa.PFnSameMasks Go.Proofs.YtknldfighehplaaW.PrintWords Go.Proofs.YtknldfighehplaaW.PrintLast Go.Proofs.YtknldfighehplaaW.PrintMore

theorem info74 : (Try.prog.info? 74).map (fun i => (i.zero, i.size, i.bytes)) = some (some (.agg #[.int .u32 0, .int .u16 0]), 2, 8) := by kernel_rfl
theorem zero32 (w : World) : (zeroValue 32).run Try.prog w = .ok (.slice none 0 0) w := by kernel_rfl
theorem types74 : ∀ q, q ∈ 74 :: k74.E → q ≠ 32 := by
  intro q hq
  have : q = 74 := by simpa [k74, Kd.iso, Kd.pair, Kd.scalar, Kd.int] using hq
  subst this
  decide

theorem wp_range_at {α β : Type} [DecidableEq α] {P : Program} {K E : TypeId} {ke : α → Value} {ve : β → Value} {w : World} {ops : Array Oper} {rest : List Oper} {o : Oper} {a : Act} {Q : Exit → Act → World → Prop}
    (hg : o.guard = none) (m : Operand) (t : TypeId) (hop : o.op = Op.range t m) (hT : P.underlying t = some (.map K E)) (r : Nat) (l : List (α × β)) (hm : a.eval m = .map (some r)) (h : MapIs ke ve w r l) (q : Nat) (hq : w.heap.size = q)
    (hK : ∀ w', IterIs ke ve w' q r l l → w.grownBy w' none → w'.heap.size = q + 1 → wpList P ops Q rest (a.put o.dst (.pointer (some ⟨q, 0, none⟩))) w') :
    wpList P ops Q (o :: rest) a w := by
  subst hq
  exact wp_range hg m t hop hT r l hm h hK
def RowRet (w : World) (m : List (Int × Int)) (e : Ending) (w' : World) : Prop :=
  ∃ A c zs, e = .returned (.slice A zs.length c) ∧ zs.length ≤ c ∧ Kd.C k74 w' A zs.length zs ∧ (prs zs).Perm m ∧ Below w.heap.size w w'

/-- What holds between the rounds: the box with its row, the iterator, what is done and what is left. -/
structure Inv (w : World) (r : Nat) (m left : List (Int × Int)) (v : Value) (ys : List S74) (W : World) : Prop where
  box : W.heap[w.heap.size]? = some (.cells #[v] 32 (0, 0))
  row : k74.R 74 W w.heap.size (fun _ => True) v ys
  it : IterIs u32v u16v W (w.heap.size + 1) r m left
  bel : Below w.heap.size w W
  done : (prs ys ++ left).Perm m
theorem own_ne {W : World} {v : Value} {ys : List S74} {base k : Nat} (h : k74.R 74 W base (fun _ => True) v ys) (hk : ∀ cs t, W.heap[k]? ≠ some (.cells cs t (0, 0))) : some k ≠ v.ownBlock := by
  intro he
  obtain ⟨inner, ho⟩ := Kd.R_own h
  obtain ⟨cs, hc⟩ := own_typed ho k he.symm
  exact hk cs 74 hc
theorem iter_no {W : World} {q r : Nat} {m left : List (Int × Int)} (h : IterIs u32v u16v W q r m left) : (∀ cs t, W.heap[q]? ≠ some (.cells cs t (0, 0))) ∧ (∀ cs t, W.heap[r]? ≠ some (.cells cs t (0, 0))) := by
  obtain ⟨es, clock, seen, hr, hq, _⟩ := h
  exact ⟨(fun cs t e => by rw [hq] at e; cases e), (fun cs t e => by rw [hr] at e; cases e)⟩

set_option maxHeartbeats 1600000 in
theorem plainMasks (r : Nat) (m : List (Int × Int)) (w : World) (h : MapIs u32v u16v w r m) (hl : m.length ≤ 1000000) : Calls Try.prog 63 #[.map (some r)] w (RowRet w m) := by
  have H := Aside0.mk h
  have HL := Lib.hid hl
  clear h hl
  go_enter Try.func63, Try.ntmps63
  go_wp2_with (at_range; refine wp_range_at rfl _ 76 rfl Try.underlying76 r m rfl (H.out.below (below_alloc (Below.refl _ _) _)) (w.heap.size + 1) (by simp) ?_; intro w1 hit1 hg1 hs1)
  have HI0 := Aside0.mk (show Inv w r m m (.slice none 0 0) [] w1 from ⟨(hg1.block _ (by simp) (by simp)).trans (blk_new w (Obj.cells #[Value.slice none 0 0] 32)), Kd.R_nil _ _ _ _ _, hit1, (below_alloc (Below.refl _ _) _).grown hg1 (by simp) (fun j hj => by cases hj), List.Perm.refl _⟩)
  clear hit1 hg1
  go_frame
  go_loopg [4] m.length (fun g u wr => ∃ left v ys, g = left.length ∧ Aside0 (Inv w r m left v ys wr))
  case atStart => exact ⟨m, _, [], rfl, HI0⟩
  case round =>
    clear HI0
    obtain ⟨left, v, ys, hg, HI⟩ := hrel
    obtain ⟨A0, c0, rfl⟩ := Kd.R_slice HI.out.row
    go_wp2_with (at_next; refine wp_next rfl _ rfl (w.heap.size + 1) r m left rfl HI.out.it ?_ ?_)
    · intro hleft
      subst hleft
      have hd := HI.out.done
      have hb0 : wr.cell? ⟨w.heap.size, 0, none⟩ = some (Value.slice A0 ys.length c0) := (blk_cell HI.out.box 0).trans rfl
      have hyl : ys.length ≤ 1000000 := by
        have h1 := hd.length_eq
        have h2 := HL.out
        simp [prs] at h1
        omega
      have HS := Lib.hid (HSortM.sortRow w.heap.size w.heap.size (Value.slice A0 ys.length c0) ys wr HI.out.row HI.out.box (Nat.le_refl _) hyl)
      have HD := Lib.hid hd
      clear hd hyl
      go_wp2_with (go_at_call 78; refine HS.out.mono ?_; rintro e w2 ⟨rfl, A, c, zs, hv, hc, hp, hC, hbx, hb2⟩; replace hv := Lib.hid hv)
      go_ret
      have hd := HD.out
      simp only [List.append_nil] at hd
      exact ⟨A, c, zs, congrArg Ending.returned hv.out, hc, hC, (hp.map _).trans hd, HI.out.bel.trans hb2⟩
    · intro k u q1 q2 w2 he hit2 hg2 hs2 hen
      have hbx2 : w2.heap[w.heap.size]? = some (.cells #[Value.slice A0 ys.length c0] 32 (0, 0)) := (hg2.block _ (blk_lt HI.out.box) (by simp)).trans HI.out.box
      have hR2 : k74.R 74 w2 w.heap.size (fun _ => True) (Value.slice A0 ys.length c0) ys := Kd.R_mono (Kd.R_grown (Kd.R_mono (Kd.R_bound HI.out.row) (fun j hj => hj)) hg2 (fun j hj => by
        obtain ⟨_, _, _, q, _, cs, hc⟩ := hj
        rintro e
        injection e with e
        subst e
        exact (iter_no HI.out.it).1 cs q hc)) (fun _ _ => trivial)
      have hB2 : Below w.heap.size w w2 := HI.out.bel.grown hg2 HI.out.bel.size (fun j hj => by cases hj; omega)
      have hb2 : w2.cell? ⟨w.heap.size, 0, none⟩ = some (Value.slice A0 ys.length c0) := (blk_cell hbx2 0).trans rfl
      have hz2 : w.heap.size ≤ w2.heap.size := hB2.size
      have hd : ys.length + 1 ≤ 1000000 := by
        have h1 := HI.out.done.length_eq
        have h2 := HL.out
        rw [he] at h1
        simp [prs] at h1
        omega
      have hperm2 : (prs (ys ++ [⟨k, u⟩]) ++ (q1 ++ q2)).Perm m := by
        refine List.Perm.trans ?_ HI.out.done
        rw [he]
        simp only [prs, List.map_append, List.map_cons, List.map_nil, List.append_assoc]
        exact List.Perm.append_left _ (by simpa using List.perm_middle.symm)
      have hl0 : left.length = (q1 ++ q2).length + 1 := by rw [he]; simp; omega
      have HR2 := Aside0.mk hR2
      have HX2 := Aside0.mk hbx2
      have HB2 := Aside0.mk hB2
      have HD := Lib.hid hd
      have HP := Lib.hid hperm2
      have HLL := Lib.hid hl0
      have HIT := Aside0.mk hit2
      simp only [u32v, u16v] at hen ⊢
      clear hR2 hbx2 hB2 hd hperm2 hl0 hit2 he hg2 hz2 hs2
      go_wp2_with (at_builtin; refine Kd.R_append k74 (w0 := w) w.heap.size rfl (.tmp 13) (.tmp 17) 32 74 (.agg #[.int .u32 0, .int .u16 0]) 8 rfl Try.underlying32 info74 rfl (Nat.succ_pos 1) (Nat.succ_pos 7) (Value.slice A0 ys.length c0) ys ⟨k, u⟩ [.int .u32 k, .int .u16 u] (fun _ => True) (fun _ => False) rfl rfl ?_ (fun _ hk => hk.elim) (fun _ _ => trivial) ?_ ?_ ?_ ?_ ?_; (exact k74_mkM _ _ _ _); (exact HR2.out); (exact HB2.out); (exact HB2.out.size); (have := HD.out; omega); intro v4 w4 hr4 hb4 hg4 hat4; obtain ⟨A4, c4, rfl⟩ := Kd.R_slice hr4; have hbx4 := (hg4.block _ (blk_lt HX2.out) (Kd.R_ne HR2.out HX2.out (by decide))).trans HX2.out; have hb4' : w4.cell? ⟨w.heap.size, 0, none⟩ = some (Value.slice A0 ys.length c0) := (blk_cell hbx4 0).trans rfl; have hf4 := blk_frozen hbx4 0; replace hbx4 := Aside0.mk hbx4; replace hr4 := Aside0.mk hr4; replace hb4 := Aside0.mk hb4; replace hg4 := Aside0.mk hg4; clear hat4)
      go_roundg (q1 ++ q2).length
      case measure => have := HLL.out; omega
      case rel =>
        have hne : some w.heap.size ≠ (Value.slice A0 ys.length c0).ownBlock := Kd.R_ne HR2.out HX2.out (by decide)
        have hq := (iter_no HIT.out).1
        have hr := (iter_no HIT.out).2
        have hq4 : w4.heap[w.heap.size + 1]? = w2.heap[w.heap.size + 1]? := hg4.out.block _ HIT.out.lt (own_ne HR2.out hq)
        have hr4' : w4.heap[r]? = w2.heap[r]? := hg4.out.block _ HIT.out.map.lt (own_ne HR2.out hr)
        have hrw : r < w.heap.size := H.out.lt
        have hr5 : k74.R 74 w4 w.heap.size (fun _ => True) (Value.slice A4 (ys.length + 1) c4) (ys ++ [⟨k, u⟩]) := by simpa using hr4.out
        refine ⟨q1 ++ q2, _, ys ++ [⟨k, u⟩], rfl, ⟨blk_put hbx4.out 0 _ rfl, Kd.R_set hr5 hbx4.out types74 0 _, ?_, below_set hb4.out (Nat.le_refl _), HP.out⟩⟩
        refine HIT.out.same ?_ ?_
        · exact (Below.heap_setCell w4 _ _ _ (by show w.heap.size + 1 ≠ w.heap.size; omega)).trans hq4
        · exact (Below.heap_setCell w4 _ _ _ (by show r ≠ w.heap.size; omega)).trans hr4'

set_option maxHeartbeats 400000 in
/-- Add: the set as 'addE' has it. -/
theorem add (r : Nat) (m : List (Int × Int)) (k b : Int) (w : World) (h : MapIs u32v u16v w r m) :
    Calls Try.prog 80 #[.map (some r), u32v k, u16v b] w fun e w' => (∃ c, e = .returned (.bool c)) ∧ MapIs u32v u16v w' r (addE m k b) ∧ w.grownBy w' (some r) := by
  have hl := run_lookup enc60 Try.underlying76 (zero25 w) h k false
  have hg : ((lk m k).map u16v).getD (u16v 0) = u16v ((lk m k).getD 0) := by cases lk m k <;> rfl
  simp only [Bool.false_eq_true, if_false, hg] at hl
  have H := Aside0.mk h
  clear hg h
  have he : addE m k b = if Go.bits .and .u16 ((lk m k).getD 0) b = b then m else put m k (Go.bits .or .u16 ((lk m k).getD 0) b) := rfl
  have HE := Lib.hid he
  clear he
  generalize (lk m k).getD 0 = c at *
  simp only [u32v, u16v] at hl ⊢
  by_cases hc : Go.bits .and .u16 c b = b
  · have HC := Lib.hid hc
    have hb : (Go.bits .and .u16 c b == b) = true := by simpa using hc
    clear hc
    go_enter Try.func80, Try.ntmps80
    go_wp2
    go_ret
    rw [HE.out, if_pos HC.out]
    exact ⟨⟨_, rfl⟩, H.out, ⟨rfl, rfl, rfl, Nat.le_refl _, fun _ _ _ => rfl⟩⟩
  · have HC := Lib.hid hc
    have hb : (Go.bits .and .u16 c b == b) = false := by simpa using hc
    clear hc
    go_enter Try.func80, Try.ntmps80
    go_wp2_with (at_mapUpdate; refine wp_update rfl _ _ _ 76 rfl enc60 Try.underlying76 r m rfl H.out k (Go.bits .or .u16 c b) rfl rfl ?_; intro w1 hm1 hg1)
    go_ret
    rw [HE.out, if_neg HC.out]
    exact ⟨⟨_, rfl⟩, hm1, hg1⟩

/-- A set's masks are in range. -/
def inR (m : List (Int × Int)) : Prop := ∀ p ∈ m, u16ok p.2
def CloneRet (w : World) (m : List (Int × Int)) (e : Ending) (w' : World) : Prop :=
  ∃ r c, e = .returned (.map (some r)) ∧ w.heap.size ≤ r ∧ MapIs u32v u16v w' r c ∧ (∀ x, lk c x = nz (lk m x)) ∧ c.length ≤ m.length ∧ Below w.heap.size w w'

set_option maxHeartbeats 800000 in
theorem clone (r : Nat) (m : List (Int × Int)) (w : World) (h : MapIs u32v u16v w r m) (hm : inR m) : Calls Try.prog 64 #[.map (some r)] w (CloneRet w m) := by
  have H := Aside0.mk h
  have HM := Lib.hid hm
  clear h hm
  go_enter Try.func64, Try.ntmps64
  go_wp2_with (first
    | (go_at_call 68; refine (newMasks _).mono ?_; rintro e w1 ⟨rfl, rfl⟩)
    | (at_range; refine wp_range_at rfl _ 76 rfl Try.underlying76 r m rfl (H.out.below (below_alloc (Below.refl _ _) _)) (w.heap.size + 1) (by simp) ?_; intro w1 hit1 hg1 hs1))
  have hc0 : MapIs u32v u16v w1 w.heap.size [] := (MapIs.new w).grown hg1 (by simp)
  have hB1 : Below w.heap.size w w1 := (below_alloc (Below.refl _ _) _).grown hg1 (by simp) (fun j hj => by cases hj)
  clear hs1
  go_frame
  go_loopg [4] m.length (fun g u wr => ∃ left dn c, g = left.length ∧ Aside0 ((dn ++ left).Perm m) ∧ Aside0 (MapIs u32v u16v wr w.heap.size c) ∧ Aside0 (∀ x, lk c x = nz (lk dn x)) ∧ Aside0 (c.length ≤ dn.length) ∧ Aside0 (IterIs u32v u16v wr (w.heap.size + 1) r m left) ∧ Aside0 (Below w.heap.size w wr))
  case atStart => exact ⟨m, [], [], rfl, ⟨List.Perm.refl _⟩, ⟨hc0⟩, ⟨fun x => rfl⟩, ⟨Nat.le_refl _⟩, ⟨hit1⟩, ⟨hB1⟩⟩
  case round =>
    clear hit1 hg1 hc0 hB1
    obtain ⟨left, dn, c, hg, HP, HC, HL, HN, HIT, HB⟩ := hrel
    go_wp2_with (at_next; refine wp_next rfl _ rfl (w.heap.size + 1) r m left rfl HIT.out ?_ ?_)
    · intro hleft
      subst hleft
      go_wp2
      go_ret
      have hp := HP.out
      simp only [List.append_nil] at hp
      exact ⟨w.heap.size, c, rfl, Nat.le_refl _, HC.out, fun x => by rw [HL.out x, lk_perm hp H.out.nodup], by have := HN.out; rw [hp.length_eq] at this; exact this, HB.out⟩
    · intro k u q1 q2 w2 he hit2 hg2 hs2 hen
      have hC2 : MapIs u32v u16v w2 w.heap.size c := HC.out.grown hg2 (by simp)
      have hB2 : Below w.heap.size w w2 := HB.out.grown hg2 HB.out.size (fun j hj => by cases hj; omega)
      have hmem : (k, u) ∈ m := HP.out.mem_iff.1 (by rw [he]; simp)
      have hu : u16ok u := HM.out _ hmem
      have hperm2 : ((dn ++ [(k, u)]) ++ (q1 ++ q2)).Perm m := by
        refine List.Perm.trans ?_ HP.out
        rw [he, List.append_assoc]
        exact List.Perm.append_left dn (by simpa using List.perm_middle.symm)
      have hnd : lk dn k = none := by
        have h1 : (keys (dn ++ [(k, u)] ++ (q1 ++ q2))).Nodup := (List.Perm.nodup_iff (hperm2.map _)).2 H.out.nodup
        simp only [keys, List.map_append, List.map_cons, List.map_nil, List.append_assoc] at h1
        rw [List.nodup_append] at h1
        refine lk_none.2 fun hk => ?_
        exact h1.2.2 k hk k (by simp) rfl
      have hck : lk c k = none := by rw [HL.out k, hnd]; rfl
      have hl2 : ∀ x, lk (addE c k u) x = nz (lk (dn ++ [(k, u)]) x) := fun x => by
        rw [lk_addE c k u hu hck, lk_snoc dn k u x hnd, HL.out x]
        by_cases hx : x = k <;> simp [hx]
      have hn2 : (addE c k u).length ≤ (dn ++ [(k, u)]).length := by
        have := addE_length c k u
        have := HN.out
        simp; omega
      have hl0 : left.length = (q1 ++ q2).length + 1 := by rw [he]; simp; omega
      have HA := Lib.hid (add w.heap.size c k u w2 hC2)
      have HP2 := Aside0.mk hperm2
      have HL2 := Aside0.mk hl2
      have HN2 := Aside0.mk hn2
      have HLL := Lib.hid hl0
      have HIT2 := Aside0.mk hit2
      have HB2 := Aside0.mk hB2
      simp only [u32v, u16v] at hen HA ⊢
      clear hperm2 hl2 hn2 hl0 hit2 hB2 hck hnd hu hmem hC2 he hg2 hs2
      go_wp2_with (go_at_call 80; refine HA.out.mono ?_; rintro e w3 ⟨⟨b3, rfl⟩, hm3, hg3⟩; have HM3 := Aside0.mk hm3; have HG3 := Aside0.mk hg3; clear hm3 hg3)
      go_roundg (q1 ++ q2).length
      case measure => have := HLL.out; omega
      case rel =>
        have h1 := HIT2.out
        have h2 := H.out.lt
        refine ⟨q1 ++ q2, dn ++ [(k, u)], addE c k u, rfl, HP2, HM3, HL2, HN2, ⟨h1.grown HG3.out (by simp) (by intro e; injection e with e; omega)⟩, ⟨HB2.out.grown HG3.out HB2.out.size (fun j hj => by cases hj; omega)⟩⟩

theorem mapOf_length (l : List S74) : (mapOf l).length ≤ l.length := by
  have : ∀ (l : List S74) (m : List (Int × Int)), (l.foldl (fun m p => put m p.f0 p.f1) m).length ≤ m.length + l.length := by
    intro l
    induction l with
    | nil => intro m; simp
    | cons e es ih =>
      intro m
      have h1 := ih (put m e.f0 e.f1)
      have h2 := length_put m e.f0 e.f1
      simp only [List.foldl_cons, List.length_cons]
      omega
  have h := this l []
  simpa [mapOf] using h
theorem put_in {m : List (Int × Int)} {k b : Int} (hm : inR m) (hb : u16ok b) : inR (put m k b) := by
  induction m with
  | nil => intro p hp; simp [put] at hp; rw [hp]; exact hb
  | cons q m ih =>
    obtain ⟨x, y⟩ := q
    have h1 : u16ok y := hm (x, y) List.mem_cons_self
    have h2 : inR m := fun p hp => hm p (List.mem_cons_of_mem _ hp)
    by_cases hk : k = x
    · intro p hp
      simp only [put, if_pos hk] at hp
      rcases List.mem_cons.1 hp with e | e
      · rw [e]; exact hb
      · exact h2 p e
    · intro p hp
      simp only [put, if_neg hk] at hp
      rcases List.mem_cons.1 hp with e | e
      · rw [e]; exact h1
      · exact ih h2 p e
theorem mapOf_in (l : List S74) (h : ∀ e ∈ l, u16ok e.f1) : inR (mapOf l) := by
  have : ∀ (l : List S74) (m : List (Int × Int)), (∀ e ∈ l, u16ok e.f1) → inR m → inR (l.foldl (fun m p => put m p.f0 p.f1) m) := by
    intro l
    induction l with
    | nil => intro m _ h; exact h
    | cons e es ih => intro m h1 h2; exact ih _ (fun x hx => h1 x (List.mem_cons_of_mem _ hx)) (put_in h2 (h1 e List.mem_cons_self))
  exact this l [] h (fun p hp => by cases hp)

theorem implCloned (A : Option Addr) (c : Nat) (l : List S74) (w : World) (hr : Kd.C k74 w A l.length l) (hc : l.length ≤ c) (hl : l.length ≤ 1000000) (hg : ∀ e ∈ l, u16ok e.f1) :
    Calls Try.prog 35 #[.slice A l.length c] w fun e w' => ∃ B d zs, e = .returned (.slice B zs.length d) ∧ zs.length ≤ d ∧ Kd.C k74 w' B zs.length zs ∧ zs.length ≤ l.length ∧ tidy zs = tidy l ∧ Below w.heap.size w w' := by
  have H1 := Lib.hid (masks A c l w hr hc (by omega))
  have HM := Lib.hid (mapOf_in l hg)
  have HN := Lib.hid (mapOf_length l)
  have HL := Lib.hid hl
  clear hr hc hl hg
  go_enter Try.func35, Try.ntmps35
  go_wp2_with (first
    | (go_at_call 45; refine H1.out.mono ?_; rintro e w1 ⟨r1, rfl, hr1, hm1, hb1⟩; have HM1 := Aside0.mk hm1; clear hm1)
    | (go_at_call 64; refine (clone r1 _ _ HM1.out HM.out).mono ?_; rintro e w2 ⟨r2, cc, rfl, hr2, hm2, hx2, hn2, hb2⟩; have HM2 := Aside0.mk hm2; have HX2 := Aside0.mk hx2; have HN2 := Lib.hid hn2; clear hm2 hx2 hn2)
    | (go_at_call 63; refine (plainMasks r2 cc _ HM2.out (by have := HN.out; have := HN2.out; have := HL.out; omega)).mono ?_; rintro e w3 ⟨B, d, zs, rfl, hd, hC, hp, hb3⟩; have HP := Aside0.mk hp; clear hp))
  go_ret
  have hlen : zs.length = cc.length := by have := HP.out.length_eq; simpa [prs] using this
  refine ⟨B, d, zs, rfl, hd, hC, by have := HN.out; have := HN2.out; omega, ?_, below_step (below_step hb1 hb2) hb3⟩
  exact tidy_of zs (tidy l) cc HM2.out.nodup HP.out (fun x => by rw [HX2.out x, nz_nz, lk_mapOf, lk_tidy0]) (tidy_asc l)
end Go.Proofs.Ytknldfighehplaa.HClone
