/- Contracts of the cut at commas and of ParseOption, the package's and the thin one's; conditions: the first cells of the table of properties, bytes below 128, lengths in bounds. -/
import Derived.Test.YtknldfighehplaaDoorHFnTextBackEvals
namespace Go.Proofs.YtknldfighehplaaDoor.HFnTextBackRead
set_option linter.unusedSimpArgs false
set_option linter.unusedVariables false
open Go.RowKit Go.Proofs.YtknldfighehplaaDoor.HTabP Go.Proofs.YtknldfighehplaaDoor.HRegion Go.Proofs.YtknldfighehplaaDoor.HSplit Go.Proofs.YtknldfighehplaaDoor.HFnTextBackList Go.Proofs.YtknldfighehplaaDoor.HFnTextBackPlain Go.Proofs.YtknldfighehplaaDoor.HFnTextBackValid Go.Proofs.YtknldfighehplaaDoor.HFnTextBackCut Go.Proofs.YtknldfighehplaaDoor.HFnTextBackEvals Go.Proofs.YtknldfighehplaaDoor.PFnTextBack Go.Proofs.YtknldfighehplaaDoorW.PrintWords Go.Proofs.YtknldfighehplaaDoorW.PrintLast Go.Proofs.YtknldfighehplaaDoorW.PrintMore

theorem inf44 : (Tryd.prog.info? 44).map (fun i => (i.zero, i.size, i.bytes)) = some (some (.string ⟨#[]⟩), 1, 16) := by kernel_rfl
set_option maxHeartbeats 1600000 in
theorem zzSplit (s : ByteArray) (w : World) (hs : s.size ≤ 8000000000000) :
    Calls Tryd.prog 62 #[.string s, .string ⟨#[44]⟩] w fun e w' => ∃ v, e = .returned v ∧ Kd.string.R 9 w' w.heap.size (fun _ => True) v (pieces s) ∧ Below w.heap.size w w' := by
  have HS := Lib.hid hs
  have HPL := Lib.hid (pieces_length s)
  clear hs
  go_enter Tryd.func62, Tryd.ntmps62
  go_wp2
  go_loopg [0, 5] (s.size + 1) (fun g u0 u5 wr => ∃ t ys, g = t.size + 1 ∧ u0 = .string t ∧ Aside0 (t.size ≤ s.size) ∧ Aside0 (Kd.string.R 9 wr w.heap.size (fun _ => True) u5 ys) ∧ Aside0 (ys ++ pieces t = pieces s) ∧ Aside0 (Below w.heap.size w wr))
  case atStart => exact ⟨s, [], rfl, rfl, ⟨Nat.le_refl _⟩, ⟨Kd.R_nil _ _ _ _ _⟩, ⟨rfl⟩, ⟨Below.refl _ _⟩⟩
  case round =>
    obtain ⟨t, ys, hg, rfl, HT, HR, HP, HB⟩ := hrel
    obtain ⟨A0, c0, rfl⟩ := Kd.R_slice HR.out
    have hts : t.size ≤ 8000000000000 := Nat.le_trans HT.out HS.out
    have hz := zzIndex_is t (by omega)
    have hyl : ys.length + 1 ≤ 8000000000002 := by
      have h1 := congrArg List.length HP.out
      have h2 := HPL.out
      have h3 := HS.out
      have h4 : 1 ≤ (pieces t).length := by
        unfold pieces
        rw [List.length_map]
        exact List.length_pos_iff.2 (splitL_ne _ _)
      simp only [List.length_append] at h1
      omega
    have HYL := Lib.hid hyl
    have hfl := firstAt_le isComma (bs t)
    rw [bs_length] at hfl
    by_cases hi : firstAt isComma (bs t) < t.size
    · rw [if_pos hi] at hz
      have hp := pieces_yes t _ rfl hi
      generalize firstAt isComma (bs t) = i at *
      have HZ := Lib.hid (fun (W : World) => buildtags_zzIndex.calls (t.size + 1) t ⟨#[44]⟩ i W hz)
      have hp2 : (ys ++ [t.extract 0 i]) ++ pieces (t.extract (i + 1) t.size) = pieces s := by
        rw [← HP.out, hp]; simp
      have HP2 := Aside0.mk hp2
      have hsz : (t.extract (i + 1) t.size).size = t.size - (i + 1) := by rw [ByteArray.size_extract]; omega
      have HSZ := Lib.hid hsz
      clear hp hp2 hz hsz hyl hfl
      go_wp2_with (first
        | (go_at_call 71; refine (HZ.out _).mono ?_; rintro e w1 ⟨rfl, hd1⟩)
        | (at_builtin; refine Kd.R_append Kd.string (w0 := w) w.heap.size ?_ (.tmp 46) (.tmp 50) 22 9 (.string ⟨#[]⟩) 16 ?_ ?_ ?_ ?_ ?_ ?_ (Value.slice A0 ys.length c0) ys (t.extract 0 i) [.string (t.extract 0 i)] (fun _ => True) (fun _ => False) ?_ ?_ ?_ (fun _ hk => hk.elim) (fun _ _ => trivial) ?_ ?_ ?_ ?_ ?_; (exact rfl); (exact rfl); (exact Tryd.underlying22); (exact inf9); (exact rfl); (exact Nat.succ_pos 0); (exact Nat.succ_pos 15); (exact rfl); (exact rfl); (exact string_M _ _ _ _); (exact Kd.R_below HR.out hd1.below); (exact below_step HB.out hd1.below); (have := HB.out.size; have := hd1.below.size; omega); (have := HYL.out; omega); intro v4 w4 hr4 hb4 hg4 hat4; have HR4 := Aside0.mk hr4; have HB4 := Aside0.mk hb4; clear hr4 hb4 hg4 hat4))
      go_roundg (t.size - (i + 1) + 1)
      case measure => omega
      case rel => exact ⟨_, _, by rw [HSZ.out], rfl, ⟨by rw [HSZ.out]; have := HT.out; omega⟩, HR4, HP2, HB4⟩
    · rw [if_neg hi] at hz
      have hp := pieces_no t (by omega)
      have HZ := Lib.hid (fun (W : World) => buildtags_zzIndex.calls (t.size + 1) t ⟨#[44]⟩ (-1) W hz)
      have hp2 : ys ++ [t] = pieces s := by rw [← HP.out, hp]
      have HP2 := Aside0.mk hp2
      clear hp hp2 hz hyl hfl hi
      go_wp2_with (first
        | (go_at_call 71; refine (HZ.out _).mono ?_; rintro e w1 ⟨rfl, hd1⟩)
        | (at_builtin; refine Kd.R_append Kd.string (w0 := w) w.heap.size ?_ (.tmp 42) (.tmp 44) 22 9 (.string ⟨#[]⟩) 16 ?_ ?_ ?_ ?_ ?_ ?_ (Value.slice A0 ys.length c0) ys t [.string t] (fun _ => True) (fun _ => False) ?_ ?_ ?_ (fun _ hk => hk.elim) (fun _ _ => trivial) ?_ ?_ ?_ ?_ ?_; (exact rfl); (exact rfl); (exact Tryd.underlying22); (exact inf9); (exact rfl); (exact Nat.succ_pos 0); (exact Nat.succ_pos 15); (exact rfl); (exact rfl); (exact string_M _ _ _ _); (exact Kd.R_below HR.out hd1.below); (exact below_step HB.out hd1.below); (have := HB.out.size; have := hd1.below.size; omega); (have := HYL.out; omega); intro v4 w4 hr4 hb4 hg4 hat4; have HR4 := Aside0.mk hr4; have HB4 := Aside0.mk hb4; clear hr4 hb4 hg4 hat4))
      go_ret
      exact ⟨_, rfl, by rw [← HP2.out]; exact HR4.out, HB4.out⟩

/-- nil, or an error, as a value. -/
def ErrV (b : Bool) (v : Value) : Prop := match b with | true => v = .nilIface | false => ∃ T u, v = .iface T u
theorem errV_of {b : Bool} {e : Ending} (h : ErrIs b e) : ∃ v, e = .returned v ∧ ErrV b v := by
  cases b with
  | true => exact ⟨_, h, rfl⟩
  | false =>
    obtain ⟨T, u, rfl⟩ := h
    exact ⟨_, rfl, T, u, rfl⟩
theorem R_made (W : World) (base g e : Nat) (hb : base ≤ g) (hg : W.heap[g]? = some (.cells #[] e (0, 0))) : Kd.string.R e W base (fun _ => True) (.slice (some ⟨g, 0, none⟩) 0 0) [] :=
  ⟨fun _ _ => trivial, [], ⟨rfl, .inr ⟨g, 0, #[], rfl, hb, hg, Nat.le_refl _, by unfold maxLen; omega, rfl, rfl⟩⟩, Reps.none _ _⟩

/-- The same, the row its own. -/
def OptRetR (w : World) (l : List ByteArray) (b : Bool) (e : Ending) (w' : World) : Prop :=
  ∃ A c v, e = .returned (.tuple #[.slice A l.length c, v]) ∧ ErrV b v ∧ Kd.string.R 44 w' w.heap.size (fun _ => True) (.slice A l.length c) l ∧ Below w.heap.size w w'
def OptRet (w : World) (l : List ByteArray) (b : Bool) (e : Ending) (w' : World) : Prop :=
  ∃ A c v, e = .returned (.tuple #[.slice A l.length c, v]) ∧ ErrV b v ∧ l.length ≤ c ∧ Kd.C Kd.string w' A l.length l ∧ Below w.heap.size w w'

set_option maxHeartbeats 1600000 in
theorem parseOptionR (s : ByteArray) (w : World) (hs : s.size ≤ 8000000000000) (hp1 : (pieces s).length ≤ 1000001) (hp2 : ∀ x ∈ pieces s, x.size ≤ 2147483647) (ha : ascii s = true) (hT : TabP w) :
    Calls Tryd.prog 40 #[.string s] w (OptRetR w (pieces s) ((pieces s).all valid)) := by
  have HZ := Lib.hid (fun (W : World) => zzSplit s W hs)
  have HV := Lib.hid (fun (W : World) (A : Option Addr) (c : Nat) (hb : Below w.heap.size w W) (hr : Kd.C Kd.string W A (pieces s).length (pieces s)) (hc : (pieces s).length ≤ c) =>
    optValidate A c (pieces s) W hr hc (by omega) (pieces_ascii s ha) hp2 (hT.below hb))
  have HPL := Lib.hid (hp1)
  clear hs hp1 hp2 ha hT
  generalize (pieces s).all valid = b at *
  generalize pieces s = l at *
  go_enter Tryd.func40, Tryd.ntmps40
  go_wp2_with (go_at_call 62; refine (HZ.out _).mono ?_; rintro e w1 ⟨v1, rfl, hR1, hb1⟩; obtain ⟨A1, c1, rfl⟩ := Kd.R_slice hR1)
  have hR0 := Aside0.mk (R_made w1 w.heap.size w.heap.size 44 (Nat.le_refl _) (blk_below (blk_new w (Obj.cells #[] 44)) hb1))
  have hB1 := Aside0.mk (below_step (below_alloc (Below.refl w.heap.size w) (Obj.cells #[] 44)) hb1)
  have hl1 : w.heap.size ≤ (w.alloc (Obj.cells #[] 44)).heap.size := by simp
  have HC1 := Aside0.mk (Kd.R_lower hR1 hl1)
  clear hb1 hR1 hl1
  go_loopw [4, 11] (fun v i wr => ∃ k : Nat, k ≤ l.length ∧ i = .int .i64 k ∧ Aside0 (Kd.string.R 44 wr w.heap.size (fun _ => True) v (l.take k)) ∧ Aside0 (Kd.string.R 9 wr w.heap.size (fun _ => True) (.slice A1 l.length c1) l) ∧ Aside0 (Below w.heap.size w wr)) (fun _ i _ => l.length - (intOf i).toNat)
  case atStart => exact ⟨0, Nat.zero_le _, rfl, hR0, HC1, hB1⟩
  case round =>
    clear hR0 hB1 HC1
    obtain ⟨k, hk, rfl, HR, HC, HB⟩ := hrel
    have hpl := HPL.out
    by_cases hlt : k < l.length
    · obtain ⟨ad, e0, y0⟩ := Kd.at_string (Kd.R_reads' HC.out).2.2 (k : Int) (by omega) (by omega)
      subst e0
      simp only [Int.toNat_natCast] at y0
      have hs : l.take (k + 1) = l.take k ++ [rdOf ByteArray.empty l k] := by
        rw [List.take_succ_eq_append_getElem hlt]
        simp [rdOf, List.getD, hlt]
      generalize rdOf ByteArray.empty l (k : Int) = x at *
      have htl : (l.take k).length = k := by simp; omega
      have HS := Lib.hid hs
      generalize l.take k = ys at *
      obtain ⟨A0, c0, rfl⟩ := Kd.R_slice HR.out
      have HTL := Lib.hid htl
      clear hs htl
      go_wp2_with (at_builtin; refine Kd.R_append Kd.string (w0 := w) w.heap.size ?_ (.tmp 15) (.tmp 17) 55 44 (.string ⟨#[]⟩) 16 ?_ ?_ ?_ ?_ ?_ ?_ (Value.slice A0 ys.length c0) ys x [.string x] (fun _ => True) (fun _ => False) ?_ ?_ ?_ (fun _ hk => hk.elim) (fun _ _ => trivial) ?_ ?_ ?_ ?_ ?_; (exact rfl); (exact rfl); (exact Tryd.underlying55); (exact inf44); (exact rfl); (exact Nat.succ_pos 0); (exact Nat.succ_pos 15); (exact rfl); (exact rfl); (exact string_M _ _ _ _); (exact HR.out); (exact HB.out); (exact HB.out.size); (have := HTL.out; omega); intro v4 w4 hr4 hb4 hg4 hat4; have HR4 := Aside0.mk hr4; have HB4 := Aside0.mk hb4; have HG4 := Aside0.mk hg4; clear hr4 hb4 hg4 hat4)
      refine ⟨⟨k + 1, by omega, by go_num, ⟨by rw [HS.out]; exact HR4.out⟩, ⟨Kd.R_over HC.out HR.out ?_ HG4.out⟩, HB4⟩, by simp [intOf]; omega⟩
      intro q hq
      have : q = 9 := by simpa [Kd.string, Kd.scalar] using hq
      subst this
      decide
    · have hkl : k = l.length := by omega
      subst hkl
      simp only [List.take_length] at HR
      obtain ⟨A0, c0, rfl⟩ := Kd.R_slice HR.out
      obtain ⟨_, hc0, hC0⟩ := Kd.R_reads' HR.out
      have hv := HV.out wr A0 c0 HB.out hC0 hc0
      have HVV := Lib.hid hv
      have HC0 := Aside0.mk hC0
      clear hv hC0
      go_wp2_with (go_at_call 63; refine HVV.out.mono ?_; rintro e w1 ⟨he, hb1⟩; obtain ⟨v, rfl, hv⟩ := errV_of he; clear he)
      go_ret2
      exact ⟨A0, c0, v, rfl, hv, Kd.R_below HR.out hb1, below_step HB.out hb1⟩
theorem parseOption (s : ByteArray) (w : World) (hs : s.size ≤ 8000000000000) (hp1 : (pieces s).length ≤ 1000001) (hp2 : ∀ x ∈ pieces s, x.size ≤ 2147483647) (ha : ascii s = true) (hT : TabP w) :
    Calls Tryd.prog 40 #[.string s] w (OptRet w (pieces s) ((pieces s).all valid)) :=
  (parseOptionR s w hs hp1 hp2 ha hT).mono fun e w' ⟨A, c, v, he, hv, hR, hb⟩ => by
    obtain ⟨_, hc, hC⟩ := Kd.R_reads' hR
    exact ⟨A, c, v, he, hv, hc, hC, hb⟩

def ImplRet (w : World) (l : List ByteArray) (b : Bool) (e : Ending) (w' : World) : Prop :=
  ∃ A c, e = .returned (.tuple #[.slice A l.length c, .bool b]) ∧ l.length ≤ c ∧ Kd.C Kd.string w' A l.length l ∧ Below w.heap.size w w'
set_option maxHeartbeats 1600000 in
theorem implParse (s : ByteArray) (w : World) (hs : s.size ≤ 8000000000000) (hp1 : (pieces s).length ≤ 1000001) (hp2 : ∀ x ∈ pieces s, x.size ≤ 2147483647) (ha : ascii s = true) (hT : TabP w) :
    Calls Tryd.prog 16 #[.string s] w (ImplRet w (pieces s) ((pieces s).all valid)) := by
  have H1 := Lib.hid (parseOption s w hs hp1 hp2 ha hT)
  have HP := Lib.hid (fun (W : World) (A : Option Addr) (c : Nat) (hc : (pieces s).length ≤ c) (hr : Kd.C Kd.string W A (pieces s).length (pieces s)) => impl_plainOption.calls ((pieces s).length + 1) A c (pieces s) (pieces s) W hr hc (plain_is _ (by omega)))
  clear hs hp1 hp2 ha hT
  generalize (pieces s).all valid = b at *
  generalize pieces s = l at *
  cases b with
  | true =>
    go_enter Tryd.func16, Tryd.ntmps16
    go_wp2_with (go_at_call 40; refine H1.out.mono ?_; rintro e w1 ⟨A, c, v, rfl, hv, hc, hC, hb⟩; have HC := Aside0.mk hC; clear hC; simp only [ErrV] at hv; obtain rfl := hv)
    refine wp_region_any (by kernel_rfl) ?_
    try (change wpAny _ _ _ _ _ _ _ (World.drew _))
    refine take_d (i := 0) 11 (v := ?_) rfl (by kernel_rfl) (by kernel_rfl) (by kernel_rfl) (by kernel_rfl) (fun _ _ _ h => h) (Or.inl ⟨by kernel_rfl, ?_⟩) ?_
    rotate_left
    · intro w; go_simp
      try with_reducible rfl
    try simp only [Act.put, List.setIfInBounds_toArray, List.set_cons_zero, List.set_cons_succ]
    refine take_d (i := 2) 13 (v := ?_) rfl (by kernel_rfl) (by kernel_rfl) (by kernel_rfl) (by kernel_rfl) (fun _ _ _ h => h) (Or.inl ⟨by kernel_rfl, ?_⟩) ?_
    rotate_left
    · intro w; go_simp
      try with_reducible rfl
    try simp only [Act.put, List.setIfInBounds_toArray, List.set_cons_zero, List.set_cons_succ]
    refine take_d (i := 3) 14 (v := ?_) rfl (by kernel_rfl) (by kernel_rfl) (by kernel_rfl) (by kernel_rfl) (fun _ _ _ h => h) (Or.inl ⟨by kernel_rfl, ?_⟩) ?_
    rotate_left
    · intro w; go_simp
      try with_reducible rfl
    try simp only [Act.put, List.setIfInBounds_toArray, List.set_cons_zero, List.set_cons_succ]
    refine run_d (i := 1) 12 rfl (by kernel_rfl) (by kernel_rfl) (by kernel_rfl) (fun K hK => ?_)
    go_simp
    go_at_call 41
    refine (HP.out _ A c hc (Kd.C_below HC.out (below_drew1 (Below.refl _ _)))).mono ?_
    rintro e w2 ⟨v2, rfl, hR2, hb2⟩
    obtain ⟨A2, c2, rfl, hc2, hC2⟩ := Kd.R_reads hR2
    refine hK _ _ ?_
    clear hK K
    try simp only [Act.put, List.setIfInBounds_toArray, List.set_cons_zero, List.set_cons_succ]
    refine take_d (i := 4) 2 (v := ?_) rfl (by kernel_rfl) (by kernel_rfl) (by kernel_rfl) (by kernel_rfl) (fun _ _ _ h => h) (Or.inl ⟨by kernel_rfl, ?_⟩) ?_
    rotate_left
    · intro w; go_simp
      try with_reducible rfl
    try simp only [Act.put, List.setIfInBounds_toArray, List.set_cons_zero, List.set_cons_succ]
    refine take_d (i := 5) 3 (v := ?_) rfl (by kernel_rfl) (by kernel_rfl) (by kernel_rfl) (by kernel_rfl) (fun _ _ _ h => h) (Or.inl ⟨by kernel_rfl, ?_⟩) ?_
    rotate_left
    · intro w; go_simp
      try with_reducible rfl
    try simp only [Act.put, List.setIfInBounds_toArray, List.set_cons_zero, List.set_cons_succ]
    refine wpAny_done (by kernel_rfl) ?_ _
    go_wp2
    go_ret2
    exact ⟨A2, c2, rfl, hc2, hC2, below_step hb (below_step (below_drew1 (Below.refl _ _)) hb2)⟩
  | false =>
    go_enter Tryd.func16, Tryd.ntmps16
    go_wp2_with (go_at_call 40; refine H1.out.mono ?_; rintro e w1 ⟨A, c, v, rfl, hv, hc, hC, hb⟩; have HC := Aside0.mk hC; clear hC; simp only [ErrV] at hv; obtain ⟨T, u, rfl⟩ := hv)
    refine wp_region_any (by kernel_rfl) ?_
    try (change wpAny _ _ _ _ _ _ _ (World.drew _))
    refine take_d (i := 0) 11 (v := ?_) rfl (by kernel_rfl) (by kernel_rfl) (by kernel_rfl) (by kernel_rfl) (fun _ _ _ h => h) (Or.inl ⟨by kernel_rfl, ?_⟩) ?_
    rotate_left
    · intro w; go_simp
      try with_reducible rfl
    try simp only [Act.put, List.setIfInBounds_toArray, List.set_cons_zero, List.set_cons_succ]
    refine take_d (i := 2) 13 (v := ?_) rfl (by kernel_rfl) (by kernel_rfl) (by kernel_rfl) (by kernel_rfl) (fun _ _ _ h => h) (Or.inl ⟨by kernel_rfl, ?_⟩) ?_
    rotate_left
    · intro w; go_simp
      try with_reducible rfl
    try simp only [Act.put, List.setIfInBounds_toArray, List.set_cons_zero, List.set_cons_succ]
    refine take_d (i := 3) 14 (v := ?_) rfl (by kernel_rfl) (by kernel_rfl) (by kernel_rfl) (by kernel_rfl) (fun _ _ _ h => h) (Or.inl ⟨by kernel_rfl, ?_⟩) ?_
    rotate_left
    · intro w; go_simp
      try with_reducible rfl
    try simp only [Act.put, List.setIfInBounds_toArray, List.set_cons_zero, List.set_cons_succ]
    refine run_d (i := 1) 12 rfl (by kernel_rfl) (by kernel_rfl) (by kernel_rfl) (fun K hK => ?_)
    go_simp
    go_at_call 41
    refine (HP.out _ A c hc (Kd.C_below HC.out (below_drew1 (Below.refl _ _)))).mono ?_
    rintro e w2 ⟨v2, rfl, hR2, hb2⟩
    obtain ⟨A2, c2, rfl, hc2, hC2⟩ := Kd.R_reads hR2
    refine hK _ _ ?_
    clear hK K
    try simp only [Act.put, List.setIfInBounds_toArray, List.set_cons_zero, List.set_cons_succ]
    refine take_d (i := 4) 2 (v := ?_) rfl (by kernel_rfl) (by kernel_rfl) (by kernel_rfl) (by kernel_rfl) (fun _ _ _ h => h) (Or.inl ⟨by kernel_rfl, ?_⟩) ?_
    rotate_left
    · intro w; go_simp
      try with_reducible rfl
    try simp only [Act.put, List.setIfInBounds_toArray, List.set_cons_zero, List.set_cons_succ]
    refine take_d (i := 5) 3 (v := ?_) rfl (by kernel_rfl) (by kernel_rfl) (by kernel_rfl) (by kernel_rfl) (fun _ _ _ h => h) (Or.inl ⟨by kernel_rfl, ?_⟩) ?_
    rotate_left
    · intro w; go_simp
      try with_reducible rfl
    try simp only [Act.put, List.setIfInBounds_toArray, List.set_cons_zero, List.set_cons_succ]
    refine wpAny_done (by kernel_rfl) ?_ _
    go_wp2
    go_ret2
    exact ⟨A2, c2, rfl, hc2, hC2, below_step hb (below_step (below_drew1 (Below.refl _ _)) hb2)⟩
end Go.Proofs.YtknldfighehplaaDoor.HFnTextBackRead
