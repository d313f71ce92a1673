/- Contracts of SetTags, Term.Evaluate, impl.TermValid and impl.TermEvaluate; conditions: the first cells of the table of properties, bytes below 128, the slice's cells as they were read. -/
import Derived.Test.YtknldfighehplaaDoorHFnTextBackValid
import Derived.Test.YtknldfighehplaaDoorHMap
import Derived.Test.YtknldfighehplaaDoorHRegion
namespace Go.Proofs.YtknldfighehplaaDoor.HFnTextBackEval
set_option linter.unusedSimpArgs false
set_option linter.unusedVariables false
open Go.RowKit Go.Proofs.YtknldfighehplaaDoor.HTabP Go.Proofs.YtknldfighehplaaDoor.HRegion Go.Proofs.YtknldfighehplaaDoor.HMap Go.Proofs.YtknldfighehplaaDoor.HFnTextBackPlain Go.Proofs.YtknldfighehplaaDoor.HFnTextBackValid Go.Proofs.YtknldfighehplaaDoor.PFnTextBack Go.Proofs.YtknldfighehplaaDoorW.PrintWords Go.Proofs.YtknldfighehplaaDoorW.PrintLast Go.Proofs.YtknldfighehplaaDoorW.PrintMore

def ks (s : ByteArray) : Value := .string s
def vb (b : Bool) : Value := .bool b
theorem beq_bytes (a b : ByteArray) : (a == b) = decide (a = b) := by
  cases a with
  | mk x => cases b with
    | mk y =>
      rw [Bool.eq_iff_iff, decide_eq_true_eq, ByteArray.mk.injEq]
      show (x == y) = true ↔ x = y
      exact beq_iff_eq
theorem enc9 : KeyEnc Tryd.prog 9 ks := by
  refine ⟨⟨_, Tryd.underlying9, fun a b => ?_⟩, fun a => ?_, fun e w a => ?_⟩
  · simp [Instr.sameNow, ks, beq_bytes]
  · simp [Instr.sameBits, ks, beq_bytes]
  · exact MapKept.run_checkKey Tryd.underlying9 (by simp [ks, MapKept.IsKey]) e 9999
theorem zero4 (w : World) : (zeroValue 4).run Tryd.prog w = .ok (vb false) w := by kernel_rfl

/-- The tags as a map. -/
def mapT (l : List ByteArray) : List (ByteArray × Bool) := l.foldl (fun m x => put m x true) []
theorem mapT_snoc (l : List ByteArray) (k : Nat) (h : k < l.length) : mapT (l.take (k + 1)) = put (mapT (l.take k)) (rdOf ByteArray.empty l k) true := by
  have : l.take (k + 1) = l.take k ++ [rdOf ByteArray.empty l k] := by
    rw [List.take_succ_eq_append_getElem h]
    simp [rdOf, List.getD, h]
  rw [this]
  simp [mapT, List.foldl_append]
theorem lk_mapT (l : List ByteArray) (x : ByteArray) : ((lk (mapT l) x).getD false) = l.any fun y => decide (y = x) := by
  have : ∀ (l : List ByteArray) (m : List (ByteArray × Bool)), ((lk (l.foldl (fun m x => put m x true) m) x).getD false) = ((lk m x).getD false || l.any fun y => decide (y = x)) := by
    intro l
    induction l with
    | nil => intro m; simp
    | cons e es ih =>
      intro m
      simp only [List.foldl_cons, List.any_cons]
      rw [ih, lk_put]
      by_cases h : x = e
      · simp [h]
      · have h' : ¬ e = x := fun q => h q.symm
        simp [h, h']
  have h := this l []
  simpa [mapT, lk] using h

def TagRet (w : World) (l : List ByteArray) (e : Ending) (w' : World) : Prop :=
  ∃ r, e = .returned (.map (some r)) ∧ w.heap.size ≤ r ∧ MapIs ks vb w' r (mapT l) ∧ Below w.heap.size w w'
set_option maxHeartbeats 800000 in
theorem setTags (A : Option Addr) (c : Nat) (l : List ByteArray) (w : World) (hr : Kd.C Kd.string w A l.length l) (hc : l.length ≤ c) (hl : l.length ≤ 9223372036854775807) :
    Calls Tryd.prog 38 #[.slice A l.length c] w (TagRet w l) := by
  have HR := Aside0.mk hr
  have hmm := @run_makeMap Tryd.prog
  clear hr
  go_enter Tryd.func38, Tryd.ntmps38
  go_wp2
  go_loopw [9] (fun i wr => ∃ k : Nat, k ≤ l.length ∧ i = .int .i64 k ∧ Aside0 (MapIs ks vb wr w.heap.size (mapT (l.take k))) ∧ Aside0 (Below w.heap.size w wr)) (fun i _ => l.length - (intOf i).toNat)
  case atStart => exact ⟨0, Nat.zero_le _, rfl, ⟨MapIs.new w⟩, ⟨below_alloc (Below.refl _ _) _⟩⟩
  case round =>
    obtain ⟨k, hk, rfl, HM, HB⟩ := hrel
    by_cases hlt : k < l.length
    · obtain ⟨ad, e0, hx0⟩ := Kd.at_string HR.out (k : Int) (by omega) (by omega)
      subst e0
      have y0 := (HB.out.cell (World.block_lt_of_cell? w _ hx0)).trans hx0
      have hs := mapT_snoc l k hlt
      simp only [Int.toNat_natCast] at y0
      generalize rdOf ByteArray.empty l ↑k = x0 at *
      have hsn := Lib.hid hs
      clear hs hx0
      go_wp2_with (at_mapUpdate; refine wp_update rfl _ _ _ 51 rfl enc9 Tryd.underlying51 w.heap.size _ rfl HM.out x0 true rfl rfl ?_; intro w1 hm1 hg1)
      have hB2 : Below w.heap.size w w1 := HB.out.grown hg1 HB.out.size (fun j hj => by cases hj; exact Nat.le_refl _)
      exact ⟨⟨k + 1, by omega, by go_num, ⟨by rw [hsn.out]; exact hm1⟩, ⟨hB2⟩⟩, by simp [intOf]; omega⟩
    · have hkl : k = l.length := by omega
      subst hkl
      simp only [List.take_length] at HM ⊢
      go_wp2
      go_ret
      exact ⟨_, rfl, Nat.le_refl _, HM.out, HB.out⟩

set_option maxHeartbeats 1600000 in
/-- Evaluate: valid, and in the map just where it is not negated. -/
theorem evaluate (s : ByteArray) (r : Nat) (m : List (ByteArray × Bool)) (w : World) (ha : ascii s = true) (hs : s.size ≤ 2147483647) (hT : TabP w) (hm : MapIs ks vb w r m) :
    Calls Tryd.prog 37 #[.string s, .map (some r)] w fun e w' => e = .returned (.bool (valid s && ((lk m (nameOf s)).getD false == !negOf s))) ∧ Below w.heap.size w w' := by
  have HV := Lib.hid (fun (W : World) (hb : Below w.heap.size w W) => validate s W ha hs (hT.below hb))
  have HN := Lib.hid (fun (W : World) => buildtags_Term_Name.calls s (nameOf s) W (name_is s))
  have HG := Lib.hid (fun (W : World) => buildtags_Term_IsNegated.calls s (negOf s) W (isNegated_is s))
  have hlk : ∀ W, Below w.heap.size w W → (Instr.lookup 51 (.map (some r)) (.string (nameOf s)) false).run Tryd.prog W = .ok (.bool ((lk m (nameOf s)).getD false)) W := fun W hb => by
    have h1 := run_lookup enc9 Tryd.underlying51 (zero4 W) (hm.below hb) (nameOf s) false
    have h2 : ((lk m (nameOf s)).map vb).getD (vb false) = .bool ((lk m (nameOf s)).getD false) := by cases lk m (nameOf s) <;> rfl
    simp only [Bool.false_eq_true, if_false, h2] at h1
    exact h1
  have HL := Lib.hid hlk
  clear hlk hm ha hs hT
  generalize (lk m (nameOf s)).getD false = b at *
  generalize nameOf s = n at *
  generalize negOf s = g at *
  cases hv : valid s with
  | false =>
    rw [hv] at HV
    simp only [ErrIs] at HV
    go_enter Tryd.func37, Tryd.ntmps37
    go_wp2
    refine wp_region_any (by kernel_rfl) ?_
    try (change wpAny _ _ _ _ _ _ _ (World.drew _))
    refine take_d (i := 0) 5 (v := ?_) rfl (by kernel_rfl) (by kernel_rfl) (by kernel_rfl) (by kernel_rfl) (fun _ _ _ h => h) (Or.inl ⟨by kernel_rfl, ?_⟩) ?_
    rotate_left
    · intro w; go_simp
      try with_reducible rfl
    try simp only [Act.put, List.setIfInBounds_toArray, List.set_cons_zero, List.set_cons_succ]
    refine run_d (i := 1) 6 rfl (by kernel_rfl) (by kernel_rfl) (by kernel_rfl) (fun K hK => ?_)
    go_simp
    go_at_call 36
    refine (HV.out _ (below_drew1 (Below.refl _ _))).mono ?_
    rintro e w1 ⟨⟨T, v, rfl⟩, hb1⟩
    refine hK _ _ ?_
    clear hK K
    try simp only [Act.put, List.setIfInBounds_toArray, List.set_cons_zero, List.set_cons_succ]
    refine take_d (i := 2) 7 (v := ?_) rfl (by kernel_rfl) (by kernel_rfl) (by kernel_rfl) (by kernel_rfl) (fun _ _ _ h => h) (Or.inl ⟨by kernel_rfl, ?_⟩) ?_
    rotate_left
    · intro w; go_simp
      try with_reducible rfl
    try simp only [Act.put, List.setIfInBounds_toArray, List.set_cons_zero, List.set_cons_succ]
    refine take_d (i := 3) 8 (v := ?_) rfl (by kernel_rfl) (by kernel_rfl) (by kernel_rfl) (by kernel_rfl) (fun _ _ _ h => h) (Or.inl ⟨by kernel_rfl, ?_⟩) ?_
    rotate_left
    · intro w; go_simp
      try with_reducible rfl
    try simp only [Act.put, List.setIfInBounds_toArray, List.set_cons_zero, List.set_cons_succ]
    refine skip_d (i := 4) 9 rfl (by kernel_rfl) (by kernel_rfl) (by kernel_rfl) (by kernel_rfl) (fun _ _ _ h => h) (by kernel_rfl) ?_
    try simp only [Act.put, List.setIfInBounds_toArray, List.set_cons_zero, List.set_cons_succ]
    refine skip_d (i := 5) 10 rfl (by kernel_rfl) (by kernel_rfl) (by kernel_rfl) (by kernel_rfl) (fun _ _ _ h => h) (by kernel_rfl) ?_
    try simp only [Act.put, List.setIfInBounds_toArray, List.set_cons_zero, List.set_cons_succ]
    refine skip_d (i := 8) 13 rfl (by kernel_rfl) (by kernel_rfl) (by kernel_rfl) (by kernel_rfl) (fun _ _ _ h => h) (by kernel_rfl) ?_
    try simp only [Act.put, List.setIfInBounds_toArray, List.set_cons_zero, List.set_cons_succ]
    refine skip_d (i := 6) 11 rfl (by kernel_rfl) (by kernel_rfl) (by kernel_rfl) (by kernel_rfl) (fun _ _ _ h => h) (by kernel_rfl) ?_
    try simp only [Act.put, List.setIfInBounds_toArray, List.set_cons_zero, List.set_cons_succ]
    refine skip_d (i := 9) 14 rfl (by kernel_rfl) (by kernel_rfl) (by kernel_rfl) (by kernel_rfl) (fun _ _ _ h => h) (by kernel_rfl) ?_
    try simp only [Act.put, List.setIfInBounds_toArray, List.set_cons_zero, List.set_cons_succ]
    refine skip_d (i := 7) 12 rfl (by kernel_rfl) (by kernel_rfl) (by kernel_rfl) (by kernel_rfl) (fun _ _ _ h => h) (by kernel_rfl) ?_
    try simp only [Act.put, List.setIfInBounds_toArray, List.set_cons_zero, List.set_cons_succ]
    refine skip_d (i := 10) 15 rfl (by kernel_rfl) (by kernel_rfl) (by kernel_rfl) (by kernel_rfl) (fun _ _ _ h => h) (by kernel_rfl) ?_
    try simp only [Act.put, List.setIfInBounds_toArray, List.set_cons_zero, List.set_cons_succ]
    refine skip_d (i := 11) 16 rfl (by kernel_rfl) (by kernel_rfl) (by kernel_rfl) (by kernel_rfl) (fun _ _ _ h => h) (by kernel_rfl) ?_
    try simp only [Act.put, List.setIfInBounds_toArray, List.set_cons_zero, List.set_cons_succ]
    refine take_d (i := 12) 17 (v := ?_) rfl (by kernel_rfl) (by kernel_rfl) (by kernel_rfl) (by kernel_rfl) (fun _ _ _ h => h) (Or.inl ⟨by kernel_rfl, ?_⟩) ?_
    rotate_left
    · intro w; go_simp
      try with_reducible rfl
    try simp only [Act.put, List.setIfInBounds_toArray, List.set_cons_zero, List.set_cons_succ]
    refine take_d (i := 13) 4 (v := ?_) rfl (by kernel_rfl) (by kernel_rfl) (by kernel_rfl) (by kernel_rfl) (fun _ _ _ h => h) (Or.inl ⟨by kernel_rfl, ?_⟩) ?_
    rotate_left
    · intro w; go_simp
      try with_reducible rfl
    try simp only [Act.put, List.setIfInBounds_toArray, List.set_cons_zero, List.set_cons_succ]
    refine wpAny_done (by kernel_rfl) ?_ _
    go_wp2
    go_ret
    exact ⟨rfl, below_step (below_drew1 (Below.refl _ _)) hb1⟩
  | true =>
    rw [hv] at HV
    simp only [ErrIs] at HV
    go_enter Tryd.func37, Tryd.ntmps37
    go_wp2
    refine wp_region_any (by kernel_rfl) ?_
    try (change wpAny _ _ _ _ _ _ _ (World.drew _))
    refine take_d (i := 0) 5 (v := ?_) rfl (by kernel_rfl) (by kernel_rfl) (by kernel_rfl) (by kernel_rfl) (fun _ _ _ h => h) (Or.inl ⟨by kernel_rfl, ?_⟩) ?_
    rotate_left
    · intro w; go_simp
      try with_reducible rfl
    try simp only [Act.put, List.setIfInBounds_toArray, List.set_cons_zero, List.set_cons_succ]
    refine run_d (i := 1) 6 rfl (by kernel_rfl) (by kernel_rfl) (by kernel_rfl) (fun K hK => ?_)
    go_simp
    go_at_call 36
    refine (HV.out _ (below_drew1 (Below.refl _ _))).mono ?_
    rintro e w1 ⟨rfl, hb1⟩
    refine hK _ _ ?_
    clear hK K
    try simp only [Act.put, List.setIfInBounds_toArray, List.set_cons_zero, List.set_cons_succ]
    refine take_d (i := 2) 7 (v := ?_) rfl (by kernel_rfl) (by kernel_rfl) (by kernel_rfl) (by kernel_rfl) (fun _ _ _ h => h) (Or.inl ⟨by kernel_rfl, ?_⟩) ?_
    rotate_left
    · intro w; go_simp
      try with_reducible rfl
    try simp only [Act.put, List.setIfInBounds_toArray, List.set_cons_zero, List.set_cons_succ]
    refine take_d (i := 3) 8 (v := ?_) rfl (by kernel_rfl) (by kernel_rfl) (by kernel_rfl) (by kernel_rfl) (fun _ _ _ h => h) (Or.inl ⟨by kernel_rfl, ?_⟩) ?_
    rotate_left
    · intro w; go_simp
      try with_reducible rfl
    try simp only [Act.put, List.setIfInBounds_toArray, List.set_cons_zero, List.set_cons_succ]
    refine take_d (i := 4) 9 (v := ?_) rfl (by kernel_rfl) (by kernel_rfl) (by kernel_rfl) (by kernel_rfl) (fun _ _ _ h => h) (Or.inl ⟨by kernel_rfl, ?_⟩) ?_
    rotate_left
    · intro w; go_simp
      try with_reducible rfl
    try simp only [Act.put, List.setIfInBounds_toArray, List.set_cons_zero, List.set_cons_succ]
    refine take_d (i := 5) 10 (v := ?_) rfl (by kernel_rfl) (by kernel_rfl) (by kernel_rfl) (by kernel_rfl) (fun _ _ _ h => h) (Or.inl ⟨by kernel_rfl, ?_⟩) ?_
    rotate_left
    · intro w; go_simp
      try with_reducible rfl
    try simp only [Act.put, List.setIfInBounds_toArray, List.set_cons_zero, List.set_cons_succ]
    refine take_d (i := 8) 13 (v := ?_) rfl (by kernel_rfl) (by kernel_rfl) (by kernel_rfl) (by kernel_rfl) (fun _ _ _ h => h) (Or.inl ⟨by kernel_rfl, ?_⟩) ?_
    rotate_left
    · intro w; go_simp
      try with_reducible rfl
    try simp only [Act.put, List.setIfInBounds_toArray, List.set_cons_zero, List.set_cons_succ]
    refine run_d (i := 6) 11 rfl (by kernel_rfl) (by kernel_rfl) (by kernel_rfl) (fun K hK => ?_)
    go_simp
    go_at_call 35
    refine (HN.out _).mono ?_
    rintro e w2 ⟨rfl, hd2⟩
    refine hK _ _ ?_
    clear hK K
    try simp only [Act.put, List.setIfInBounds_toArray, List.set_cons_zero, List.set_cons_succ]
    have hB2 : Below w.heap.size w w2 := below_step (below_step (below_drew1 (Below.refl _ _)) hb1) hd2.below
    refine wpAny_ready (rs := [7, 9]) (by kernel_rfl) (by simp) (AllReady.cons rfl (fun K hK => ?_) (AllReady.cons rfl (fun K hK => ?_) AllReady.nil))
    · have hlk := HL.out w2 hB2
      go_simp
      refine hK _ _ ?_
      clear hK K
      try simp only [Act.put, List.setIfInBounds_toArray, List.set_cons_zero, List.set_cons_succ]
      refine run_d (i := 9) 14 rfl (by kernel_rfl) (by kernel_rfl) (by kernel_rfl) (fun K hK => ?_)
      go_simp
      go_at_call 34
      refine (HG.out _).mono ?_
      rintro e w3 ⟨rfl, hd3⟩
      refine hK _ _ ?_
      clear hK K
      try simp only [Act.put, List.setIfInBounds_toArray, List.set_cons_zero, List.set_cons_succ]
      refine take_d (i := 10) 15 (v := ?_) rfl (by kernel_rfl) (by kernel_rfl) (by kernel_rfl) (by kernel_rfl) (fun _ _ _ h => h) (Or.inl ⟨by kernel_rfl, ?_⟩) ?_
      rotate_left
      · intro w; go_simp
        try with_reducible rfl
      try simp only [Act.put, List.setIfInBounds_toArray, List.set_cons_zero, List.set_cons_succ]
      refine take_d (i := 11) 16 (v := ?_) rfl (by kernel_rfl) (by kernel_rfl) (by kernel_rfl) (by kernel_rfl) (fun _ _ _ h => h) (Or.inl ⟨by kernel_rfl, ?_⟩) ?_
      rotate_left
      · intro w; go_simp
        try with_reducible rfl
      try simp only [Act.put, List.setIfInBounds_toArray, List.set_cons_zero, List.set_cons_succ]
      refine take_d (i := 12) 17 (v := ?_) rfl (by kernel_rfl) (by kernel_rfl) (by kernel_rfl) (by kernel_rfl) (fun _ _ _ h => h) (Or.inl ⟨by kernel_rfl, ?_⟩) ?_
      rotate_left
      · intro w; go_simp
        try with_reducible rfl
      try simp only [Act.put, List.setIfInBounds_toArray, List.set_cons_zero, List.set_cons_succ]
      refine take_d (i := 13) 4 (v := ?_) rfl (by kernel_rfl) (by kernel_rfl) (by kernel_rfl) (by kernel_rfl) (fun _ _ _ h => h) (Or.inl ⟨by kernel_rfl, ?_⟩) ?_
      rotate_left
      · intro w; go_simp
        try with_reducible rfl
      try simp only [Act.put, List.setIfInBounds_toArray, List.set_cons_zero, List.set_cons_succ]
      refine wpAny_done (by kernel_rfl) ?_ _
      go_wp2
      go_ret
      exact ⟨by cases b <;> cases g <;> rfl, below_step hB2 hd3.below⟩
    · go_simp
      go_at_call 34
      refine (HG.out _).mono ?_
      rintro e w3 ⟨rfl, hd3⟩
      refine hK _ _ ?_
      clear hK K
      try simp only [Act.put, List.setIfInBounds_toArray, List.set_cons_zero, List.set_cons_succ]
      have hB3 := below_step hB2 hd3.below
      have hlk := HL.out w3 hB3
      refine take_d (i := 10) 15 (v := ?_) rfl (by kernel_rfl) (by kernel_rfl) (by kernel_rfl) (by kernel_rfl) (fun _ _ _ h => h) (Or.inl ⟨by kernel_rfl, ?_⟩) ?_
      rotate_left
      · intro w; go_simp
        try with_reducible rfl
      try simp only [Act.put, List.setIfInBounds_toArray, List.set_cons_zero, List.set_cons_succ]
      refine run_d (i := 7) 12 rfl (by kernel_rfl) (by kernel_rfl) (by kernel_rfl) (fun K hK => ?_)
      go_simp
      refine hK _ _ ?_
      clear hK K
      try simp only [Act.put, List.setIfInBounds_toArray, List.set_cons_zero, List.set_cons_succ]
      refine take_d (i := 11) 16 (v := ?_) rfl (by kernel_rfl) (by kernel_rfl) (by kernel_rfl) (by kernel_rfl) (fun _ _ _ h => h) (Or.inl ⟨by kernel_rfl, ?_⟩) ?_
      rotate_left
      · intro w; go_simp
        try with_reducible rfl
      try simp only [Act.put, List.setIfInBounds_toArray, List.set_cons_zero, List.set_cons_succ]
      refine take_d (i := 12) 17 (v := ?_) rfl (by kernel_rfl) (by kernel_rfl) (by kernel_rfl) (by kernel_rfl) (fun _ _ _ h => h) (Or.inl ⟨by kernel_rfl, ?_⟩) ?_
      rotate_left
      · intro w; go_simp
        try with_reducible rfl
      try simp only [Act.put, List.setIfInBounds_toArray, List.set_cons_zero, List.set_cons_succ]
      refine take_d (i := 13) 4 (v := ?_) rfl (by kernel_rfl) (by kernel_rfl) (by kernel_rfl) (by kernel_rfl) (fun _ _ _ h => h) (Or.inl ⟨by kernel_rfl, ?_⟩) ?_
      rotate_left
      · intro w; go_simp
        try with_reducible rfl
      try simp only [Act.put, List.setIfInBounds_toArray, List.set_cons_zero, List.set_cons_succ]
      refine wpAny_done (by kernel_rfl) ?_ _
      go_wp2
      go_ret
      exact ⟨by cases b <;> cases g <;> rfl, hB3⟩
end Go.Proofs.YtknldfighehplaaDoor.HFnTextBackEval
