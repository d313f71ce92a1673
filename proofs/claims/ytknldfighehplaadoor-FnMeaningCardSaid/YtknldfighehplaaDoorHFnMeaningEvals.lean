/- Evaluate of options and constraints, the package's and the thin one's, and the copies of lists; conditions: the first cells of the table of properties, bytes below 128, lengths in bounds. -/
import Derived.Test.YtknldfighehplaaDoorHFnMeaningList
import Derived.Test.YtknldfighehplaaDoorHFnMeaningValid
import Derived.Test.YtknldfighehplaaDoorHFnMeaningEval
namespace Go.Proofs.YtknldfighehplaaDoor.HFnMeaningEvals
set_option linter.unusedSimpArgs false
set_option linter.unusedVariables false
open Go.RowKit Go.Proofs.YtknldfighehplaaDoor.HTabP Go.Proofs.YtknldfighehplaaDoor.HMap Go.Proofs.YtknldfighehplaaDoor.HFnMeaningList Go.Proofs.YtknldfighehplaaDoor.HFnMeaningPlain Go.Proofs.YtknldfighehplaaDoor.HFnMeaningValid Go.Proofs.YtknldfighehplaaDoor.HFnMeaningEval Go.Proofs.YtknldfighehplaaDoor.PFnMeaning Go.Proofs.YtknldfighehplaaDoorW.PrintWords Go.Proofs.YtknldfighehplaaDoorW.PrintLast Go.Proofs.YtknldfighehplaaDoorW.PrintMore

theorem take_one {l : List ByteArray} {n : Nat} (h : n < l.length) : l.take (n + 1) = l.take n ++ [rdOf ByteArray.empty l n] := by
  rw [List.take_succ_eq_append_getElem h]
  simp [rdOf, List.getD, h]
theorem rd31 (l : List (List ByteArray)) (k : Int) : rd_L2 l k = rd_L1 l k := rfl
/-- No list within is longer than M. -/
def within (M : Nat) (l : List (List ByteArray)) : Prop := ∀ o ∈ l, o.length ≤ M
/-- Lists whose terms are plain bytes, in bounds. -/
def plainL (l : List (List ByteArray)) : Prop := ∀ o ∈ l, o.length ≤ 2147483647 ∧ (∀ x ∈ o, ascii x = true) ∧ ∀ x ∈ o, x.size ≤ 2147483647

/-- What a term comes to under a map of tags. -/
def evalB (m : List (ByteArray × Bool)) (s : ByteArray) : Bool := valid s && ((lk m (nameOf s)).getD false == !negOf s)
theorem and_snoc (f : ByteArray → Bool) {l : List ByteArray} {k : Nat} (h : k < l.length) : (l.take (k + 1)).all f = ((l.take k).all f && f (rdOf ByteArray.empty l k)) := by
  rw [take_one h, List.all_append]; simp
theorem or_snoc (f : List ByteArray → Bool) {l : List (List ByteArray)} {k : Nat} (h : k < l.length) : (l.take (k + 1)).any f = ((l.take k).any f || f (rd_L1 l k)) := by
  have : l.take (k + 1) = l.take k ++ [rd_L1 l k] := by
    rw [List.take_succ_eq_append_getElem h]
    simp [rd_L1, List.getD, h]
  rw [this, List.any_append]; simp

set_option maxHeartbeats 800000 in
theorem optEvaluate (A : Option Addr) (c : Nat) (l : List ByteArray) (r : Nat) (m : List (ByteArray × Bool)) (w : World) (hr : Kd.C Kd.string w A l.length l) (hc : l.length ≤ c) (hl : l.length ≤ 2147483647) (ha : ∀ x ∈ l, ascii x = true) (hs : ∀ x ∈ l, x.size ≤ 2147483647) (hT : TabP w) (hm : MapIs ks vb w r m) :
    Calls Tryd.prog 64 #[.slice A l.length c, .map (some r)] w fun e w' => e = .returned (.bool (l.all (evalB m))) ∧ Below w.heap.size w w' := by
  have HR := Aside0.mk hr
  have HV := Lib.hid (fun (k : Nat) (hk : k < l.length) (W : World) (hb : Below w.heap.size w W) => evaluate (rdOf ByteArray.empty l k) r m W (ha _ (rdOf_mem hk)) (hs _ (rdOf_mem hk)) (hT.below hb) (hm.below hb))
  clear hr ha hs hT hm
  go_enter Tryd.func64, Tryd.ntmps64
  go_wp2
  go_loopw [5, 10] (fun v5 i wr => ∃ k : Nat, k ≤ l.length ∧ i = .int .i64 k ∧ (∃ b : Bool, v5 = .bool b ∧ Aside0 (b = (l.take k).all (evalB m))) ∧ Aside0 (Below w.heap.size w wr)) (fun _ i _ => l.length - (intOf i).toNat)
  case atStart => exact ⟨0, Nat.zero_le _, rfl, ⟨true, rfl, ⟨by simp⟩⟩, ⟨Below.refl _ _⟩⟩
  case round =>
    obtain ⟨k, hk, rfl, ⟨b, rfl, HA⟩, HB⟩ := hrel
    by_cases hlt : k < l.length
    · obtain ⟨ad, e0, hx0⟩ := Kd.at_string HR.out (k : Int) (by omega) (by omega)
      subst e0
      have y0 := (HB.out.cell (World.block_lt_of_cell? w _ hx0)).trans hx0
      simp only [Int.toNat_natCast] at y0
      have hv := HV.out k hlt wr HB.out
      have hsn : (l.take (k + 1)).all (evalB m) = (b && evalB m (rdOf ByteArray.empty l k)) := by rw [and_snoc _ hlt, HA.out]
      have HVV := Lib.hid hv
      have HSN := Lib.hid hsn
      clear hv hsn hx0 HA
      unfold evalB at HSN
      generalize rdOf ByteArray.empty l (k : Int) = x at *
      generalize (valid x && ((lk m (nameOf x)).getD false == !negOf x)) = t at *
      cases b with
      | true =>
        go_wp2_with (go_at_call 37; refine HVV.out.mono ?_; rintro e w1 ⟨rfl, hb1⟩)
        exact ⟨⟨k + 1, by omega, by go_num, ⟨t, rfl, ⟨by have := HSN.out; unfold evalB; rw [this]; simp⟩⟩, ⟨below_step HB.out hb1⟩⟩, by simp [intOf]; omega⟩
      | false =>
        go_wp2
        exact ⟨⟨k + 1, by omega, by go_num, ⟨false, rfl, ⟨by have := HSN.out; unfold evalB; rw [this]; simp⟩⟩, HB⟩, by simp [intOf]; omega⟩
    · have hkl : k = l.length := by omega
      have hb := HA.out
      rw [hkl, List.take_length] at hb
      have HBB := Lib.hid hb
      clear hb HA
      go_wp2
      go_ret
      rw [← HBB.out]
      exact ⟨rfl, HB.out⟩

set_option maxHeartbeats 800000 in
theorem conEvaluate (A : Option Addr) (c : Nat) (l : List (List ByteArray)) (r : Nat) (m : List (ByteArray × Bool)) (w : World) (hr : Kd.C (Kd.slice 44 Kd.string) w A l.length l) (hc : l.length ≤ c) (hl : l.length ≤ 2147483647) (hp : plainL l) (hT : TabP w) (hm : MapIs ks vb w r m) :
    Calls Tryd.prog 47 #[.slice A l.length c, .map (some r)] w fun e w' => e = .returned (.bool (l.any fun o => o.all (evalB m))) ∧ Below w.heap.size w w' := by
  have HR := Aside0.mk hr
  have HV := Lib.hid (fun (k : Nat) (hk : k < l.length) (W : World) (hb : Below w.heap.size w W) (B : Option Addr) (d : Nat) (hB : Kd.string.C w B (rd_L1 l k).length (rd_L1 l k)) (hd : (rd_L1 l k).length ≤ d) =>
    optEvaluate B d (rd_L1 l k) r m W (Kd.C_below hB hb) hd (hp _ (rd1_mem hk)).1 (hp _ (rd1_mem hk)).2.1 (hp _ (rd1_mem hk)).2.2 (hT.below hb) (hm.below hb))
  clear hr hp hT hm
  go_enter Tryd.func47, Tryd.ntmps47
  go_wp2
  go_loopw [5, 10] (fun v5 i wr => ∃ k : Nat, k ≤ l.length ∧ i = .int .i64 k ∧ (∃ b : Bool, v5 = .bool b ∧ Aside0 (b = (l.take k).any fun o => o.all (evalB m))) ∧ Aside0 (Below w.heap.size w wr)) (fun _ i _ => l.length - (intOf i).toNat)
  case atStart => exact ⟨0, Nat.zero_le _, rfl, ⟨false, rfl, ⟨by simp⟩⟩, ⟨Below.refl _ _⟩⟩
  case round =>
    obtain ⟨k, hk, rfl, ⟨b, rfl, HA⟩, HB⟩ := hrel
    by_cases hlt : k < l.length
    · obtain ⟨ad, A0, c0, e0, hx0, hd0, hC0⟩ := at_L2 HR.out (k : Int) (by omega) (by omega)
      subst e0
      have y0 := (HB.out.cell (World.block_lt_of_cell? w _ hx0)).trans hx0
      simp only [Int.toNat_natCast, rd31] at y0 hd0 hC0
      have hv := HV.out k hlt wr HB.out A0 c0 hC0 hd0
      have hsn : ((l.take (k + 1)).any fun o => o.all (evalB m)) = (b || (rd_L1 l k).all (evalB m)) := by rw [or_snoc _ hlt, HA.out]
      have HVV := Lib.hid hv
      have HSN := Lib.hid hsn
      clear hv hsn hx0 HA hC0
      generalize rd_L1 l (k : Int) = x at *
      generalize x.all (evalB m) = t at *
      cases b with
      | false =>
        go_wp2_with (go_at_call 64; refine HVV.out.mono ?_; rintro e w1 ⟨rfl, hb1⟩)
        exact ⟨⟨k + 1, by omega, by go_num, ⟨t, rfl, ⟨by rw [HSN.out]; simp⟩⟩, ⟨below_step HB.out hb1⟩⟩, by simp [intOf]; omega⟩
      | true =>
        go_wp2
        exact ⟨⟨k + 1, by omega, by go_num, ⟨true, rfl, ⟨by rw [HSN.out]; simp⟩⟩, HB⟩, by simp [intOf]; omega⟩
    · have hkl : k = l.length := by omega
      have hb := HA.out
      rw [hkl, List.take_length] at hb
      have HBB := Lib.hid hb
      clear hb HA
      go_wp2
      go_ret
      rw [← HBB.out]
      exact ⟨rfl, HB.out⟩
theorem option_l (l : List ByteArray) (hl : l.length ≤ 2147483647) : ∀ (m n k : Nat) (acc : List ByteArray), m + n = l.length → m < k → acc.length + m ≤ 4294967296 →
    impl_option.l0 k acc l l.length n = some (acc ++ l.drop n) := by
  intro m
  induction m with
  | zero =>
    intro n k acc hn hk ha
    obtain ⟨k, rfl⟩ : ∃ j, k = j + 1 := ⟨k - 1, by omega⟩
    have : n = l.length := by omega
    subst this
    simp only [impl_option.l0]
    rw [if_neg (by omega), List.drop_length]
    simp
  | succ m ih =>
    intro n k acc hn hk ha
    obtain ⟨k, rfl⟩ : ∃ j, k = j + 1 := ⟨k - 1, by omega⟩
    have hlt : n < l.length := by omega
    have hw : wrap64 ((n : Int) + 1) = ((n + 1 : Nat) : Int) := by unfold wrap64; omega
    simp only [impl_option.l0]
    rw [if_pos (by omega), if_pos (by omega), if_pos (by omega), if_pos (by omega), hw, drop_rdOf hlt, ih (n + 1) k _ (by omega) (by omega) (by simp; omega)]
    simp
theorem option_is (l : List ByteArray) (hl : l.length ≤ 2147483647) (k : Nat) (hk : l.length < k) : impl_option.f k l = some l := by
  unfold impl_option.f
  have h := option_l l hl l.length 0 k [] (by omega) hk (by simp; omega)
  simpa using h
theorem constraint_l (N : Nat) (l : List (List ByteArray)) (hl : l.length ≤ 2147483647) (hN : N ≤ 2147483647) (hs : within N l) : ∀ (m n k : Nat) (acc : List (List ByteArray)), m + n = l.length → m + N < k → acc.length + m ≤ 4294967296 →
    impl_constraint.l0 k acc l l.length n = some (acc ++ l.drop n) := by
  intro m
  induction m with
  | zero =>
    intro n k acc hn hk ha
    obtain ⟨k, rfl⟩ : ∃ j, k = j + 1 := ⟨k - 1, by omega⟩
    have : n = l.length := by omega
    subst this
    simp only [impl_constraint.l0]
    rw [if_neg (by omega), List.drop_length]
    simp
  | succ m ih =>
    intro n k acc hn hk ha
    obtain ⟨k, rfl⟩ : ∃ j, k = j + 1 := ⟨k - 1, by omega⟩
    have hlt : n < l.length := by omega
    have hw : wrap64 ((n : Int) + 1) = ((n + 1 : Nat) : Int) := by unfold wrap64; omega
    have hin := hs _ (rd1_mem hlt)
    simp only [impl_constraint.l0]
    rw [if_pos (by omega), if_pos (by omega), if_pos (by omega), option_is _ (by omega) k (by omega)]
    simp only [Option.bind_some]
    rw [if_pos (by omega), hw, drop_rd1 hlt, ih (n + 1) k _ (by omega) (by omega) (by simp; omega)]
    simp
theorem constraint_is (N : Nat) (l : List (List ByteArray)) (hl : l.length ≤ 2147483647) (hN : N ≤ 2147483647) (hs : within N l) (k : Nat) (hk : l.length + N < k) : impl_constraint.f k l = some l := by
  unfold impl_constraint.f
  have h := constraint_l N l hl hN hs l.length 0 k [] (by omega) hk (by simp; omega)
  simpa using h
/-- The list copied, as the package's own. -/
theorem copied (A : Option Addr) (c : Nat) (l : List (List ByteArray)) (w : World) (hr : Kd.C (Kd.slice 9 Kd.string) w A l.length l) (hc : l.length ≤ c) (hs : small 3000 2147483647 l) :
    Calls Tryd.prog 45 #[.slice A l.length c] w fun e w' => ∃ B d, e = .returned (.slice B l.length d) ∧ l.length ≤ d ∧ Kd.C (Kd.slice 44 Kd.string) w' B l.length l ∧ Below w.heap.size w w' :=
  (impl_constraint.calls (l.length + 3000 + 1) A c l l w hr hc (constraint_is 3000 l (by have := hs.1; omega) (by omega) (fun o ho => (hs.2 o ho).1) _ (by omega))).mono fun e w' ⟨v, he, hS, hb⟩ => by
    obtain ⟨B, d, rfl, hd, hC⟩ := Kd.S_reads hS
    exact ⟨B, d, he, hd, hC, hb⟩
theorem plain_of {l : List (List ByteArray)} (hs : small 3000 2147483647 l) (ha : ∀ o ∈ l, ∀ x ∈ o, ascii x = true) : plainL l := fun o ho => ⟨by have := (hs.2 o ho).1; omega, ha o ho, (hs.2 o ho).2⟩

theorem evalB_is (tags : List ByteArray) : evalB (mapT tags) = fun s => evalT s tags := by
  funext s
  unfold evalB evalT
  rw [lk_mapT]
  cases valid s <;> cases (tags.any fun y => decide (y = nameOf s)) <;> cases negOf s <;> rfl
theorem implEvaluate (A : Option Addr) (c : Nat) (l : List (List ByteArray)) (A1 : Option Addr) (c1 : Nat) (tags : List ByteArray) (w : World) (hr : Kd.C (Kd.slice 9 Kd.string) w A l.length l) (hc : l.length ≤ c) (hs : small 3000 2147483647 l) (ha : ∀ o ∈ l, ∀ x ∈ o, ascii x = true) (hT : TabP w)
    (hr1 : Kd.C Kd.string w A1 tags.length tags) (hc1 : tags.length ≤ c1) (hl1 : tags.length ≤ 2147483647) :
    Calls Tryd.prog 23 #[.slice A l.length c, .slice A1 tags.length c1] w fun e w' => e = .returned (.bool (l.any fun o => o.all fun s => evalT s tags)) ∧ Below w.heap.size w w' := by
  have H1 := Lib.hid (copied A c l w hr hc hs)
  have H2 := Lib.hid (fun (W : World) (hb : Below w.heap.size w W) => setTags A1 c1 tags W (Kd.C_below hr1 hb) hc1 (by omega))
  have H3 := Lib.hid (fun (B : Option Addr) (d : Nat) (r : Nat) (W : World) (hC : Kd.C (Kd.slice 44 Kd.string) W B l.length l) (hd : l.length ≤ d) (hb : Below w.heap.size w W) (hm : MapIs ks vb W r (mapT tags)) => conEvaluate B d l r (mapT tags) W hC hd (by have := hs.1; omega) (plain_of hs ha) (hT.below hb) hm)
  rw [evalB_is] at H3
  clear hr hs ha hT hr1
  go_enter Tryd.func23, Tryd.ntmps23
  go_wp2_with (first
    | (go_at_call 45; refine H1.out.mono ?_; rintro e w1 ⟨B, d, rfl, hd, hC, hb1⟩; have HC := Aside0.mk hC; clear hC)
    | (go_at_call 38; refine (H2.out _ hb1).mono ?_; rintro e w2 ⟨r, rfl, hr, hm, hb2⟩; have HM := Aside0.mk hm; have HC2 := Aside0.mk (Kd.C_below HC.out hb2); have hb12 := below_step hb1 hb2; clear hm)
    | (go_at_call 47; refine (H3.out B d r _ HC2.out hd hb12 HM.out).mono ?_; rintro e w3 ⟨rfl, hb3⟩))
  go_ret
  exact ⟨rfl, below_step hb12 hb3⟩

theorem rd8_mem {l : List (List (List ByteArray))} {n : Nat} (h : n < l.length) : rd_L8 l n ∈ l := by
  simp [rd_L8, List.getD, h]
theorem and8_snoc (f : List (List ByteArray) → Bool) {l : List (List (List ByteArray))} {k : Nat} (h : k < l.length) : (l.take (k + 1)).all f = ((l.take k).all f && f (rd_L8 l k)) := by
  have : l.take (k + 1) = l.take k ++ [rd_L8 l k] := by
    rw [List.take_succ_eq_append_getElem h]
    simp [rd_L8, List.getD, h]
  rw [this, List.all_append]; simp
set_option maxHeartbeats 800000 in
theorem conssEvaluate (A : Option Addr) (c : Nat) (l : List (List (List ByteArray))) (r : Nat) (m : List (ByteArray × Bool)) (w : World) (hr : Kd.C (Kd.slice 55 (Kd.slice 44 Kd.string)) w A l.length l) (hc : l.length ≤ c) (hl : l.length ≤ 2147483647) (hp : ∀ x ∈ l, x.length ≤ 2147483647 ∧ plainL x) (hT : TabP w) (hm : MapIs ks vb w r m) :
    Calls Tryd.prog 54 #[.slice A l.length c, .map (some r)] w fun e w' => e = .returned (.bool (l.all fun x => x.any fun o => o.all (evalB m))) ∧ Below w.heap.size w w' := by
  have HR := Aside0.mk hr
  have HV := Lib.hid (fun (k : Nat) (hk : k < l.length) (W : World) (hb : Below w.heap.size w W) (B : Option Addr) (d : Nat) (hB : Kd.C (Kd.slice 44 Kd.string) w B (rd_L8 l k).length (rd_L8 l k)) (hd : (rd_L8 l k).length ≤ d) =>
    conEvaluate B d (rd_L8 l k) r m W (Kd.C_below hB hb) hd (hp _ (rd8_mem hk)).1 (hp _ (rd8_mem hk)).2 (hT.below hb) (hm.below hb))
  clear hr hp hT hm
  go_enter Tryd.func54, Tryd.ntmps54
  go_wp2
  go_loopw [5, 10] (fun v5 i wr => ∃ k : Nat, k ≤ l.length ∧ i = .int .i64 k ∧ (∃ b : Bool, v5 = .bool b ∧ Aside0 (b = (l.take k).all fun x => x.any fun o => o.all (evalB m))) ∧ Aside0 (Below w.heap.size w wr)) (fun _ i _ => l.length - (intOf i).toNat)
  case atStart => exact ⟨0, Nat.zero_le _, rfl, ⟨true, rfl, ⟨by simp⟩⟩, ⟨Below.refl _ _⟩⟩
  case round =>
    obtain ⟨k, hk, rfl, ⟨b, rfl, HA⟩, HB⟩ := hrel
    by_cases hlt : k < l.length
    · obtain ⟨ad, A0, c0, e0, hx0, hd0, hC0⟩ := at_L8 HR.out (k : Int) (by omega) (by omega)
      subst e0
      have y0 := (HB.out.cell (World.block_lt_of_cell? w _ hx0)).trans hx0
      simp only [Int.toNat_natCast] at y0 hd0 hC0
      have hv := HV.out k hlt wr HB.out A0 c0 hC0 hd0
      have hsn : ((l.take (k + 1)).all fun x => x.any fun o => o.all (evalB m)) = (b && (rd_L8 l k).any fun o => o.all (evalB m)) := by rw [and8_snoc _ hlt, HA.out]
      have HVV := Lib.hid hv
      have HSN := Lib.hid hsn
      clear hv hsn hx0 HA hC0
      generalize rd_L8 l (k : Int) = x at *
      generalize (x.any fun o => o.all (evalB m)) = t at *
      cases b with
      | true =>
        go_wp2_with (go_at_call 47; refine HVV.out.mono ?_; rintro e w1 ⟨rfl, hb1⟩)
        exact ⟨⟨k + 1, by omega, by go_num, ⟨t, rfl, ⟨by rw [HSN.out]; simp⟩⟩, ⟨below_step HB.out hb1⟩⟩, by simp [intOf]; omega⟩
      | false =>
        go_wp2
        exact ⟨⟨k + 1, by omega, by go_num, ⟨false, rfl, ⟨by rw [HSN.out]; simp⟩⟩, HB⟩, by simp [intOf]; omega⟩
    · have hkl : k = l.length := by omega
      have hb := HA.out
      rw [hkl, List.take_length] at hb
      have HBB := Lib.hid hb
      clear hb HA
      go_wp2
      go_ret
      rw [← HBB.out]
      exact ⟨rfl, HB.out⟩
end Go.Proofs.YtknldfighehplaaDoor.HFnMeaningEvals
