/- The walk of FnConstraint: it returns true for every list of options and every list of tags; conditions: the slices' cells as they were read, lengths in bounds, the first cells of the table of properties. -/
import Derived.Test.YtknldfighehplaaDoorHFnConstraintGo
import Derived.Test.YtknldfighehplaaDoorHFnConstraintTerms
namespace Go.Proofs.YtknldfighehplaaDoor.HFnConstraint
set_option linter.unusedSimpArgs false
set_option linter.unusedVariables false
open Go.RowKit Go.Proofs.YtknldfighehplaaDoor.HTabP Go.Proofs.YtknldfighehplaaDoor.HMap Go.Proofs.YtknldfighehplaaDoor.HFnConstraintList Go.Proofs.YtknldfighehplaaDoor.HFnConstraintText Go.Proofs.YtknldfighehplaaDoor.HFnConstraintTerms Go.Proofs.YtknldfighehplaaDoor.HFnConstraintWalk Go.Proofs.YtknldfighehplaaDoor.HFnConstraintGo Go.Proofs.YtknldfighehplaaDoor.HFnConstraintPlain Go.Proofs.YtknldfighehplaaDoor.HFnConstraintValid Go.Proofs.YtknldfighehplaaDoor.HFnConstraintEval Go.Proofs.YtknldfighehplaaDoor.PFnConstraint Go.Proofs.YtknldfighehplaaDoorW.PrintWords Go.Proofs.YtknldfighehplaaDoorW.PrintLast Go.Proofs.YtknldfighehplaaDoorW.PrintMore

/-- The list copied, as the package's own. -/
theorem copied (A : Option Addr) (c : Nat) (l : List (List ByteArray)) (w : World) (hr : Kd.C (Kd.slice 9 Kd.string) w A l.length l) (hc : l.length ≤ c) (hs : small 2000 2147483647 l) :
    Calls Tryd.prog 45 #[.slice A l.length c] w fun e w' => ∃ B d, e = .returned (.slice B l.length d) ∧ l.length ≤ d ∧ Kd.C (Kd.slice 44 Kd.string) w' B l.length l ∧ Below w.heap.size w w' :=
  (impl_constraint.calls (l.length + 2000 + 1) A c l l w hr hc (constraint_is 2000 l (by have := hs.1; omega) (by omega) (fun o ho => (hs.2 o ho).1) _ (by omega))).mono fun e w' ⟨v, he, hS, hb⟩ => by
    obtain ⟨B, d, rfl, hd, hC⟩ := Kd.S_reads hS
    exact ⟨B, d, he, hd, hC, hb⟩
theorem plain_of {l : List (List ByteArray)} (hs : small 2000 2147483647 l) (ha : ∀ o ∈ l, ∀ x ∈ o, ascii x = true) : plainL l := fun o ho => ⟨by have := (hs.2 o ho).1; omega, ha o ho, (hs.2 o ho).2⟩

theorem implValid (A : Option Addr) (c : Nat) (l : List (List ByteArray)) (w : World) (hr : Kd.C (Kd.slice 9 Kd.string) w A l.length l) (hc : l.length ≤ c) (hs : small 2000 2147483647 l) (ha : ∀ o ∈ l, ∀ x ∈ o, ascii x = true) (hT : TabP w) :
    Calls Tryd.prog 21 #[.slice A l.length c] w fun e w' => e = .returned (.bool (l.all fun o => o.all valid)) ∧ Below w.heap.size w w' := by
  have H1 := Lib.hid (copied A c l w hr hc hs)
  have H2 := Lib.hid (fun (B : Option Addr) (d : Nat) (W : World) (hC : Kd.C (Kd.slice 44 Kd.string) W B l.length l) (hd : l.length ≤ d) (hb : Below w.heap.size w W) => conValidate B d l W hC hd (by have := hs.1; omega) (plain_of hs ha) (hT.below hb))
  clear hr hs ha hT
  generalize (l.all fun o => o.all valid) = b at *
  cases b with
  | true =>
    go_enter Tryd.func21, Tryd.ntmps21
    go_wp2_with (first
      | (go_at_call 45; refine H1.out.mono ?_; rintro e w1 ⟨B, d, rfl, hd, hC, hb1⟩; have HC := Aside0.mk hC; clear hC)
      | (go_at_call 46; refine (H2.out B d _ HC.out hd hb1).mono ?_; rintro e w2 ⟨rfl, hb2⟩))
    go_ret
    exact ⟨rfl, below_step hb1 hb2⟩
  | false =>
    go_enter Tryd.func21, Tryd.ntmps21
    go_wp2_with (first
      | (go_at_call 45; refine H1.out.mono ?_; rintro e w1 ⟨B, d, rfl, hd, hC, hb1⟩; have HC := Aside0.mk hC; clear hC)
      | (go_at_call 46; refine (H2.out B d _ HC.out hd hb1).mono ?_; rintro e w2 ⟨⟨T, v, rfl⟩, hb2⟩))
    go_ret
    exact ⟨rfl, below_step hb1 hb2⟩

theorem evalB_is (tags : List ByteArray) : evalB (mapT tags) = fun s => evalT s tags := by
  funext s
  unfold evalB evalT
  rw [lk_mapT]
  cases valid s <;> cases (tags.any fun y => decide (y = nameOf s)) <;> cases negOf s <;> rfl
theorem implEvaluate (A : Option Addr) (c : Nat) (l : List (List ByteArray)) (A1 : Option Addr) (c1 : Nat) (tags : List ByteArray) (w : World) (hr : Kd.C (Kd.slice 9 Kd.string) w A l.length l) (hc : l.length ≤ c) (hs : small 2000 2147483647 l) (ha : ∀ o ∈ l, ∀ x ∈ o, ascii x = true) (hT : TabP w)
    (hr1 : Kd.C Kd.string w A1 tags.length tags) (hc1 : tags.length ≤ c1) (hl1 : tags.length ≤ 2147483647) :
    Calls Tryd.prog 23 #[.slice A l.length c, .slice A1 tags.length c1] w fun e w' => e = .returned (.bool (l.any fun o => o.all fun s => evalT s tags)) ∧ Below w.heap.size w w' := by
  have H1 := Lib.hid (copied A c l w hr hc hs)
  have H2 := Lib.hid (fun (W : World) (hb : Below w.heap.size w W) => setTags A1 c1 tags W (Kd.C_below hr1 hb) hc1 (by omega))
  have H3 := Lib.hid (fun (B : Option Addr) (d : Nat) (r : Nat) (W : World) (hC : Kd.C (Kd.slice 44 Kd.string) W B l.length l) (hd : l.length ≤ d) (hb : Below w.heap.size w W) (hm : MapIs ks vb W r (mapT tags)) => conEvaluate B d l r (mapT tags) W hC hd (by have := hs.1; omega) (plain_of hs ha) (hT.below hb) hm)
  rw [evalB_is] at H3
  clear hr hs ha hT hr1
  go_enter Tryd.func23, Tryd.ntmps23
  go_wp2_with (first
    | (go_at_call 45; refine H1.out.mono ?_; rintro e w1 ⟨B, d, rfl, hd, hC, hb1⟩; have HC := Aside0.mk hC; clear hC)
    | (go_at_call 38; refine (H2.out _ hb1).mono ?_; rintro e w2 ⟨r, rfl, hr, hm, hb2⟩; have HM := Aside0.mk hm; have HC2 := Aside0.mk (Kd.C_below HC.out hb2); have hb12 := below_step hb1 hb2; clear hm)
    | (go_at_call 47; refine (H3.out B d r _ HC2.out hd hb12 HM.out).mono ?_; rintro e w3 ⟨rfl, hb3⟩))
  go_ret
  exact ⟨rfl, below_step hb12 hb3⟩
theorem implText (A : Option Addr) (c : Nat) (l : List (List ByteArray)) (w : World) (hr : Kd.C (Kd.slice 9 Kd.string) w A l.length l) (hc : l.length ≤ c) (hs : small 2000 2147483647 l) :
    Calls Tryd.prog 25 #[.slice A l.length c] w fun e w' => e = .returned (.string (conText l)) ∧ Below w.heap.size w w' := by
  have H1 := Lib.hid (copied A c l w hr hc hs)
  have H2 := Lib.hid (fun (B : Option Addr) (d : Nat) (W : World) (hC : Kd.C (Kd.slice 44 Kd.string) W B l.length l) (hd : l.length ≤ d) => conGo B d l W hC hd hs)
  clear hr hs
  go_enter Tryd.func25, Tryd.ntmps25
  go_wp2_with (first
    | (go_at_call 45; refine H1.out.mono ?_; rintro e w1 ⟨B, d, rfl, hd, hC, hb1⟩; have HC := Aside0.mk hC; clear hC)
    | (go_at_call 49; refine (H2.out B d _ HC.out hd).mono ?_; rintro e w2 ⟨rfl, hb2⟩))
  go_ret
  exact ⟨rfl, below_step hb1 hb2⟩

theorem one_list {W : World} {g : Nat} {A : Option Addr} {c : Nat} {l : List (List ByteArray)} {e : TypeId} {fr : Nat × Nat} (hg : W.heap[g]? = some (Obj.cells #[.slice A l.length c] e fr)) (hC : Kd.C (Kd.slice 9 Kd.string) W A l.length l) (hc : l.length ≤ c) :
    Kd.C (Kd.slice 22 (Kd.slice 9 Kd.string)) W (some ⟨g, 0, none⟩) 1 [l] := by
  refine ⟨by simp, by simp, fun _ => ⟨_, rfl, fun j p hj => ?_⟩⟩
  have hj0 : j = 0 := by
    have := (List.getElem?_eq_some_iff.1 hj).1
    simpa using this
  subst hj0
  have hp : p = l := by simpa using hj.symm
  subst hp
  refine ⟨[.slice A p.length c], rfl, ⟨A, c, rfl, hc, hC⟩, fun i u hu => ?_⟩
  have hi : i = 0 := by
    have := (List.getElem?_eq_some_iff.1 hu).1
    simpa using this
  subst hi
  have hu : u = .slice A p.length c := by simpa using hu.symm
  subst hu
  exact (by simp [World.cell?, hg, Addr.add])

section
variable (A : Option Addr) (c : Nat) (l : List (List ByteArray)) (A1 : Option Addr) (c1 : Nat) (tags : List ByteArray) (w : World)
theorem law_fits (hr : Kd.C (Kd.slice 9 Kd.string) w A l.length l) (hc : l.length ≤ c) (M : Nat) (hM : within M l) (hf : fits19 l = false) :
    Calls Tryd.prog 5 #[.slice A l.length c, .slice A1 tags.length c1] w fun e w' => e = .returned (.bool true) ∧ Below w.heap.size w w' := by
  have H := Lib.hid (fun (W : World) (hb : Below w.heap.size w W) => laws_zzFits19.calls (l.length + M + 1) A c l false W (Kd.C_below hr hb) hc (by rw [fits19_is l M hM _ (by omega), hf]))
  clear hr hM hf
  go_enter Tryd.func5, Tryd.ntmps5
  go_wp2_with (go_at_call 19; refine (H.out _ (Below.refl _ _)).mono ?_; rintro e w1 ⟨rfl, hd⟩)
  go_ret
  exact ⟨rfl, hd.below⟩
theorem law_tags (hr : Kd.C (Kd.slice 9 Kd.string) w A l.length l) (hc : l.length ≤ c) (hr1 : Kd.C Kd.string w A1 tags.length tags) (hc1 : tags.length ≤ c1) (M : Nat) (hM : within M l) (hf : fits19 l = true) (hf1 : fits7 tags = false) :
    Calls Tryd.prog 5 #[.slice A l.length c, .slice A1 tags.length c1] w fun e w' => e = .returned (.bool true) ∧ Below w.heap.size w w' := by
  have H := Lib.hid (fun (W : World) (hb : Below w.heap.size w W) => laws_zzFits19.calls (l.length + M + 1) A c l true W (Kd.C_below hr hb) hc (by rw [fits19_is l M hM _ (by omega), hf]))
  have H1 := Lib.hid (fun (W : World) (hb : Below w.heap.size w W) => laws_zzFits7.calls (tags.length + 1) A1 c1 tags false W (Kd.C_below hr1 hb) hc1 (by rw [fits_is tags _ (by omega), hf1]))
  clear hr hr1 hM hf hf1
  go_enter Tryd.func5, Tryd.ntmps5
  go_wp2_with (first
    | (go_at_call 19; refine (H.out _ (Below.refl _ _)).mono ?_; rintro e w1 ⟨rfl, hd⟩)
    | (go_at_call 8; refine (H1.out _ hd.below).mono ?_; rintro e w2 ⟨rfl, hd2⟩))
  go_ret
  exact ⟨rfl, below_step hd.below hd2.below⟩
theorem law_terms (hr : Kd.C (Kd.slice 9 Kd.string) w A l.length l) (hc : l.length ≤ c) (hr1 : Kd.C Kd.string w A1 tags.length tags) (hc1 : tags.length ≤ c1) (M : Nat) (hM : within M l) (hf : fits19 l = true) (hf1 : fits7 tags = true) (K : Nat) (hK : laws_terms.f K [l] tags = some false) :
    Calls Tryd.prog 5 #[.slice A l.length c, .slice A1 tags.length c1] w fun e w' => e = .returned (.bool true) ∧ Below w.heap.size w w' := by
  have H := Lib.hid (fun (W : World) (hb : Below w.heap.size w W) => laws_zzFits19.calls (l.length + M + 1) A c l true W (Kd.C_below hr hb) hc (by rw [fits19_is l M hM _ (by omega), hf]))
  have H1 := Lib.hid (fun (W : World) (hb : Below w.heap.size w W) => laws_zzFits7.calls (tags.length + 1) A1 c1 tags true W (Kd.C_below hr1 hb) hc1 (by rw [fits_is tags _ (by omega), hf1]))
  have H2 := Lib.hid (fun (W : World) (hb : Below w.heap.size w W) (g : Nat) (e : TypeId) (fr : Nat × Nat) (hg : W.heap[g]? = some (Obj.cells #[.slice A l.length c] e fr)) => laws_terms.calls K (some ⟨g, 0, none⟩) 1 [l] A1 c1 tags false W (one_list hg (Kd.C_below hr hb) hc) (by simp) (Kd.C_below hr1 hb) hc1 hK)
  clear hr hr1 hM hf hf1 hK
  go_enter Tryd.func5, Tryd.ntmps5
  go_wp2_with (first
    | (go_at_call 19; refine (H.out _ (Below.refl _ _)).mono ?_; rintro e w1 ⟨rfl, hd⟩)
    | (go_at_call 8; refine (H1.out _ hd.below).mono ?_; rintro e w2 ⟨rfl, hd2⟩; have hb2 := below_step hd.below hd2.below)
    | (go_at_call 20; refine (H2.out _ (below_alloc hb2 _) _ _ _ (blk_new w2 _)).mono ?_; rintro e w3 ⟨rfl, hd3⟩; have hb3 := below_step (below_alloc hb2 _) hd3.below))
  go_ret
  exact ⟨rfl, hb3⟩
set_option maxHeartbeats 1600000 in
theorem hard (hr : Kd.C (Kd.slice 9 Kd.string) w A l.length l) (hc : l.length ≤ c) (hr1 : Kd.C Kd.string w A1 tags.length tags) (hc1 : tags.length ≤ c1) (hf : fits19 l = true) (hf1 : fits7 tags = true) (K : Nat) (hK : laws_terms.f K [l] tags = some true) (hs : small 2000 2147483647 l) (hl1 : tags.length ≤ 2000) (ha : ∀ o ∈ l, ∀ x ∈ o, ascii x = true) (hT : TabP w) :
    Calls Tryd.prog 5 #[.slice A l.length c, .slice A1 tags.length c1] w fun e w' => e = .returned (.bool true) ∧ Below w.heap.size w w' := by
  have hM : within 2000 l := fun o ho => (hs.2 o ho).1
  have H := Lib.hid (fun (W : World) (hb : Below w.heap.size w W) => laws_zzFits19.calls (l.length + 2000 + 1) A c l true W (Kd.C_below hr hb) hc (by rw [fits19_is l 2000 hM _ (by omega), hf]))
  have H1 := Lib.hid (fun (W : World) (hb : Below w.heap.size w W) => laws_zzFits7.calls (tags.length + 1) A1 c1 tags true W (Kd.C_below hr1 hb) hc1 (by rw [fits_is tags _ (by omega), hf1]))
  have H2 := Lib.hid (fun (W : World) (hb : Below w.heap.size w W) (g : Nat) (e : TypeId) (fr : Nat × Nat) (hg : W.heap[g]? = some (Obj.cells #[.slice A l.length c] e fr)) => laws_terms.calls K (some ⟨g, 0, none⟩) 1 [l] A1 c1 tags true W (one_list hg (Kd.C_below hr hb) hc) (by simp) (Kd.C_below hr1 hb) hc1 hK)
  have H3 := Lib.hid (fun (W : World) (hb : Below w.heap.size w W) => implValid A c l W (Kd.C_below hr hb) hc hs ha (hT.below hb))
  have H4 := Lib.hid (fun (W : World) (hb : Below w.heap.size w W) => spec_ConstraintValid.calls (2 * 2000 + 2147483647 + 1) A c l _ W (Kd.C_below hr hb) hc (constraintValid_is 2000 2147483647 l hs (by omega) (by omega) _ (by omega)))
  have H5 := Lib.hid (fun (W : World) (hb : Below w.heap.size w W) => implEvaluate A c l A1 c1 tags W (Kd.C_below hr hb) hc hs ha (hT.below hb) (Kd.C_below hr1 hb) hc1 (by omega))
  have H6 := Lib.hid (fun (W : World) (hb : Below w.heap.size w W) => spec_ConstraintEvaluate.calls (2 * 2000 + 2147483647 + tags.length + 1) A c l A1 c1 tags _ W (Kd.C_below hr hb) hc (Kd.C_below hr1 hb) hc1 (constraintEvaluate_is tags (by omega) 2000 2147483647 l hs (by omega) (by omega) _ (by omega)))
  have H7 := Lib.hid (fun (W : World) (hb : Below w.heap.size w W) => implText A c l W (Kd.C_below hr hb) hc hs)
  have H8 := Lib.hid (fun (W : World) (hb : Below w.heap.size w W) => spec_ConstraintText.calls (2 * 2000 + 1) A c l _ W (Kd.C_below hr hb) hc (constraintText_is 2000 2147483647 l hs (by omega) (by omega) _ (by omega)))
  clear hr hr1 hM hf hf1 hK hs ha hT
  generalize (l.all fun o => o.all valid) = b1 at *
  generalize (l.any fun o => o.all fun s => evalT s tags) = b2 at *
  generalize conText l = t at *
  have e1 : (b1 == b1) = true := by cases b1 <;> rfl
  have e2 : (b2 == b2) = true := by cases b2 <;> rfl
  go_enter Tryd.func5, Tryd.ntmps5
  go_wp2_with (first
    | (go_at_call 19; refine (H.out _ (Below.refl _ _)).mono ?_; rintro e w1 ⟨rfl, hd⟩)
    | (go_at_call 8; refine (H1.out _ hd.below).mono ?_; rintro e w2 ⟨rfl, hd2⟩; have hb2 := below_step hd.below hd2.below)
    | (go_at_call 20; refine (H2.out _ (below_alloc hb2 _) _ _ _ (blk_new w2 _)).mono ?_; rintro e w3 ⟨rfl, hd3⟩; have hb3 := below_step (below_alloc hb2 _) hd3.below)
    | (go_at_call 21; refine (H3.out _ hb3).mono ?_; rintro e w4 ⟨rfl, hd4⟩; have hb4 := below_step hb3 hd4)
    | (go_at_call 22; refine (H4.out _ hb4).mono ?_; rintro e w5 ⟨rfl, hd5⟩; have hb5 := below_step hb4 hd5.below)
    | (go_at_call 23; refine (H5.out _ hb5).mono ?_; rintro e w6 ⟨rfl, hd6⟩; have hb6 := below_step hb5 hd6)
    | (go_at_call 24; refine (H6.out _ hb6).mono ?_; rintro e w7 ⟨rfl, hd7⟩; have hb7 := below_step hb6 hd7.below)
    | (go_at_call 25; refine (H7.out _ hb7).mono ?_; rintro e w8 ⟨rfl, hd8⟩; have hb8 := below_step hb7 hd8)
    | (go_at_call 26; refine (H8.out _ hb8).mono ?_; rintro e w9 ⟨rfl, hd9⟩; have hb9 := below_step hb8 hd9.below))
  go_ret
  exact ⟨rfl, hb9⟩
/-- THE WALK: whatever the options and the tags, FnConstraint returns true and what was there stands. -/
theorem walk (hr : Kd.C (Kd.slice 9 Kd.string) w A l.length l) (hc : l.length ≤ c) (hr1 : Kd.C Kd.string w A1 tags.length tags) (hc1 : tags.length ≤ c1) (M : Nat) (hM : within M l) (hT : TabP w) :
    Calls Tryd.prog 5 #[.slice A l.length c, .slice A1 tags.length c1] w fun e w' => e = .returned (.bool true) ∧ Below w.heap.size w w' := by
  cases hf : fits19 l with
  | false => exact law_fits A c l A1 c1 tags w hr hc M hM hf
  | true =>
    cases hf1 : fits7 tags with
    | false => exact law_tags A c l A1 c1 tags w hr hc hr1 hc1 M hM hf hf1
    | true =>
      have hs := fits_small l hf
      have ht : tags.length ≤ 2147483647 := by
        unfold fits7 at hf1
        simp only [Bool.and_eq_true, decide_eq_true_eq] at hf1
        exact hf1.1
      obtain ⟨K, hK⟩ := terms_is l tags hs.1 ht hs
      cases hx : fewOf l tags with
      | false => rw [hx] at hK; exact law_terms A c l A1 c1 tags w hr hc hr1 hc1 M hM hf hf1 K hK
      | true =>
        rw [hx] at hK
        obtain ⟨h1, h2, h3⟩ := few_small l tags hs hx
        exact hard A c l A1 c1 tags w hr hc hr1 hc1 hf hf1 K hK h1 h2 h3 hT
end
end Go.Proofs.YtknldfighehplaaDoor.HFnConstraint
