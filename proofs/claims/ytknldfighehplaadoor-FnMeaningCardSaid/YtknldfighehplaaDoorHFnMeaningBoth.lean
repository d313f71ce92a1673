/- Two lists of options as one list of lists; what the package's Evaluate says of both; conditions: the first cells of the table of properties, bytes below 128, lengths in bounds. -/
import Derived.Test.YtknldfighehplaaDoorHFnMeaningNames
namespace Go.Proofs.YtknldfighehplaaDoor.HFnMeaningBoth
set_option linter.unusedSimpArgs false
set_option linter.unusedVariables false
open Go.RowKit Go.Proofs.YtknldfighehplaaDoor.HTabP Go.Proofs.YtknldfighehplaaDoor.HMap Go.Proofs.YtknldfighehplaaDoor.HFnMeaningList Go.Proofs.YtknldfighehplaaDoor.HFnMeaningPlain Go.Proofs.YtknldfighehplaaDoor.HFnMeaningValid Go.Proofs.YtknldfighehplaaDoor.HFnMeaningEval Go.Proofs.YtknldfighehplaaDoor.HFnMeaningEvals Go.Proofs.YtknldfighehplaaDoor.HFnMeaningNames Go.Proofs.YtknldfighehplaaDoor.PFnMeaning Go.Proofs.YtknldfighehplaaDoorW.PrintWords Go.Proofs.YtknldfighehplaaDoorW.PrintLast Go.Proofs.YtknldfighehplaaDoorW.PrintMore

theorem two_lists {W : World} {g : Nat} {A B : Option Addr} {c d : Nat} {a b : List (List ByteArray)} {e : TypeId} {fr : Nat × Nat} (hg : W.heap[g]? = some (Obj.cells #[.slice A a.length c, .slice B b.length d] e fr)) (hA : Kd.C (Kd.slice 9 Kd.string) W A a.length a) (hc : a.length ≤ c) (hB : Kd.C (Kd.slice 9 Kd.string) W B b.length b) (hd : b.length ≤ d) :
    Kd.C (Kd.slice 22 (Kd.slice 9 Kd.string)) W (some ⟨g, 0, none⟩) 2 [a, b] := by
  refine ⟨by simp, by simp, fun _ => ⟨_, rfl, fun j p hj => ?_⟩⟩
  have hj2 : j < 2 := by
    have := (List.getElem?_eq_some_iff.1 hj).1
    simpa using this
  rcases (show j = 0 ∨ j = 1 by omega) with rfl | rfl
  · obtain rfl : a = p := by simpa using hj
    refine ⟨[.slice A a.length c], rfl, ⟨A, c, rfl, hc, hA⟩, fun i u hu => ?_⟩
    have hi : i = 0 := by
      have := (List.getElem?_eq_some_iff.1 hu).1
      simpa using this
    subst hi
    obtain rfl : Value.slice A a.length c = u := by simpa using hu
    exact (by simp [World.cell?, hg, Addr.add])
  · obtain rfl : b = p := by simpa using hj
    refine ⟨[.slice B b.length d], rfl, ⟨B, d, rfl, hd, hB⟩, fun i u hu => ?_⟩
    have hi : i = 0 := by
      have := (List.getElem?_eq_some_iff.1 hu).1
      simpa using this
    subst hi
    obtain rfl : Value.slice B b.length d = u := by simpa using hu
    exact (by simp [World.cell?, hg, Addr.add, Kd.slice])

theorem implBoth (A : Option Addr) (c : Nat) (a b : List (List ByteArray)) (A1 : Option Addr) (c1 : Nat) (tags : List ByteArray) (w : World) (hr : Kd.C (Kd.slice 22 (Kd.slice 9 Kd.string)) w A 2 [a, b]) (hc : 2 ≤ c)
    (M : Nat) (hM : M ≤ 1000000) (ha : a.length ≤ 1000000) (hb : b.length ≤ 1000000) (hsa : within M a) (hsb : within M b) (hpa : plainL a) (hpb : plainL b) (hT : TabP w)
    (hr1 : Kd.C Kd.string w A1 tags.length tags) (hc1 : tags.length ≤ c1) (hl1 : tags.length ≤ 2147483647) :
    Calls Tryd.prog 31 #[.slice A 2 c, .slice A1 tags.length c1] w fun e w' => e = .returned (.bool ([a, b].all fun x => x.any fun o => o.all fun s => evalT s tags)) ∧ Below w.heap.size w w' := by
  have H1 := Lib.hid (impl_constraints.calls (2000000 + M + 4) A c [a, b] [a, b] w hr hc (constraints_is M a b ha hb hM hsa hsb))
  have H2 := Lib.hid (fun (W : World) (hb : Below w.heap.size w W) => setTags A1 c1 tags W (Kd.C_below hr1 hb) hc1 (by omega))
  have H3 := Lib.hid (fun (B : Option Addr) (d : Nat) (r : Nat) (W : World) (hC : Kd.C (Kd.slice 55 (Kd.slice 44 Kd.string)) W B 2 [a, b]) (hd : 2 ≤ d) (hb' : Below w.heap.size w W) (hm : MapIs ks vb W r (mapT tags)) => conssEvaluate B d [a, b] r (mapT tags) W hC hd (by simp) (fun x hx => by
    rcases List.mem_cons.1 hx with rfl | hx
    · exact ⟨by omega, hpa⟩
    · have : x = b := by simpa using hx
      subst this
      exact ⟨by omega, hpb⟩) (hT.below hb') hm)
  rw [evalB_is] at H3
  clear hr hsa hsb hpa hpb hT hr1
  generalize ([a, b].all fun x => x.any fun o => o.all fun s => evalT s tags) = res at *
  go_enter Tryd.func31, Tryd.ntmps31
  go_wp2_with (first
    | (go_at_call 53; refine H1.out.mono ?_; rintro e w1 ⟨v, rfl, hR, hb1⟩; obtain ⟨B, d, rfl, hd, hC⟩ := Kd.R_reads hR; have HC := Aside0.mk hC; clear hC hR)
    | (go_at_call 38; refine (H2.out _ hb1).mono ?_; rintro e w2 ⟨r, rfl, hr, hm, hb2⟩; have HM := Aside0.mk hm; have HC2 := Aside0.mk (Kd.C_below HC.out hb2); have hb12 := below_step hb1 hb2; clear hm)
    | (go_at_call 54; refine (H3.out B d r _ HC2.out hd hb12 HM.out).mono ?_; rintro e w3 ⟨rfl, hb3⟩))
  go_ret
  exact ⟨rfl, below_step hb12 hb3⟩
end Go.Proofs.YtknldfighehplaaDoor.HFnMeaningBoth
