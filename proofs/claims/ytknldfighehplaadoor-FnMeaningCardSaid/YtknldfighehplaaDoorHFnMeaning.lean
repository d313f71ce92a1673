/- The walk of FnMeaning: it returns true for every two texts; conditions: the first cells of the table of properties, the table of white space. -/
import Derived.Test.YtknldfighehplaaDoorHFnMeaningBoth
import Derived.Test.YtknldfighehplaaDoorHFnMeaningImp
import Derived.Lib.AppendIntMem
namespace Go.Proofs.YtknldfighehplaaDoor.HFnMeaning
set_option linter.unusedSimpArgs false
set_option linter.unusedVariables false
open Go.RowKit Go.Proofs.YtknldfighehplaaDoor.HFnMeaningCut Go.Proofs.YtknldfighehplaaDoor.HFnMeaningCon Go.Proofs.YtknldfighehplaaDoor.HTabP Go.Proofs.YtknldfighehplaaDoor.HSplit Go.Proofs.YtknldfighehplaaDoor.HFnMeaningList Go.Proofs.YtknldfighehplaaDoor.HFnMeaningPlain Go.Proofs.YtknldfighehplaaDoor.HFnMeaningEvals Go.Proofs.YtknldfighehplaaDoor.HFnMeaningNames Go.Proofs.YtknldfighehplaaDoor.HFnMeaningBoth Go.Proofs.YtknldfighehplaaDoor.HFnMeaningFields Go.Proofs.YtknldfighehplaaDoor.HFnMeaningImp Go.Proofs.YtknldfighehplaaDoor.PFnMeaning Go.Proofs.YtknldfighehplaaDoorW.PrintWords Go.Proofs.YtknldfighehplaaDoorW.PrintLast Go.Proofs.YtknldfighehplaaDoorW.PrintMore

/-- Both readings of a text, each as a list whose cells can be read. -/
abbrev Reads (f : Nat) (t : ByteArray) (w : World) (p : List (List ByteArray)) (b : Bool) : Prop := ∀ W, Below w.heap.size w W →
  Calls Tryd.prog f #[.string t] W fun e w' => ∃ A c, e = .returned (.tuple #[.slice A p.length c, .bool b]) ∧ p.length ≤ c ∧ Kd.C (Kd.slice 9 Kd.string) w' A p.length p ∧ Below W.heap.size W w'
theorem implReads (t : ByteArray) (w : World) (ht : t.size ≤ 1000000) (ha : ascii t = true) (hT : TabP w) (htab : ∀ W, Below w.heap.size w W → Lib.TabIs Tryd.prog W "strings.asciiSpace" .u8 Lib.asciiSpaceTab)
    (p : List (List ByteArray)) (b : Bool) (hp : pcs (words t) [] = (p, b)) : Reads 27 t w p b := fun W hb =>
  (implParseConstraint t W ht ha (hT.below hb) (fun W' hb' => htab W' (below_step hb hb'))).mono fun e w' h => by
    rw [hp] at h
    obtain ⟨v, he, hS, hb'⟩ := h
    obtain ⟨A, c, rfl, hc, hC⟩ := Kd.S_reads hS
    exact ⟨A, c, he, hc, hC, hb'⟩
theorem specReads (t : ByteArray) (w : World) (ht : t.size ≤ 1000000) (p : List (List ByteArray)) (b : Bool) (hp : pcs (words t) [] = (p, b)) : Reads 28 t w p b := fun W hb =>
  (spec_ParseConstraint.calls (3 * t.size + 3) t p b W (by rw [parse_is t ht _ (by omega), hp])).mono fun e w' ⟨v, he, hS, hb'⟩ => by
    obtain ⟨A, c, rfl, hc, hC⟩ := Kd.S_reads hS
    exact ⟨A, c, he, hc, hC, hb'⟩
/-- What is not looked at: texts that are too long. -/
theorem law_long (a b : ByteArray) (w : World) (h : ¬ (a.size ≤ 2147483647 ∧ b.size ≤ 2147483647)) (hs : a.size ≤ 9223372036854775807) (hs2 : b.size ≤ 9223372036854775807) :
    Calls Tryd.prog 6 #[.string a, .string b] w fun e w' => e = .returned (.bool true) ∧ Below w.heap.size w w' := by
  by_cases h1 : 2147483647 < a.size
  · go_enter Tryd.func6, Tryd.ntmps6
    go_wp2
    go_ret
    exact ⟨rfl, Below.refl _ _⟩
  · have h2 : 2147483647 < b.size := by omega
    go_enter Tryd.func6, Tryd.ntmps6
    go_wp2
    go_ret
    exact ⟨rfl, Below.refl _ _⟩
section
variable (a b : ByteArray) (w : World) (h1 : ¬ 2147483647 < a.size) (h2 : ¬ 2147483647 < b.size)
include h1 h2
theorem law_asc1 (ha : ascii a = false) : Calls Tryd.prog 6 #[.string a, .string b] w fun e w' => e = .returned (.bool true) ∧ Below w.heap.size w w' := by
  have HA := Lib.hid (fun (W : World) => spec_Ascii.calls (a.size + 1) a false W (by rw [ascii_is a (by omega) _ (by omega), ha]))
  clear ha
  go_enter Tryd.func6, Tryd.ntmps6
  go_wp2_with (go_at_call 9; with_reducible refine (HA.out _).mono ?_; rintro e w2 ⟨rfl, hd2⟩)
  go_ret
  exact ⟨rfl, hd2.below⟩
theorem law_asc2 (ha : ascii a = true) (hb : ascii b = false) : Calls Tryd.prog 6 #[.string a, .string b] w fun e w' => e = .returned (.bool true) ∧ Below w.heap.size w w' := by
  have HA := Lib.hid (fun (W : World) => spec_Ascii.calls (a.size + 1) a true W (by rw [ascii_is a (by omega) _ (by omega), ha]))
  have HB := Lib.hid (fun (W : World) => spec_Ascii.calls (b.size + 1) b false W (by rw [ascii_is b (by omega) _ (by omega), hb]))
  clear ha hb
  have hbc := Below.refl w.heap.size w
  go_enter Tryd.func6, Tryd.ntmps6
  go_wp2_with (first
    | (go_at_call 9; with_reducible refine (HA.out _).mono ?_; rintro e w2 ⟨rfl, hd2⟩; replace hbc := below_step hbc hd2.below)
    | (go_at_call 9; refine (HB.out _).mono ?_; rintro e w3 ⟨rfl, hd3⟩; replace hbc := below_step hbc hd3.below))
  go_ret
  exact ⟨rfl, hbc⟩
theorem law_many (ha : ascii a = true) (hb : ascii b = true) (hm : 2000 < a.size + b.size) : Calls Tryd.prog 6 #[.string a, .string b] w fun e w' => e = .returned (.bool true) ∧ Below w.heap.size w w' := by
  have HA := Lib.hid (fun (W : World) => spec_Ascii.calls (a.size + 1) a true W (by rw [ascii_is a (by omega) _ (by omega), ha]))
  have HB := Lib.hid (fun (W : World) => spec_Ascii.calls (b.size + 1) b true W (by rw [ascii_is b (by omega) _ (by omega), hb]))
  clear ha hb
  have hbc := Below.refl w.heap.size w
  have hz : wrap64 ((a.size : Int) + (b.size : Int)) = ((a.size + b.size : Nat) : Int) := by unfold wrap64; omega
  have hz2 : (((a.size + b.size : Nat) : Int)) > 2000 := by omega
  have HZ := Lib.hid hz
  clear hz
  go_enter Tryd.func6, Tryd.ntmps6
  go_wp2_with (first
    | (go_at_call 9; with_reducible refine (HA.out _).mono ?_; rintro e w2 ⟨rfl, hd2⟩; replace hbc := below_step hbc hd2.below)
    | (go_at_call 9; refine (HB.out _).mono ?_; rintro e w3 ⟨rfl, hd3⟩; replace hbc := below_step hbc hd3.below))
  go_ret
  exact ⟨rfl, hbc⟩
end
theorem namesRead (K g : Nat) (p q : List (List ByteArray)) (N : List ByteArray) (W : World) (h2 : Kd.C (Kd.slice 22 (Kd.slice 9 Kd.string)) W (some ⟨g, 0, none⟩) 2 [p, q]) (hN : spec_TagNames.f K [p, q] = some N) :
    Calls Tryd.prog 29 #[.slice (some ⟨g, 0, none⟩) 2 2] W fun e w' => ∃ A c, e = .returned (.slice A N.length c) ∧ N.length ≤ c ∧ Kd.C Kd.string w' A N.length N ∧ Below W.heap.size W w' :=
  (spec_TagNames.calls K (some ⟨g, 0, none⟩) 2 [p, q] N W h2 (by simp) hN).mono fun e w' ⟨v, he, hR, hb⟩ => by
    obtain ⟨A, c, rfl, hc, hC⟩ := Kd.R_reads hR
    exact ⟨A, c, he, hc, hC, hb⟩
theorem assignedRead (A : Option Addr) (c : Nat) (N : List ByteArray) (n : Int) (r : List ByteArray) (W : World) (hC : Kd.C Kd.string W A N.length N) (hc : N.length ≤ c) (hr : spec_Assigned.f (N.length + 1) N n = some r) :
    Calls Tryd.prog 30 #[.slice A N.length c, .int .i64 n] W fun e w' => ∃ A c, e = .returned (.slice A r.length c) ∧ r.length ≤ c ∧ Kd.C Kd.string w' A r.length r ∧ Below W.heap.size W w' :=
  (spec_Assigned.calls (N.length + 1) A c N n r W hC hc hr).mono fun e w' ⟨v, he, hR, hb⟩ => by
    obtain ⟨A, c, rfl, hc, hC⟩ := Kd.R_reads hR
    exact ⟨A, c, he, hc, hC, hb⟩
section
variable (a b : ByteArray) (w : World) (h1 : ¬ 2147483647 < a.size) (h2 : ¬ 2147483647 < b.size) (h3 : ¬ 2000 < a.size + b.size) (ha : ascii a = true) (hb : ascii b = true)
  (p q : List (List ByteArray)) (N : List ByteArray) (K : Nat) (hN : spec_TagNames.f K [p, q] = some N)
include h1 h2 h3 ha hb hN
theorem law_no1 (bb : Bool) (r1 : Reads 27 a w p false) (r2 : Reads 27 b w q bb) (r3 : Reads 28 a w p false) (r4 : Reads 28 b w q bb) : Calls Tryd.prog 6 #[.string a, .string b] w fun e w' => e = .returned (.bool true) ∧ Below w.heap.size w w' := by
  have HA := Lib.hid (fun (W : World) => spec_Ascii.calls (a.size + 1) a true W (by rw [ascii_is a (by omega) _ (by omega), ha]))
  have HB := Lib.hid (fun (W : World) => spec_Ascii.calls (b.size + 1) b true W (by rw [ascii_is b (by omega) _ (by omega), hb]))
  have HN := Lib.hid (fun (W : World) (g : Nat) (A B : Option Addr) (c d : Nat) (e : TypeId) (fr : Nat × Nat) (hg : W.heap[g]? = some (Obj.cells #[.slice A p.length c, .slice B q.length d] e fr)) (hA : Kd.C (Kd.slice 9 Kd.string) W A p.length p) (hc : p.length ≤ c) (hB : Kd.C (Kd.slice 9 Kd.string) W B q.length q) (hd : q.length ≤ d) => namesRead K g p q N W (two_lists hg hA hc hB hd) hN)
  have hbc := Below.refl w.heap.size w
  have HZ := Lib.hid (show wrap64 ((a.size : Int) + (b.size : Int)) = ((a.size + b.size : Nat) : Int) from by unfold wrap64; omega)
  have hz2 : ¬ (((a.size + b.size : Nat) : Int)) > 2000 := by omega
  have R1 := Lib.hid r1
  have R2 := Lib.hid r2
  have R3 := Lib.hid r3
  have R4 := Lib.hid r4
  clear r1 r2 r3 r4 ha hb hN
  cases bb
  all_goals
    go_enter Tryd.func6, Tryd.ntmps6
    go_wp2_with (first
    | (go_at_call 9; with_reducible refine (HA.out _).mono ?_; rintro e w2 ⟨rfl, hd2⟩; replace hbc := below_step hbc hd2.below)
    | (go_at_call 9; refine (HB.out _).mono ?_; rintro e w3 ⟨rfl, hd3⟩; replace hbc := below_step hbc hd3.below)
    | (go_at_call 27; with_reducible refine (R1.out _ hbc).mono ?_; rintro e w4 ⟨A4, c4, rfl, hc4, hC4, hb4⟩; have HC4 := Aside0.mk hC4; clear hC4; replace hbc := below_step hbc hb4)
    | (go_at_call 27; refine (R2.out _ hbc).mono ?_; rintro e w5 ⟨A5, c5, rfl, hc5, hC5, hb5⟩; have HC5 := Aside0.mk hC5; clear hC5; replace HC4 := Aside0.mk (Kd.C_below HC4.out hb5); replace hbc := below_step hbc hb5)
    | (go_at_call 28; with_reducible refine (R3.out _ hbc).mono ?_; rintro e w6 ⟨A6, c6, rfl, hc6, hC6, hb6⟩; have HC6 := Aside0.mk hC6; clear hC6; replace HC4 := Aside0.mk (Kd.C_below HC4.out hb6); replace HC5 := Aside0.mk (Kd.C_below HC5.out hb6); replace hbc := below_step hbc hb6)
    | (go_at_call 28; refine (R4.out _ hbc).mono ?_; rintro e w7 ⟨A7, c7, rfl, hc7, hC7, hb7⟩; have HC7 := Aside0.mk hC7; clear hC7; replace HC4 := Aside0.mk (Kd.C_below HC4.out hb7); replace HC5 := Aside0.mk (Kd.C_below HC5.out hb7); replace HC6 := Aside0.mk (Kd.C_below HC6.out hb7); replace hbc := below_step hbc hb7)
    | (go_at_call 29; refine (HN.out _ _ _ _ _ _ _ _ (blk_new w7 _) (Kd.C_below HC6.out (below_alloc (Below.refl _ _) _)) hc6 (Kd.C_below HC7.out (below_alloc (Below.refl _ _) _)) hc7).mono ?_; rintro e w8 ⟨A8, c8, rfl, hc8, hC8, hb8⟩; have HC8 := Aside0.mk hC8; clear hC8; have hb78 := below_step (below_alloc (Below.refl w7.heap.size w7) _) hb8; replace HC4 := Aside0.mk (Kd.C_below HC4.out hb78); replace HC5 := Aside0.mk (Kd.C_below HC5.out hb78); replace HC6 := Aside0.mk (Kd.C_below HC6.out hb78); replace HC7 := Aside0.mk (Kd.C_below HC7.out hb78); replace hbc := below_step hbc hb78; clear hb78))
    go_ret
    exact ⟨rfl, hbc⟩
theorem law_no2 (r1 : Reads 27 a w p true) (r2 : Reads 27 b w q false) (r3 : Reads 28 a w p true) (r4 : Reads 28 b w q false) : Calls Tryd.prog 6 #[.string a, .string b] w fun e w' => e = .returned (.bool true) ∧ Below w.heap.size w w' := by
  have HA := Lib.hid (fun (W : World) => spec_Ascii.calls (a.size + 1) a true W (by rw [ascii_is a (by omega) _ (by omega), ha]))
  have HB := Lib.hid (fun (W : World) => spec_Ascii.calls (b.size + 1) b true W (by rw [ascii_is b (by omega) _ (by omega), hb]))
  have HN := Lib.hid (fun (W : World) (g : Nat) (A B : Option Addr) (c d : Nat) (e : TypeId) (fr : Nat × Nat) (hg : W.heap[g]? = some (Obj.cells #[.slice A p.length c, .slice B q.length d] e fr)) (hA : Kd.C (Kd.slice 9 Kd.string) W A p.length p) (hc : p.length ≤ c) (hB : Kd.C (Kd.slice 9 Kd.string) W B q.length q) (hd : q.length ≤ d) => namesRead K g p q N W (two_lists hg hA hc hB hd) hN)
  have hbc := Below.refl w.heap.size w
  have HZ := Lib.hid (show wrap64 ((a.size : Int) + (b.size : Int)) = ((a.size + b.size : Nat) : Int) from by unfold wrap64; omega)
  have hz2 : ¬ (((a.size + b.size : Nat) : Int)) > 2000 := by omega
  have R1 := Lib.hid r1
  have R2 := Lib.hid r2
  have R3 := Lib.hid r3
  have R4 := Lib.hid r4
  clear r1 r2 r3 r4 ha hb hN
  go_enter Tryd.func6, Tryd.ntmps6
  go_wp2_with (first
    | (go_at_call 9; with_reducible refine (HA.out _).mono ?_; rintro e w2 ⟨rfl, hd2⟩; replace hbc := below_step hbc hd2.below)
    | (go_at_call 9; refine (HB.out _).mono ?_; rintro e w3 ⟨rfl, hd3⟩; replace hbc := below_step hbc hd3.below)
    | (go_at_call 27; with_reducible refine (R1.out _ hbc).mono ?_; rintro e w4 ⟨A4, c4, rfl, hc4, hC4, hb4⟩; have HC4 := Aside0.mk hC4; clear hC4; replace hbc := below_step hbc hb4)
    | (go_at_call 27; refine (R2.out _ hbc).mono ?_; rintro e w5 ⟨A5, c5, rfl, hc5, hC5, hb5⟩; have HC5 := Aside0.mk hC5; clear hC5; replace HC4 := Aside0.mk (Kd.C_below HC4.out hb5); replace hbc := below_step hbc hb5)
    | (go_at_call 28; with_reducible refine (R3.out _ hbc).mono ?_; rintro e w6 ⟨A6, c6, rfl, hc6, hC6, hb6⟩; have HC6 := Aside0.mk hC6; clear hC6; replace HC4 := Aside0.mk (Kd.C_below HC4.out hb6); replace HC5 := Aside0.mk (Kd.C_below HC5.out hb6); replace hbc := below_step hbc hb6)
    | (go_at_call 28; refine (R4.out _ hbc).mono ?_; rintro e w7 ⟨A7, c7, rfl, hc7, hC7, hb7⟩; have HC7 := Aside0.mk hC7; clear hC7; replace HC4 := Aside0.mk (Kd.C_below HC4.out hb7); replace HC5 := Aside0.mk (Kd.C_below HC5.out hb7); replace HC6 := Aside0.mk (Kd.C_below HC6.out hb7); replace hbc := below_step hbc hb7)
    | (go_at_call 29; refine (HN.out _ _ _ _ _ _ _ _ (blk_new w7 _) (Kd.C_below HC6.out (below_alloc (Below.refl _ _) _)) hc6 (Kd.C_below HC7.out (below_alloc (Below.refl _ _) _)) hc7).mono ?_; rintro e w8 ⟨A8, c8, rfl, hc8, hC8, hb8⟩; have HC8 := Aside0.mk hC8; clear hC8; have hb78 := below_step (below_alloc (Below.refl w7.heap.size w7) _) hb8; replace HC4 := Aside0.mk (Kd.C_below HC4.out hb78); replace HC5 := Aside0.mk (Kd.C_below HC5.out hb78); replace HC6 := Aside0.mk (Kd.C_below HC6.out hb78); replace HC7 := Aside0.mk (Kd.C_below HC7.out hb78); replace hbc := below_step hbc hb78; clear hb78))
  go_ret
  exact ⟨rfl, hbc⟩
theorem law_names (hn : 10 < N.length) (hn2 : N.length ≤ 2147483647) (r1 : Reads 27 a w p true) (r2 : Reads 27 b w q true) (r3 : Reads 28 a w p true) (r4 : Reads 28 b w q true) : Calls Tryd.prog 6 #[.string a, .string b] w fun e w' => e = .returned (.bool true) ∧ Below w.heap.size w w' := by
  have HA := Lib.hid (fun (W : World) => spec_Ascii.calls (a.size + 1) a true W (by rw [ascii_is a (by omega) _ (by omega), ha]))
  have HB := Lib.hid (fun (W : World) => spec_Ascii.calls (b.size + 1) b true W (by rw [ascii_is b (by omega) _ (by omega), hb]))
  have HN := Lib.hid (fun (W : World) (g : Nat) (A B : Option Addr) (c d : Nat) (e : TypeId) (fr : Nat × Nat) (hg : W.heap[g]? = some (Obj.cells #[.slice A p.length c, .slice B q.length d] e fr)) (hA : Kd.C (Kd.slice 9 Kd.string) W A p.length p) (hc : p.length ≤ c) (hB : Kd.C (Kd.slice 9 Kd.string) W B q.length q) (hd : q.length ≤ d) => namesRead K g p q N W (two_lists hg hA hc hB hd) hN)
  have hbc := Below.refl w.heap.size w
  have HZ := Lib.hid (show wrap64 ((a.size : Int) + (b.size : Int)) = ((a.size + b.size : Nat) : Int) from by unfold wrap64; omega)
  have hz2 : ¬ (((a.size + b.size : Nat) : Int)) > 2000 := by omega
  have R1 := Lib.hid r1
  have R2 := Lib.hid r2
  have R3 := Lib.hid r3
  have R4 := Lib.hid r4
  clear r1 r2 r3 r4 ha hb hN
  go_enter Tryd.func6, Tryd.ntmps6
  go_wp2_with (first
    | (go_at_call 9; with_reducible refine (HA.out _).mono ?_; rintro e w2 ⟨rfl, hd2⟩; replace hbc := below_step hbc hd2.below)
    | (go_at_call 9; refine (HB.out _).mono ?_; rintro e w3 ⟨rfl, hd3⟩; replace hbc := below_step hbc hd3.below)
    | (go_at_call 27; with_reducible refine (R1.out _ hbc).mono ?_; rintro e w4 ⟨A4, c4, rfl, hc4, hC4, hb4⟩; have HC4 := Aside0.mk hC4; clear hC4; replace hbc := below_step hbc hb4)
    | (go_at_call 27; refine (R2.out _ hbc).mono ?_; rintro e w5 ⟨A5, c5, rfl, hc5, hC5, hb5⟩; have HC5 := Aside0.mk hC5; clear hC5; replace HC4 := Aside0.mk (Kd.C_below HC4.out hb5); replace hbc := below_step hbc hb5)
    | (go_at_call 28; with_reducible refine (R3.out _ hbc).mono ?_; rintro e w6 ⟨A6, c6, rfl, hc6, hC6, hb6⟩; have HC6 := Aside0.mk hC6; clear hC6; replace HC4 := Aside0.mk (Kd.C_below HC4.out hb6); replace HC5 := Aside0.mk (Kd.C_below HC5.out hb6); replace hbc := below_step hbc hb6)
    | (go_at_call 28; refine (R4.out _ hbc).mono ?_; rintro e w7 ⟨A7, c7, rfl, hc7, hC7, hb7⟩; have HC7 := Aside0.mk hC7; clear hC7; replace HC4 := Aside0.mk (Kd.C_below HC4.out hb7); replace HC5 := Aside0.mk (Kd.C_below HC5.out hb7); replace HC6 := Aside0.mk (Kd.C_below HC6.out hb7); replace hbc := below_step hbc hb7)
    | (go_at_call 29; refine (HN.out _ _ _ _ _ _ _ _ (blk_new w7 _) (Kd.C_below HC6.out (below_alloc (Below.refl _ _) _)) hc6 (Kd.C_below HC7.out (below_alloc (Below.refl _ _) _)) hc7).mono ?_; rintro e w8 ⟨A8, c8, rfl, hc8, hC8, hb8⟩; have HC8 := Aside0.mk hC8; clear hC8; have hb78 := below_step (below_alloc (Below.refl w7.heap.size w7) _) hb8; replace HC4 := Aside0.mk (Kd.C_below HC4.out hb78); replace HC5 := Aside0.mk (Kd.C_below HC5.out hb78); replace HC6 := Aside0.mk (Kd.C_below HC6.out hb78); replace HC7 := Aside0.mk (Kd.C_below HC7.out hb78); replace hbc := below_step hbc hb78; clear hb78))
  go_ret
  exact ⟨rfl, hbc⟩
end
theorem shl_is (m : Nat) (h : m ≤ 10) : Op.shift .shl .i64 1 .i64 (m : Int) = pure (.int .i64 ((2 ^ m : Nat) : Int)) := by
  have h2 : ∀ m : Fin 11, IntKind.i64.wrap (1 * 2 ^ ((m.val : Int)).toNat) = ((2 ^ m.val : Nat) : Int) := by decide +kernel
  have h3 : Op.shift .shl .i64 1 .i64 (m : Int) = pure (.int .i64 (IntKind.i64.wrap (1 * 2 ^ ((m : Int)).toNat))) := shift_shl .i64 .i64 1 (m : Int) (by omega) (show (m : Int) ≤ 64 by omega)
  exact h3.trans (by rw [h2 ⟨m, by omega⟩])
theorem bothRead (g : Nat) (p q : List (List ByteArray)) (A1 : Option Addr) (c1 : Nat) (tags : List ByteArray) (W : World) (h2 : Kd.C (Kd.slice 22 (Kd.slice 9 Kd.string)) W (some ⟨g, 0, none⟩) 2 [p, q])
    (hsp : small 3000 2147483647 p) (hsq : small 3000 2147483647 q) (hap : ∀ o ∈ p, ∀ x ∈ o, ascii x = true) (haq : ∀ o ∈ q, ∀ x ∈ o, ascii x = true) (hT : TabP W) (hr1 : Kd.C Kd.string W A1 tags.length tags) (hc1 : tags.length ≤ c1) (hl : tags.length ≤ 10) :
    Calls Tryd.prog 31 #[.slice (some ⟨g, 0, none⟩) 2 2, .slice A1 tags.length c1] W fun e w' => e = .returned (.bool ((p.any fun o => o.all fun s => evalT s tags) && (q.any fun o => o.all fun s => evalT s tags))) ∧ Below W.heap.size W w' :=
  (implBoth (some ⟨g, 0, none⟩) 2 p q A1 c1 tags W h2 (by omega) 3000 (by omega) (by have := hsp.1; omega) (by have := hsq.1; omega) (fun o ho => (hsp.2 o ho).1) (fun o ho => (hsq.2 o ho).1) (plain_of hsp hap) (plain_of hsq haq) hT hr1 hc1 (by omega)).mono fun e w' ⟨he, hb⟩ => by
    refine ⟨?_, hb⟩
    rw [he]
    simp
section
variable (a b : ByteArray) (w : World) (h1 : ¬ 2147483647 < a.size) (h2 : ¬ 2147483647 < b.size) (h3 : ¬ 2000 < a.size + b.size) (ha : ascii a = true) (hb : ascii b = true)
  (p q : List (List ByteArray)) (N : List ByteArray) (K : Nat) (hN : spec_TagNames.f K [p, q] = some N)
include h1 h2 h3 ha hb hN
set_option maxHeartbeats 1600000 in
theorem hard (hn : N.length ≤ 10) (r1 : Reads 27 a w p true) (r2 : Reads 27 b w q true) (r3 : Reads 28 a w p true) (r4 : Reads 28 b w q true)
    (hsp : small 3000 2147483647 p) (hsq : small 3000 2147483647 q) (hap : ∀ o ∈ p, ∀ x ∈ o, ascii x = true) (haq : ∀ o ∈ q, ∀ x ∈ o, ascii x = true) (hT : TabP w) : Calls Tryd.prog 6 #[.string a, .string b] w fun e w' => e = .returned (.bool true) ∧ Below w.heap.size w w' := by
  have HA := Lib.hid (fun (W : World) => spec_Ascii.calls (a.size + 1) a true W (by rw [ascii_is a (by omega) _ (by omega), ha]))
  have HB := Lib.hid (fun (W : World) => spec_Ascii.calls (b.size + 1) b true W (by rw [ascii_is b (by omega) _ (by omega), hb]))
  have HN := Lib.hid (fun (W : World) (g : Nat) (A B : Option Addr) (c d : Nat) (e : TypeId) (fr : Nat × Nat) (hg : W.heap[g]? = some (Obj.cells #[.slice A p.length c, .slice B q.length d] e fr)) (hA : Kd.C (Kd.slice 9 Kd.string) W A p.length p) (hc : p.length ≤ c) (hB : Kd.C (Kd.slice 9 Kd.string) W B q.length q) (hd : q.length ≤ d) => namesRead K g p q N W (two_lists hg hA hc hB hd) hN)
  have hbc := Below.refl w.heap.size w
  have HZ := Lib.hid (show wrap64 ((a.size : Int) + (b.size : Int)) = ((a.size + b.size : Nat) : Int) from by unfold wrap64; omega)
  have hz2 : ¬ (((a.size + b.size : Nat) : Int)) > 2000 := by omega
  have R1 := Lib.hid r1
  have R2 := Lib.hid r2
  have R3 := Lib.hid r3
  have R4 := Lib.hid r4
  have E4 := Lib.hid (fun (A : Option Addr) (c : Nat) (A1 : Option Addr) (c1 : Nat) (tags : List ByteArray) (W : World) (hr : Kd.C (Kd.slice 9 Kd.string) W A p.length p) (hc : p.length ≤ c) (hr1 : Kd.C Kd.string W A1 tags.length tags) (hc1 : tags.length ≤ c1) (hl : tags.length ≤ 10) (hb : Below w.heap.size w W) =>
    implEvaluate A c p A1 c1 tags W hr hc hsp hap (hT.below hb) hr1 hc1 (by omega))
  have F := Lib.hid (fun (l : List (List ByteArray)) (hs : small 3000 2147483647 l) (A : Option Addr) (c : Nat) (A1 : Option Addr) (c1 : Nat) (tags : List ByteArray) (W : World) (hr : Kd.C (Kd.slice 9 Kd.string) W A l.length l) (hc : l.length ≤ c) (hr1 : Kd.C Kd.string W A1 tags.length tags) (hc1 : tags.length ≤ c1) (hl : tags.length ≤ 10) =>
    spec_ConstraintEvaluate.calls (2 * 3000 + 2147483647 + tags.length + 1) A c l A1 c1 tags _ W hr hc hr1 hc1 (constraintEvaluate_is tags (by omega) 3000 2147483647 l hs (by omega) (by omega) _ (by omega)))
  have E6 := Lib.hid (F.out p hsp)
  have E7 := Lib.hid (F.out q hsq)
  have EB := Lib.hid (fun (W : World) (g : Nat) (A B : Option Addr) (c d : Nat) (e : TypeId) (fr : Nat × Nat) (hg : W.heap[g]? = some (Obj.cells #[.slice A p.length c, .slice B q.length d] e fr)) (hA : Kd.C (Kd.slice 9 Kd.string) W A p.length p) (hc : p.length ≤ c) (hB : Kd.C (Kd.slice 9 Kd.string) W B q.length q) (hd : q.length ≤ d)
    (A1 : Option Addr) (c1 : Nat) (tags : List ByteArray) (hr1 : Kd.C Kd.string W A1 tags.length tags) (hc1 : tags.length ≤ c1) (hl : tags.length ≤ 10) (hb : Below w.heap.size w W) =>
    bothRead g p q A1 c1 tags W (two_lists hg hA hc hB hd) hsp hsq hap haq (hT.below hb) hr1 hc1 hl)
  have HAS := Lib.hid (fun (n : Nat) => assigned_is n N (by omega))
  have HSH := Lib.hid (shl_is N.length hn)
  have hL : 2 ^ N.length ≤ 1024 := Nat.pow_le_pow_right (by omega) hn
  clear r1 r2 r3 r4 ha hb hN hsp hsq hap haq hT F
  go_enter Tryd.func6, Tryd.ntmps6
  go_wp2_with (first
    | (go_at_call 9; with_reducible refine (HA.out _).mono ?_; rintro e w2 ⟨rfl, hd2⟩; replace hbc := below_step hbc hd2.below)
    | (go_at_call 9; refine (HB.out _).mono ?_; rintro e w3 ⟨rfl, hd3⟩; replace hbc := below_step hbc hd3.below)
    | (go_at_call 27; with_reducible refine (R1.out _ hbc).mono ?_; rintro e w4 ⟨A4, c4, rfl, hc4, hC4, hb4⟩; have HC4 := Aside0.mk hC4; clear hC4; replace hbc := below_step hbc hb4)
    | (go_at_call 27; refine (R2.out _ hbc).mono ?_; rintro e w5 ⟨A5, c5, rfl, hc5, hC5, hb5⟩; have HC5 := Aside0.mk hC5; clear hC5; replace HC4 := Aside0.mk (Kd.C_below HC4.out hb5); replace hbc := below_step hbc hb5)
    | (go_at_call 28; with_reducible refine (R3.out _ hbc).mono ?_; rintro e w6 ⟨A6, c6, rfl, hc6, hC6, hb6⟩; have HC6 := Aside0.mk hC6; clear hC6; replace HC4 := Aside0.mk (Kd.C_below HC4.out hb6); replace HC5 := Aside0.mk (Kd.C_below HC5.out hb6); replace hbc := below_step hbc hb6)
    | (go_at_call 28; refine (R4.out _ hbc).mono ?_; rintro e w7 ⟨A7, c7, rfl, hc7, hC7, hb7⟩; have HC7 := Aside0.mk hC7; clear hC7; replace HC4 := Aside0.mk (Kd.C_below HC4.out hb7); replace HC5 := Aside0.mk (Kd.C_below HC5.out hb7); replace HC6 := Aside0.mk (Kd.C_below HC6.out hb7); replace hbc := below_step hbc hb7)
    | (go_at_call 29; refine (HN.out _ _ _ _ _ _ _ _ (blk_new w7 _) (Kd.C_below HC6.out (below_alloc (Below.refl _ _) _)) hc6 (Kd.C_below HC7.out (below_alloc (Below.refl _ _) _)) hc7).mono ?_; rintro e w8 ⟨A8, c8, rfl, hc8, hC8, hb8⟩; have HC8 := Aside0.mk hC8; clear hC8; have hb78 := below_step (below_alloc (Below.refl w7.heap.size w7) _) hb8; replace HC4 := Aside0.mk (Kd.C_below HC4.out hb78); replace HC5 := Aside0.mk (Kd.C_below HC5.out hb78); replace HC6 := Aside0.mk (Kd.C_below HC6.out hb78); replace HC7 := Aside0.mk (Kd.C_below HC7.out hb78); replace hbc := below_step hbc hb78; clear hb78))
  generalize hLL : 2 ^ N.length = L at *
  have HL := Lib.hid hLL
  clear hLL
  go_loopw [14] (fun i wr => ∃ n : Nat, n ≤ L ∧ i = .int .i64 n ∧ Aside0 (Below w8.heap.size w8 wr)) (fun i _ => L - (intOf i).toNat)
  case atStart => exact ⟨0, Nat.zero_le _, rfl, ⟨Below.refl _ _⟩⟩
  case round =>
    obtain ⟨n, hn1, rfl, HBB⟩ := hrel
    by_cases hlt : n < L
    · obtain ⟨r, hr1, hr2⟩ := HAS.out n
      have hb0 := below_step hbc HBB.out
      have X4 := Aside0.mk (Kd.C_below HC4.out HBB.out)
      have X5 := Aside0.mk (Kd.C_below HC5.out HBB.out)
      have X6 := Aside0.mk (Kd.C_below HC6.out HBB.out)
      have X7 := Aside0.mk (Kd.C_below HC7.out HBB.out)
      have X8 := Aside0.mk (Kd.C_below HC8.out HBB.out)
      have HX := Lib.hid (assignedRead A8 c8 N n r wr X8.out hc8 hr1)
      have hrl : r.length ≤ 10 := by omega
      have HSN := Lib.hid (show wrap64 ((n : Int) + 1) = ((n + 1 : Nat) : Int) from by unfold wrap64; omega)
      clear HA HB R1 R2 R3 R4 HN HAS HC4 HC5 HC6 HC7 HC8 hr1 hr2
      have hsh := HSH.out
      clear HSH HL hn
      generalize N.length = m at *
      rename ((m : Int) ≤ (10 : Int)) => hx
      clear hx
      have G4 := Lib.hid (fun (A9 : Option Addr) (c9 : Nat) (W : World) (x4 : Kd.C (Kd.slice 9 Kd.string) W A4 p.length p) (x9 : Kd.C Kd.string W A9 r.length r) (h9 : r.length ≤ c9) (hb : Below w.heap.size w W) => E4.out A4 c4 A9 c9 r W x4 hc4 x9 h9 hrl hb)
      have G6 := Lib.hid (fun (A9 : Option Addr) (c9 : Nat) (W : World) (x6 : Kd.C (Kd.slice 9 Kd.string) W A6 p.length p) (x9 : Kd.C Kd.string W A9 r.length r) (h9 : r.length ≤ c9) => E6.out A6 c6 A9 c9 r W x6 hc6 x9 h9 hrl)
      have G7 := Lib.hid (fun (A9 : Option Addr) (c9 : Nat) (W : World) (x7 : Kd.C (Kd.slice 9 Kd.string) W A7 q.length q) (x9 : Kd.C Kd.string W A9 r.length r) (h9 : r.length ≤ c9) => E7.out A7 c7 A9 c9 r W x7 hc7 x9 h9 hrl)
      have GB := Lib.hid (fun (A9 : Option Addr) (c9 : Nat) (W : World) (g : Nat) (e : TypeId) (fr : Nat × Nat) (hg : W.heap[g]? = some (Obj.cells #[.slice A4 p.length c4, .slice A5 q.length c5] e fr)) (x4 : Kd.C (Kd.slice 9 Kd.string) W A4 p.length p) (x5 : Kd.C (Kd.slice 9 Kd.string) W A5 q.length q) (x9 : Kd.C Kd.string W A9 r.length r) (h9 : r.length ≤ c9) (hb : Below w.heap.size w W) => EB.out W g A4 A5 c4 c5 e fr hg x4 hc4 x5 hc5 A9 c9 r x9 h9 hrl hb)
      clear E4 E6 E7 EB
      generalize (p.any fun o => o.all fun s => evalT s r) = b1 at *
      generalize (q.any fun o => o.all fun s => evalT s r) = b2 at *
      have hwr := HBB.out
      have hbr := hb0
      clear HBB hb0 hbc
      cases b1 <;> cases b2
      all_goals
        go_wp2_with (first
          | (go_at_call 30; refine HX.out.mono ?_; rintro e wn ⟨A9, c9, rfl, hc9, hC9, hd⟩; have HC9 := Aside0.mk hC9; clear hC9; have Y4 := Kd.C_below X4.out hd; have Y5 := Kd.C_below X5.out hd; have Y6 := Kd.C_below X6.out hd; have Y7 := Kd.C_below X7.out hd; clear X4 X5 X6 X7; have X4 := Aside0.mk Y4; have X5 := Aside0.mk Y5; have X6 := Aside0.mk Y6; have X7 := Aside0.mk Y7; clear Y4 Y5 Y6 Y7; replace hbr := below_step hbr hd; replace hwr := below_step hwr hd; clear hd)
          | (go_at_call 23; refine (G4.out A9 c9 _ X4.out HC9.out hc9 hbr).mono ?_; rintro e wn ⟨rfl, hd⟩; have Y9 := Kd.C_below HC9.out hd; clear HC9; have HC9 := Aside0.mk Y9; clear Y9; have Y4 := Kd.C_below X4.out hd; have Y5 := Kd.C_below X5.out hd; have Y6 := Kd.C_below X6.out hd; have Y7 := Kd.C_below X7.out hd; clear X4 X5 X6 X7; have X4 := Aside0.mk Y4; have X5 := Aside0.mk Y5; have X6 := Aside0.mk Y6; have X7 := Aside0.mk Y7; clear Y4 Y5 Y6 Y7; replace hbr := below_step hbr hd; replace hwr := below_step hwr hd; clear hd)
          | (go_at_call 24; with_reducible refine (G6.out A9 c9 _ X6.out HC9.out hc9).mono ?_; rintro e wn ⟨rfl, hdd⟩; have hd := hdd.below; clear hdd; have Y9 := Kd.C_below HC9.out hd; clear HC9; have HC9 := Aside0.mk Y9; clear Y9; have Y4 := Kd.C_below X4.out hd; have Y5 := Kd.C_below X5.out hd; have Y6 := Kd.C_below X6.out hd; have Y7 := Kd.C_below X7.out hd; clear X4 X5 X6 X7; have X4 := Aside0.mk Y4; have X5 := Aside0.mk Y5; have X6 := Aside0.mk Y6; have X7 := Aside0.mk Y7; clear Y4 Y5 Y6 Y7; replace hbr := below_step hbr hd; replace hwr := below_step hwr hd; clear hd)
          | (go_at_call 24; refine (G7.out A9 c9 _ X7.out HC9.out hc9).mono ?_; rintro e wn ⟨rfl, hdd⟩; have hd := hdd.below; clear hdd; have Y9 := Kd.C_below HC9.out hd; clear HC9; have HC9 := Aside0.mk Y9; clear Y9; have Y4 := Kd.C_below X4.out hd; have Y5 := Kd.C_below X5.out hd; have Y6 := Kd.C_below X6.out hd; have Y7 := Kd.C_below X7.out hd; clear X4 X5 X6 X7; have X4 := Aside0.mk Y4; have X5 := Aside0.mk Y5; have X6 := Aside0.mk Y6; have X7 := Aside0.mk Y7; clear Y4 Y5 Y6 Y7; replace hbr := below_step hbr hd; replace hwr := below_step hwr hd; clear hd)
          | (go_at_call 31; refine (GB.out A9 c9 _ _ _ _ (blk_new wn _) (Kd.C_below X4.out (below_alloc (Below.refl _ _) _)) (Kd.C_below X5.out (below_alloc (Below.refl _ _) _)) (Kd.C_below HC9.out (below_alloc (Below.refl _ _) _)) hc9 (below_alloc hbr _)).mono ?_; rintro e wm ⟨rfl, hdd⟩; have hd := below_step (below_alloc (Below.refl wn.heap.size wn) _) hdd; clear hdd; have Y9 := Kd.C_below HC9.out hd; clear HC9; have HC9 := Aside0.mk Y9; clear Y9; have Y4 := Kd.C_below X4.out hd; have Y5 := Kd.C_below X5.out hd; have Y6 := Kd.C_below X6.out hd; have Y7 := Kd.C_below X7.out hd; clear X4 X5 X6 X7; have X4 := Aside0.mk Y4; have X5 := Aside0.mk Y5; have X6 := Aside0.mk Y6; have X7 := Aside0.mk Y7; clear Y4 Y5 Y6 Y7; replace hbr := below_step hbr hd; replace hwr := below_step hwr hd; clear hd))
        exact ⟨⟨n + 1, by omega, by go_num, ⟨hwr⟩⟩, by simp [intOf]; omega⟩
    · have hnl : n = L := by omega
      have hsh := HSH.out
      clear HSH HL hL hn E4 E6 E7 EB R1 R2 R3 R4 HA HB HN HAS
      generalize N.length = m at *
      rename ((m : Int) ≤ (10 : Int)) => hx
      clear hx
      go_wp2
      go_ret
      exact ⟨rfl, below_step hbc HBB.out⟩
end
theorem tot_le (N : Nat) : ∀ (l : List (List ByteArray)), (∀ o ∈ l, o.length ≤ N) → tot l ≤ l.length * N
  | [], _ => by simp [tot]
  | o :: l, h => by
    have h1 := tot_le N l (fun x hx => h x (by simp [hx]))
    have h2 := h o (by simp)
    simp only [tot, List.map_cons, List.sum_cons, List.length_cons, Nat.add_mul] at h1 ⊢
    omega
theorem pcs_ascii : ∀ (ws : List ByteArray) (acc : List (List ByteArray)), (∀ x ∈ ws, ascii x = true) → (∀ o ∈ acc, ∀ x ∈ o, ascii x = true) → ∀ o ∈ (pcs ws acc).1, ∀ x ∈ o, ascii x = true
  | [], acc, _, h => h
  | x :: r, acc, hw, h => by
    simp only [pcs]
    split
    · refine pcs_ascii r (acc ++ [pieces x]) (fun y hy => hw y (by simp [hy])) (fun o ho => ?_)
      rcases List.mem_append.1 ho with ho | ho
      · exact h o ho
      · have : o = pieces x := by simpa using ho
        subst this
        exact pieces_ascii x (hw x (by simp))
    · exact h
theorem pcs_facts (t : ByteArray) (ht : t.size ≤ 2000) (ha : ascii t = true) (p : List (List ByteArray)) (b : Bool) (hp : pcs (words t) [] = (p, b)) : small 3000 2147483647 p ∧ (∀ o ∈ p, ∀ x ∈ o, ascii x = true) ∧ tot p ≤ 9000000 := by
  obtain ⟨h1, h2⟩ := words_size t
  obtain ⟨h3, h4⟩ := pcs_small (words t) [] t.size h2 (fun o ho => by cases ho)
  have h5 := pcs_ascii (words t) [] (words_ascii t ha) (fun o ho => by cases ho)
  rw [hp] at h3 h4 h5
  simp only [List.length_nil, Nat.zero_add] at h3
  have hs : small 3000 2147483647 p := ⟨by omega, fun o ho => ⟨by have := (h4 o ho).1; omega, fun x hx => by have := (h4 o ho).2 x hx; omega⟩⟩
  have h6 := tot_le 3000 p (fun o ho => (hs.2 o ho).1)
  have h7 : p.length * 3000 ≤ 3000 * 3000 := Nat.mul_le_mul_right _ hs.1
  exact ⟨hs, h5, by omega⟩
/-- THE WALK: whatever the texts, FnMeaning returns true and what was there stands. -/
theorem walk (a b : ByteArray) (w : World) (hs : a.size ≤ 9223372036854775807) (hs2 : b.size ≤ 9223372036854775807) (hT : TabP w) (hS : Lib.TabIs Tryd.prog w "strings.asciiSpace" .u8 Lib.asciiSpaceTab) :
    Calls Tryd.prog 6 #[.string a, .string b] w fun e w' => e = .returned (.bool true) ∧ Below w.heap.size w w' := by
  by_cases h1 : 2147483647 < a.size
  · exact law_long a b w (by omega) hs hs2
  by_cases h2 : 2147483647 < b.size
  · exact law_long a b w (by omega) hs hs2
  cases ha : ascii a with
  | false => exact law_asc1 a b w h1 h2 ha
  | true =>
    cases hb : ascii b with
    | false => exact law_asc2 a b w h1 h2 ha hb
    | true =>
      by_cases h3 : 2000 < a.size + b.size
      · exact law_many a b w h1 h2 ha hb h3
      obtain ⟨p, ba, hp⟩ : ∃ p ba, pcs (words a) [] = (p, ba) := ⟨_, _, rfl⟩
      obtain ⟨q, bb, hq⟩ : ∃ q bb, pcs (words b) [] = (q, bb) := ⟨_, _, rfl⟩
      obtain ⟨sp, ap, tp⟩ := pcs_facts a (by omega) ha p ba hp
      obtain ⟨sq, aq, tq⟩ := pcs_facts b (by omega) hb q bb hq
      obtain ⟨K, N, hN, hNl⟩ := names_is p q (by have := sp.1; omega) (by have := sq.1; omega) (fun o ho => by have := (sp.2 o ho).1; omega) (fun o ho => by have := (sq.2 o ho).1; omega) (by omega)
      have htab : ∀ W, Below w.heap.size w W → Lib.TabIs Tryd.prog W "strings.asciiSpace" .u8 Lib.asciiSpaceTab := Lib.tabBelow_of_tabIs hS
      have r1 := implReads a w (by omega) ha hT htab p ba hp
      have r2 := implReads b w (by omega) hb hT htab q bb hq
      have r3 := specReads a w (by omega) p ba hp
      have r4 := specReads b w (by omega) q bb hq
      cases ba with
      | false => exact law_no1 a b w h1 h2 h3 ha hb p q N K hN bb r1 r2 r3 r4
      | true =>
        cases bb with
        | false => exact law_no2 a b w h1 h2 h3 ha hb p q N K hN r1 r2 r3 r4
        | true =>
          by_cases hn : 10 < N.length
          · exact law_names a b w h1 h2 h3 ha hb p q N K hN hn (by omega) r1 r2 r3 r4
          · exact hard a b w h1 h2 h3 ha hb p q N K hN (by omega) r1 r2 r3 r4 sp sq ap aq hT
end Go.Proofs.YtknldfighehplaaDoor.HFnMeaning
