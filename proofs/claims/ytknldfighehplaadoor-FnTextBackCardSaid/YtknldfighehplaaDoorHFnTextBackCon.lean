/- ParseConstraint, the package's and the thin one's; conditions: the first cells of the table of properties, the table of white space, bytes below 128, lengths in bounds. -/
import Derived.Test.YtknldfighehplaaDoorHFnTextBackRead
import Derived.Test.YtknldfighehplaaDoorHFnTextBackFields
import Derived.Test.YtknldfighehplaaDoorHFieldsW
import Derived.Lib.AppendIntMem
namespace Go.Proofs.YtknldfighehplaaDoor.HFnTextBackCon
set_option linter.unusedSimpArgs false
set_option linter.unusedVariables false
open Go.RowKit Go.Proofs.YtknldfighehplaaDoor.HTabP Go.Proofs.YtknldfighehplaaDoor.HSplit Go.Proofs.YtknldfighehplaaDoor.HFnTextBackList Go.Proofs.YtknldfighehplaaDoor.HFnTextBackPlain Go.Proofs.YtknldfighehplaaDoor.HFnTextBackValid Go.Proofs.YtknldfighehplaaDoor.HFnTextBackCut Go.Proofs.YtknldfighehplaaDoor.HFnTextBackEvals Go.Proofs.YtknldfighehplaaDoor.HFnTextBackRead Go.Proofs.YtknldfighehplaaDoor.HFnTextBackFields Go.Proofs.YtknldfighehplaaDoor.PFnTextBack Go.Proofs.YtknldfighehplaaDoorW.PrintWords Go.Proofs.YtknldfighehplaaDoorW.PrintLast Go.Proofs.YtknldfighehplaaDoorW.PrintMore

theorem S_made (W : World) (base g : Nat) (hb : base ≤ g) (hg : W.heap[g]? = some (.cells #[] 55 (0, 0))) : Kd.S (Kd.slice 44 Kd.string) 55 W base (fun _ => True) (.slice (some ⟨g, 0, none⟩) 0 0) [] :=
  ⟨fun _ => 0, fun _ _ => trivial, [], ⟨by simp, .inr ⟨g, 0, #[], rfl, hb, hg, Nat.le_refl _, by unfold maxLen; omega, by simp, by simp⟩⟩, Reps.none _ _⟩
theorem R_cells {W : World} {base g : Nat} {l : List ByteArray} (hb : base ≤ g) (hl : l.length ≤ 1000000000) (hg : W.heap[g]? = some (Obj.cells (l.map Value.string).toArray 9 (0, 0))) : Kd.string.R 9 W base (fun _ => True) (.slice (some ⟨g, 0, none⟩) l.length l.length) l :=
  Kd.R_of_own ⟨by simp [encs], .inr ⟨g, l.length, _, rfl, hb, hg, Nat.le_refl _, by unfold maxLen; omega, by simp, by have : (l.map Value.string).take l.length = l.map Value.string := List.take_of_length_le (by simp); simpa [encs] using this⟩⟩ (fun _ _ => trivial)
theorem words_cells (t : ByteArray) : ((Lib.fields t.data.toList).map fun l => Value.string ⟨l.toArray⟩).toArray = ((words t).map Value.string).toArray := by
  unfold words
  rw [List.map_map]
  rfl
theorem fieldsU (t : ByteArray) (W : World) (ht : t.size ≤ 8000000000000) (hw : (words t).length ≤ 1000001) (ha : ascii t = true) (htab : Lib.TabIs Tryd.prog W "strings.asciiSpace" .u8 Lib.asciiSpaceTab) :
    Calls Tryd.prog 65 #[.string t] W fun e w' => ∃ A, e = .returned (.slice A (words t).length (words t).length) ∧ Kd.string.R 9 w' W.heap.size (fun _ => True) (.slice A (words t).length (words t).length) (words t) ∧ Below W.heap.size W w' := by
  have hlen : (Lib.fields t.data.toList).length = (words t).length := by simp [words]
  refine (HFieldsW.fields t W (by omega) (fun j b hb => ?_) htab).mono fun e w' ⟨he, h2⟩ => ?_
  · have := (ascii_iff t).1 ha b (List.mem_of_getElem? hb)
    omega
  · subst h2
    rw [hlen] at he
    rw [words_cells]
    exact ⟨_, he, R_cells (Nat.le_refl _) (by omega) (blk_new W _), below_alloc (Below.refl _ _) _⟩
def ConRet (w : World) (r : List (List ByteArray) × Bool) (e : Ending) (w' : World) : Prop :=
  ∃ v u, e = .returned (.tuple #[v, u]) ∧ ErrV r.2 u ∧ Kd.S (Kd.slice 44 Kd.string) 55 w' w.heap.size (fun _ => True) v r.1 ∧ Below w.heap.size w w'
theorem pcs_step (x : ByteArray) (r : List ByteArray) (acc : List (List ByteArray)) : pcs (x :: r) acc = if (pieces x).all valid = true then pcs r (acc ++ [pieces x]) else (acc, false) := rfl

set_option maxHeartbeats 1600000 in
theorem parseConstraint (t : ByteArray) (w : World) (ht : t.size ≤ 8000000000000) (hwl2 : (words t).length ≤ 1000001) (hq : ∀ x ∈ words t, (pieces x).length ≤ 1000001 ∧ ∀ y ∈ pieces x, y.size ≤ 2147483647) (ha : ascii t = true) (hT : TabP w) (htab : ∀ W, Below w.heap.size w W → Lib.TabIs Tryd.prog W "strings.asciiSpace" .u8 Lib.asciiSpaceTab) :
    Calls Tryd.prog 51 #[.string t] w (ConRet w (pcs (words t) [])) := by
  have HF := Lib.hid (fun (W : World) (hb : Below w.heap.size w W) => fieldsU t W ht hwl2 ha (htab W hb))
  obtain ⟨hwl, hws⟩ := words_size t
  have HV := Lib.hid (fun (k : Nat) (hk : k < (words t).length) (W : World) (hb : Below w.heap.size w W) => parseOptionR (rdOf ByteArray.empty (words t) k) W (by have := hws _ (rdOf_mem hk); omega) (hq _ (rdOf_mem hk)).1 (hq _ (rdOf_mem hk)).2 (words_ascii t ha _ (rdOf_mem hk)) (hT.below hb))
  have HPC := Lib.hid (show ∀ (k : Nat) (acc : List (List ByteArray)), k < (words t).length → pcs ((words t).drop k) acc = if (pieces (rdOf ByteArray.empty (words t) k)).all valid = true then pcs ((words t).drop (k + 1)) (acc ++ [pieces (rdOf ByteArray.empty (words t) k)]) else (acc, false) from fun k acc hk => by rw [drop_rdOf hk, pcs_step])
  clear ht ha hT htab hwl hws hq
  generalize words t = ws at *
  go_enter Tryd.func51, Tryd.ntmps51
  go_wp2_with (go_at_call 65; refine (HF.out _ (below_alloc (Below.refl _ _) _)).mono ?_; rintro e w1 ⟨A0, rfl, hC, hb1⟩; have HC1 := Aside0.mk (Kd.R_lower hC (show w.heap.size ≤ (w.alloc (Obj.cells #[] 55)).heap.size from by simp)); have HB1 := Aside0.mk (below_step (below_alloc (Below.refl w.heap.size w) (Obj.cells #[] 55)) hb1); have HO1 := Aside0.mk (S_made w1 w.heap.size w.heap.size (Nat.le_refl _) (blk_below (blk_new w (Obj.cells #[] 55)) hb1)); clear hC hb1)
  go_loopw [4, 13] (fun v4 i wr => ∃ (k : Nat) (acc : List (List ByteArray)), k ≤ ws.length ∧ acc.length ≤ k ∧ i = .int .i64 k ∧ Aside0 (pcs ws [] = pcs (ws.drop k) acc) ∧ Aside0 (Kd.S (Kd.slice 44 Kd.string) 55 wr w.heap.size (fun _ => True) v4 acc) ∧ Aside0 (Kd.string.R 9 wr w.heap.size (fun _ => True) (.slice A0 ws.length ws.length) ws) ∧ Aside0 (Below w.heap.size w wr)) (fun _ i _ => ws.length - (intOf i).toNat)
  case atStart => exact ⟨0, [], Nat.zero_le _, Nat.le_refl _, rfl, ⟨rfl⟩, HO1, HC1, HB1⟩
  case round =>
    clear HO1 HB1 HC1
    obtain ⟨k, acc, hk, hak, rfl, HP, HO, HC, HB⟩ := hrel
    by_cases hlt : k < ws.length
    · obtain ⟨ad, e0, hx0⟩ := Kd.at_string (Kd.R_reads' HC.out).2.2 (k : Int) (by omega) (by omega)
      subst e0
      have y0 := hx0
      simp only [Int.toNat_natCast] at y0
      have HVV := Lib.hid (HV.out k hlt wr HB.out)
      have hpc := HP.out.trans (HPC.out k acc hlt)
      have HPP := Lib.hid hpc
      clear hx0 hpc HV HPC HP
      generalize rdOf ByteArray.empty ws (k : Int) = x at *
      generalize pieces x = p at *
      cases hvx : p.all valid with
      | true =>
        rw [hvx] at HVV HPP
        simp only [if_true] at HPP
        clear hvx
        have LM := Aside0.mk (show acc.length < 5864062014805 by omega)
        go_wp2_with (first
          | (go_at_call 40; refine HVV.out.mono ?_; rintro e w7 ⟨A9, c9, v9, rfl, hv9, hR9, hb9⟩; simp only [ErrV] at hv9; obtain rfl := hv9; have HO7 := Aside0.mk (Kd.S_elder' HO.out (Kd.R_base hR9) hb9); have HI7 := Aside0.mk (Kd.R_lower hR9 (below_size HB.out)); have HB7 := Aside0.mk (below_step HB.out hb9); have HC7 := Aside0.mk (Kd.R_below HC.out hb9); clear hR9 hb9)
          | (at_builtin; refine Kd.S_append (Kd.slice 44 Kd.string) (w0 := w) w.heap.size rfl (.tmp 26) (.tmp 28) 62 55 (.slice none 0 0) 24 rfl Tryd.underlying62 info55 rfl (by decide) (by omega) u4 acc p [.slice A9 p.length c9] (fun _ => True) (fun k_ => some k_ = (.slice A9 p.length c9 : Value).ownBlock) rfl rfl ?aP (fun k_ hk_ => ((Kd.R_mono (ok' := fun k_ => ((fun _ => True)) k_ ∧ some k_ ≠ (u4 : Value).ownBlock) (Kd.R_apart' (HI7.out) (Kd.S_typed HO7.out) (by decide)) (fun k_ hk => ⟨trivial, hk.2⟩))).1 k_ hk_.symm) ?aF ?aO ?aB ?aS ?aL ?_; (case aP => exact Kd.M_row (Kd.R_mono (Kd.R_tight rfl (Kd.R_mono (ok' := fun k_ => ((fun _ => True)) k_ ∧ some k_ ≠ (u4 : Value).ownBlock) (Kd.R_apart' (HI7.out) (Kd.S_typed HO7.out) (by decide)) (fun k_ hk => ⟨trivial, hk.2⟩))) (fun _ h_ => h_))); (case aB => exact HB7.out); (case aF => exact (fun _ _ => trivial)); (case aO => exact Kd.S_mono HO7.out (fun k_ hk => ⟨trivial, fun e_ => hk.2 e_⟩)); (case aS => exact HB7.out.size); (case aL => have := LM.out; omega); intro v8 w8 ho8 hb8 hg8 hat8; have HO8 := Aside0.mk ho8; have HB8 := Aside0.mk hb8; have HG8 := Aside0.mk hg8; clear ho8 hb8 hg8 hat8))
        refine ⟨⟨k + 1, acc ++ [p], by omega, by simp; omega, by go_num, ⟨HPP.out⟩, HO8, ⟨Kd.R_over HC7.out (Kd.S_R HO7.out) ?_ HG8.out⟩, HB8⟩, by simp [intOf]; omega⟩
        intro q hq
        have : q = 9 := by simpa [Kd.string, Kd.scalar] using hq
        subst this
        decide
      | false =>
        rw [hvx] at HVV HPP
        simp only [Bool.false_eq_true, if_false] at HPP
        clear hvx
        go_wp2_with (go_at_call 40; refine HVV.out.mono ?_; rintro e w7 ⟨A9, c9, v9, rfl, hv9, hR9, hb9⟩; obtain ⟨T9, u9, rfl⟩ := hv9; have HO7 := Aside0.mk (Kd.S_elder' HO.out (Kd.R_base hR9) hb9); have HB7 := Aside0.mk (below_step HB.out hb9); clear hR9 hb9)
        go_ret2
        rw [HPP.out]
        exact ⟨_, _, rfl, ⟨_, _, rfl⟩, Kd.S_mono HO7.out (fun _ _ => trivial), HB7.out⟩
    · have hkl : k = ws.length := by omega
      have hp := HP.out
      rw [hkl, List.drop_length] at hp
      have HPP := Lib.hid hp
      clear hp HP HV HPC
      go_wp2
      go_ret2
      rw [HPP.out]
      exact ⟨_, _, rfl, rfl, HO.out, HB.out⟩
theorem inf22 : (Tryd.prog.info? 22).map (fun i => (i.zero, i.size, i.bytes)) = some (some (.slice none 0 0), 1, 24) := by kernel_rfl
theorem rd2_mem {l : List (List ByteArray)} {n : Nat} (h : n < l.length) : rd_L7 l n ∈ l := by
  simp [rd_L7, List.getD, h]
theorem take2 {l : List (List ByteArray)} {n : Nat} (h : n < l.length) : l.take (n + 1) = l.take n ++ [rd_L7 l n] := by
  rw [List.take_succ_eq_append_getElem h]
  simp [rd_L7, List.getD, h]
theorem pcs_lens (M : Nat) : ∀ (ws : List ByteArray) (acc : List (List ByteArray)), (∀ x ∈ ws, (pieces x).length ≤ M) → (∀ o ∈ acc, o.length ≤ M) → (pcs ws acc).1.length ≤ acc.length + ws.length ∧ ∀ o ∈ (pcs ws acc).1, o.length ≤ M
  | [], acc, _, h => ⟨Nat.le_refl _, h⟩
  | x :: r, acc, hw, h => by
    simp only [pcs]
    split
    · obtain ⟨h1, h2⟩ := pcs_lens M r (acc ++ [pieces x]) (fun y hy => hw y (by simp [hy])) (fun o ho => by
        rcases List.mem_append.1 ho with ho | ho
        · exact h o ho
        · have : o = pieces x := by simpa using ho
          subst this
          exact hw x (by simp))
      exact ⟨by simp at h1 ⊢; omega, h2⟩
    · exact ⟨by simp, h⟩
def ImpRet (w : World) (r : List (List ByteArray) × Bool) (e : Ending) (w' : World) : Prop :=
  ∃ v, e = .returned (.tuple #[v, .bool r.2]) ∧ Kd.S (Kd.slice 9 Kd.string) 22 w' w.heap.size (fun _ => True) v r.1 ∧ Below w.heap.size w w'

set_option maxHeartbeats 1600000 in
theorem implParseConstraint (t : ByteArray) (w : World) (ht : t.size ≤ 8000000000000) (hwl2 : (words t).length ≤ 1000001) (hq : ∀ x ∈ words t, (pieces x).length ≤ 1000001 ∧ ∀ y ∈ pieces x, y.size ≤ 2147483647) (ha : ascii t = true) (hT : TabP w) (htab : ∀ W, Below w.heap.size w W → Lib.TabIs Tryd.prog W "strings.asciiSpace" .u8 Lib.asciiSpaceTab) :
    Calls Tryd.prog 27 #[.string t] w (ImpRet w (pcs (words t) [])) := by
  have H1 := Lib.hid (parseConstraint t w ht hwl2 hq ha hT htab)
  obtain ⟨hp1, hp2⟩ := pcs_lens 1000001 (words t) [] (fun x hx => (hq x hx).1) (fun o ho => by cases ho)
  have hll : (pcs (words t) []).1.length ≤ 1000001 := by simp at hp1; omega
  have HP := Lib.hid (fun (k : Nat) (hk : k < (pcs (words t) []).1.length) (W : World) (B : Option Addr) (d : Nat) (hB : Kd.string.C W B (rd_L7 (pcs (words t) []).1 k).length (rd_L7 (pcs (words t) []).1 k)) (hd : (rd_L7 (pcs (words t) []).1 k).length ≤ d) =>
    impl_plainOption.calls ((rd_L7 (pcs (words t) []).1 k).length + 1) B d (rd_L7 (pcs (words t) []).1 k) (rd_L7 (pcs (words t) []).1 k) W hB hd (plain_is _ (by have := hp2 _ (rd2_mem hk); omega)))
  clear ht ha hT htab hp1 hp2 hq hwl2
  obtain ⟨l, b, hlb⟩ : ∃ l b, pcs (words t) [] = (l, b) := ⟨_, _, rfl⟩
  rw [hlb] at H1 HP hll ⊢
  clear hlb
  simp only at HP hll
  go_enter Tryd.func27, Tryd.ntmps27
  go_wp2_with (go_at_call 51; refine H1.out.mono ?_; rintro e w1 ⟨v1, u1, rfl, hu1, hS1, hb1⟩; have HS1 := Aside0.mk hS1; have HB1 := Aside0.mk hb1; have HU := Aside0.mk hu1; obtain ⟨A1, c1, rfl⟩ := Kd.R_slice (Kd.S_R hS1); clear hS1 hb1 hu1)
  go_loopw [2, 15] (fun v2 i wr => ∃ k : Nat, k ≤ l.length ∧ i = .int .i64 k ∧ Aside0 (Kd.S (Kd.slice 9 Kd.string) 22 wr w.heap.size (fun _ => True) v2 (l.take k)) ∧ Aside0 (Kd.S (Kd.slice 44 Kd.string) 55 wr w.heap.size (fun _ => True) (.slice A1 l.length c1) l) ∧ Aside0 (Below w.heap.size w wr)) (fun _ i _ => l.length - (intOf i).toNat)
  case atStart => exact ⟨0, Nat.zero_le _, rfl, ⟨Kd.S_nil _ _ _ _ _⟩, HS1, HB1⟩
  case round =>
    clear HS1 HB1
    obtain ⟨k, hk, rfl, HO, HS, HB⟩ := hrel
    by_cases hlt : k < l.length
    · obtain ⟨ad, A0, c0, e0, hx0, hd0, hC0⟩ := at_L7 (Kd.S_reads' HS.out).2.2 (k : Int) (by omega) (by omega)
      subst e0
      simp only [Int.toNat_natCast] at hx0 hd0 hC0
      have HVV := Lib.hid (HP.out k hlt wr A0 c0 hC0 hd0)
      have HT := Lib.hid (take2 hlt)
      have hlk : (l.take k).length ≤ 1000001 := by simp; omega
      have LM := Aside0.mk hlk
      clear hC0 HP hlk
      generalize rd_L7 l (k : Int) = p at *
      generalize l.take k = acc at *
      go_wp2_with (first
        | (go_at_call 41; refine HVV.out.mono ?_; rintro e w7 ⟨v9, rfl, hR9, hb9⟩; have HO7 := Aside0.mk (Kd.S_elder' HO.out (Kd.R_base hR9) hb9); have HI7 := Aside0.mk (Kd.R_lower hR9 (below_size HB.out)); have HS7 := Aside0.mk (Kd.S_below HS.out hb9); have HB7 := Aside0.mk (below_step HB.out hb9); clear hR9 hb9; obtain ⟨A9, c9, rfl⟩ := Kd.R_slice HI7.out)
        | (at_builtin; refine Kd.S_append (Kd.slice 9 Kd.string) (w0 := w) w.heap.size rfl (.tmp 19) (.tmp 22) 31 22 (.slice none 0 0) 24 rfl Tryd.underlying31 inf22 rfl (by decide) (by omega) u2 acc p [.slice A9 p.length c9] (fun _ => True) (fun k_ => some k_ = (.slice A9 p.length c9 : Value).ownBlock) rfl rfl ?aP (fun k_ hk_ => ((Kd.R_mono (ok' := fun k_ => ((fun _ => True)) k_ ∧ some k_ ≠ (u2 : Value).ownBlock) (Kd.R_apart' (HI7.out) (Kd.S_typed HO7.out) (by decide)) (fun k_ hk => ⟨trivial, hk.2⟩))).1 k_ hk_.symm) ?aF ?aO ?aB ?aS ?aL ?_; (case aP => exact Kd.M_row (Kd.R_mono (Kd.R_tight rfl (Kd.R_mono (ok' := fun k_ => ((fun _ => True)) k_ ∧ some k_ ≠ (u2 : Value).ownBlock) (Kd.R_apart' (HI7.out) (Kd.S_typed HO7.out) (by decide)) (fun k_ hk => ⟨trivial, hk.2⟩))) (fun _ h_ => h_))); (case aB => exact HB7.out); (case aF => exact (fun _ _ => trivial)); (case aO => exact Kd.S_mono HO7.out (fun k_ hk => ⟨trivial, fun e_ => hk.2 e_⟩)); (case aS => exact HB7.out.size); (case aL => have := LM.out; omega); intro v8 w8 ho8 hb8 hg8 hat8; have HO8 := Aside0.mk ho8; have HB8 := Aside0.mk hb8; have HG8 := Aside0.mk hg8; clear ho8 hb8 hg8 hat8))
      exact ⟨⟨k + 1, by omega, by go_num, ⟨by rw [HT.out]; exact HO8.out⟩, ⟨Kd.S_over' HS7.out (Kd.S_typed HO7.out) (by decide) HG8.out⟩, HB8⟩, by simp [intOf]; omega⟩
    · have hkl : k = l.length := by omega
      subst hkl
      simp only [List.take_length] at HO
      have hu := HU.out
      clear HU HP
      cases b with
      | true =>
        simp only [ErrV] at hu
        subst hu
        go_wp2
        go_quiet (fail)
        go_wp2
        go_ret2
        exact ⟨_, rfl, by have := HO.out; repeat (first | exact this | apply Kd.S_drewN | apply Kd.S_drew), pw_below_drewN HB.out _⟩
      | false =>
        obtain ⟨T, u, rfl⟩ := hu
        go_wp2
        go_quiet (fail)
        go_wp2
        go_ret2
        exact ⟨_, rfl, by have := HO.out; repeat (first | exact this | apply Kd.S_drewN | apply Kd.S_drew), pw_below_drewN HB.out _⟩
end Go.Proofs.YtknldfighehplaaDoor.HFnTextBackCon
