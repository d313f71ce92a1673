/- The thin ParseConstraint over the package's; conditions: the first cells of the table of properties, the table of white space, bytes below 128, lengths in bounds. -/
import Derived.Test.YtknldfighehplaaDoorHFnMeaningCon
namespace Go.Proofs.YtknldfighehplaaDoor.HFnMeaningImp
set_option linter.unusedSimpArgs false
set_option linter.unusedVariables false
open Go.RowKit Go.Proofs.YtknldfighehplaaDoor.HTabP Go.Proofs.YtknldfighehplaaDoor.HSplit Go.Proofs.YtknldfighehplaaDoor.HFnMeaningPlain Go.Proofs.YtknldfighehplaaDoor.HFnMeaningValid Go.Proofs.YtknldfighehplaaDoor.HFnMeaningCut Go.Proofs.YtknldfighehplaaDoor.HFnMeaningWalk Go.Proofs.YtknldfighehplaaDoor.HFnMeaningRead Go.Proofs.YtknldfighehplaaDoor.HFnMeaningFields Go.Proofs.YtknldfighehplaaDoor.HFnMeaningCon Go.Proofs.YtknldfighehplaaDoor.PFnMeaning Go.Proofs.YtknldfighehplaaDoorW.PrintWords Go.Proofs.YtknldfighehplaaDoorW.PrintLast Go.Proofs.YtknldfighehplaaDoorW.PrintMore

theorem inf22 : (Tryd.prog.info? 22).map (fun i => (i.zero, i.size, i.bytes)) = some (some (.slice none 0 0), 1, 24) := by kernel_rfl
theorem rd2_mem {l : List (List ByteArray)} {n : Nat} (h : n < l.length) : rd_L2 l n ∈ l := by
  simp [rd_L2, List.getD, h]
theorem take2 {l : List (List ByteArray)} {n : Nat} (h : n < l.length) : l.take (n + 1) = l.take n ++ [rd_L2 l n] := by
  rw [List.take_succ_eq_append_getElem h]
  simp [rd_L2, List.getD, h]
theorem pcs_small : ∀ (ws : List ByteArray) (acc : List (List ByteArray)) (M : Nat), (∀ x ∈ ws, x.size ≤ M) → (∀ o ∈ acc, o.length ≤ M + 1 ∧ ∀ x ∈ o, x.size ≤ M) → ((pcs ws acc).1.length ≤ acc.length + ws.length) ∧ ∀ o ∈ (pcs ws acc).1, o.length ≤ M + 1 ∧ ∀ x ∈ o, x.size ≤ M
  | [], acc, M, _, h => ⟨Nat.le_refl _, h⟩
  | x :: r, acc, M, hw, h => by
    simp only [pcs]
    split
    · have hx := hw x (by simp)
      obtain ⟨h1, h2⟩ := pcs_small r (acc ++ [pieces x]) M (fun y hy => hw y (by simp [hy])) (fun o ho => by
        rcases List.mem_append.1 ho with ho | ho
        · exact h o ho
        · have : o = pieces x := by simpa using ho
          subst this
          exact ⟨by have := pieces_length x; omega, fun y hy => by have := pieces_size x y hy; omega⟩)
      exact ⟨by simp at h1 ⊢; omega, h2⟩
    · exact ⟨by simp, h⟩
def ImpRet (w : World) (r : List (List ByteArray) × Bool) (e : Ending) (w' : World) : Prop :=
  ∃ v, e = .returned (.tuple #[v, .bool r.2]) ∧ Kd.S (Kd.slice 9 Kd.string) 22 w' w.heap.size (fun _ => True) v r.1 ∧ Below w.heap.size w w'

set_option maxHeartbeats 1600000 in
theorem implParseConstraint (t : ByteArray) (w : World) (ht : t.size ≤ 1000000) (ha : ascii t = true) (hT : TabP w) (htab : ∀ W, Below w.heap.size w W → Lib.TabIs Tryd.prog W "strings.asciiSpace" .u8 Lib.asciiSpaceTab) :
    Calls Tryd.prog 27 #[.string t] w (ImpRet w (pcs (words t) [])) := by
  have H1 := Lib.hid (parseConstraint t w ht ha hT htab)
  obtain ⟨hwl, hws⟩ := words_size t
  obtain ⟨hp1, hp2⟩ := pcs_small (words t) [] t.size hws (fun o ho => by cases ho)
  have hll : (pcs (words t) []).1.length ≤ 1000001 := by simp at hp1; omega
  have HP := Lib.hid (fun (k : Nat) (hk : k < (pcs (words t) []).1.length) (W : World) (B : Option Addr) (d : Nat) (hB : Kd.string.C W B (rd_L2 (pcs (words t) []).1 k).length (rd_L2 (pcs (words t) []).1 k)) (hd : (rd_L2 (pcs (words t) []).1 k).length ≤ d) =>
    impl_plainOption.calls ((rd_L2 (pcs (words t) []).1 k).length + 1) B d (rd_L2 (pcs (words t) []).1 k) (rd_L2 (pcs (words t) []).1 k) W hB hd (plain_is _ (by have := (hp2 _ (rd2_mem hk)).1; omega)))
  clear ht ha hT htab hwl hws hp1 hp2
  obtain ⟨l, b, hlb⟩ : ∃ l b, pcs (words t) [] = (l, b) := ⟨_, _, rfl⟩
  rw [hlb] at H1 HP hll ⊢
  clear hlb
  simp only at HP hll
  go_enter Tryd.func27, Tryd.ntmps27
  go_wp2_with (go_at_call 51; refine H1.out.mono ?_; rintro e w1 ⟨v1, u1, rfl, hu1, hS1, hb1⟩; have HS1 := Aside0.mk hS1; have HB1 := Aside0.mk hb1; have HU := Aside0.mk hu1; obtain ⟨A1, c1, rfl⟩ := Kd.R_slice (Kd.S_R hS1); clear hS1 hb1 hu1)
  go_loopw [2, 15] (fun v2 i wr => ∃ k : Nat, k ≤ l.length ∧ i = .int .i64 k ∧ Aside0 (Kd.S (Kd.slice 9 Kd.string) 22 wr w.heap.size (fun _ => True) v2 (l.take k)) ∧ Aside0 (Kd.S (Kd.slice 44 Kd.string) 55 wr w.heap.size (fun _ => True) (.slice A1 l.length c1) l) ∧ Aside0 (Below w.heap.size w wr)) (fun _ i _ => l.length - (intOf i).toNat)
  case atStart => exact ⟨0, Nat.zero_le _, rfl, ⟨Kd.S_nil _ _ _ _ _⟩, HS1, HB1⟩
  case round =>
    clear HS1 HB1
    obtain ⟨k, hk, rfl, HO, HS, HB⟩ := hrel
    by_cases hlt : k < l.length
    · obtain ⟨ad, A0, c0, e0, hx0, hd0, hC0⟩ := at_L2 (Kd.S_reads' HS.out).2.2 (k : Int) (by omega) (by omega)
      subst e0
      simp only [Int.toNat_natCast] at hx0 hd0 hC0
      have HVV := Lib.hid (HP.out k hlt wr A0 c0 hC0 hd0)
      have HT := Lib.hid (take2 hlt)
      have hlk : (l.take k).length ≤ 1000001 := by simp; omega
      have LM := Aside0.mk hlk
      clear hC0 HP hlk
      generalize rd_L2 l (k : Int) = p at *
      generalize l.take k = acc at *
      go_wp2_with (first
        | (go_at_call 41; refine HVV.out.mono ?_; rintro e w7 ⟨v9, rfl, hR9, hb9⟩; have HO7 := Aside0.mk (Kd.S_elder' HO.out (Kd.R_base hR9) hb9); have HI7 := Aside0.mk (Kd.R_lower hR9 (below_size HB.out)); have HS7 := Aside0.mk (Kd.S_below HS.out hb9); have HB7 := Aside0.mk (below_step HB.out hb9); clear hR9 hb9; obtain ⟨A9, c9, rfl⟩ := Kd.R_slice HI7.out)
        | (at_builtin; refine Kd.S_append (Kd.slice 9 Kd.string) (w0 := w) w.heap.size rfl (.tmp 19) (.tmp 22) 31 22 (.slice none 0 0) 24 rfl Tryd.underlying31 inf22 rfl (by decide) (by omega) u2 acc p [.slice A9 p.length c9] (fun _ => True) (fun k_ => some k_ = (.slice A9 p.length c9 : Value).ownBlock) rfl rfl ?aP (fun k_ hk_ => ((Kd.R_mono (ok' := fun k_ => ((fun _ => True)) k_ ∧ some k_ ≠ (u2 : Value).ownBlock) (Kd.R_apart' (HI7.out) (Kd.S_typed HO7.out) (by decide)) (fun k_ hk => ⟨trivial, hk.2⟩))).1 k_ hk_.symm) ?aF ?aO ?aB ?aS ?aL ?_; (case aP => exact Kd.M_row (Kd.R_mono (Kd.R_tight rfl (Kd.R_mono (ok' := fun k_ => ((fun _ => True)) k_ ∧ some k_ ≠ (u2 : Value).ownBlock) (Kd.R_apart' (HI7.out) (Kd.S_typed HO7.out) (by decide)) (fun k_ hk => ⟨trivial, hk.2⟩))) (fun _ h_ => h_))); (case aB => exact HB7.out); (case aF => exact (fun _ _ => trivial)); (case aO => exact Kd.S_mono HO7.out (fun k_ hk => ⟨trivial, fun e_ => hk.2 e_⟩)); (case aS => exact HB7.out.size); (case aL => have := LM.out; omega); intro v8 w8 ho8 hb8 hg8 hat8; have HO8 := Aside0.mk ho8; have HB8 := Aside0.mk hb8; have HG8 := Aside0.mk hg8; clear ho8 hb8 hg8 hat8))
      exact ⟨⟨k + 1, by omega, by go_num, ⟨by rw [HT.out]; exact HO8.out⟩, ⟨Kd.S_over' HS7.out (Kd.S_typed HO7.out) (by decide) HG8.out⟩, HB8⟩, by simp [intOf]; omega⟩
    · have hkl : k = l.length := by omega
      subst hkl
      simp only [List.take_length] at HO
      have hu := HU.out
      clear HU HP
      cases b with
      | true =>
        simp only [ErrV] at hu
        subst hu
        go_wp2
        go_quiet (fail)
        go_wp2
        go_ret2
        exact ⟨_, rfl, by have := HO.out; repeat (first | exact this | apply Kd.S_drewN | apply Kd.S_drew), pw_below_drewN HB.out _⟩
      | false =>
        obtain ⟨T, u, rfl⟩ := hu
        go_wp2
        go_quiet (fail)
        go_wp2
        go_ret2
        exact ⟨_, rfl, by have := HO.out; repeat (first | exact this | apply Kd.S_drewN | apply Kd.S_drew), pw_below_drewN HB.out _⟩
end Go.Proofs.YtknldfighehplaaDoor.HFnMeaningImp
