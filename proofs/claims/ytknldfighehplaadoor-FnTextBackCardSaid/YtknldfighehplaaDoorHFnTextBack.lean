/- The walk of FnTextBack: it returns true for every list of options and every list of tags; conditions: the slices' cells as they were read, lengths in bounds, the first cells of the table of properties, the table of white space. -/
import Derived.Test.YtknldfighehplaaDoorHFnTextBackPure
import Derived.Test.YtknldfighehplaaDoorHFnTextBackCon
import Derived.Lib.AppendIntMem
namespace Go.Proofs.YtknldfighehplaaDoor.HFnTextBack
set_option linter.unusedSimpArgs false
set_option linter.unusedVariables false
open Go.RowKit Go.Proofs.YtknldfighehplaaDoor.HTabP Go.Proofs.YtknldfighehplaaDoor.HMap Go.Proofs.YtknldfighehplaaDoor.HSplit Go.Proofs.YtknldfighehplaaDoor.HBack Go.Proofs.YtknldfighehplaaDoor.HFnTextBackList Go.Proofs.YtknldfighehplaaDoor.HFnTextBackPlain Go.Proofs.YtknldfighehplaaDoor.HFnTextBackValid Go.Proofs.YtknldfighehplaaDoor.HFnTextBackEval Go.Proofs.YtknldfighehplaaDoor.HFnTextBackCut Go.Proofs.YtknldfighehplaaDoor.HFnTextBackEvals Go.Proofs.YtknldfighehplaaDoor.HFnTextBackRead Go.Proofs.YtknldfighehplaaDoor.HFnTextBackFields Go.Proofs.YtknldfighehplaaDoor.HFnTextBackPure Go.Proofs.YtknldfighehplaaDoor.HFnTextBackCon Go.Proofs.YtknldfighehplaaDoor.PFnTextBack Go.Proofs.YtknldfighehplaaDoorW.PrintWords Go.Proofs.YtknldfighehplaaDoorW.PrintLast Go.Proofs.YtknldfighehplaaDoorW.PrintMore

theorem texts_l (l : List ByteArray) (hl : l.length ≤ 2147483647) : ∀ (m n k : Nat), m + n = l.length → m < k → laws_texts.l0 k l l l.length n = some true := by
  intro m
  induction m with
  | zero =>
    intro n k hn hk
    obtain ⟨k, rfl⟩ : ∃ j, k = j + 1 := ⟨k - 1, by omega⟩
    simp only [laws_texts.l0]
    rw [if_neg (by omega)]
  | succ m ih =>
    intro n k hn hk
    obtain ⟨k, rfl⟩ : ∃ j, k = j + 1 := ⟨k - 1, by omega⟩
    have hw : wrap64 ((n : Int) + 1) = ((n + 1 : Nat) : Int) := by unfold wrap64; omega
    simp only [laws_texts.l0]
    rw [if_pos (by omega), if_pos (by omega), if_pos (by omega), if_pos (by omega), if_pos trivial, hw, ih (n + 1) k (by omega) (by omega)]
theorem texts_is (l : List ByteArray) (hl : l.length ≤ 2147483647) : laws_texts.f (l.length + 1) l l = some true := by
  unfold laws_texts.f
  rw [if_pos rfl]
  exact texts_l l hl l.length 0 (l.length + 1) (by omega) (by omega)

theorem options_l (l : List (List ByteArray)) (hl : l.length ≤ 2147483647) (hs : within 2147483647 l) : ∀ (m n k : Nat), m + n = l.length → m + 2147483647 < k → laws_options.l0 k l l l.length n = some true := by
  intro m
  induction m with
  | zero =>
    intro n k hn hk
    obtain ⟨k, rfl⟩ : ∃ j, k = j + 1 := ⟨k - 1, by omega⟩
    simp only [laws_options.l0]
    rw [if_neg (by omega)]
  | succ m ih =>
    intro n k hn hk
    obtain ⟨k, rfl⟩ : ∃ j, k = j + 1 := ⟨k - 1, by omega⟩
    have hlt : n < l.length := by omega
    have hw : wrap64 ((n : Int) + 1) = ((n + 1 : Nat) : Int) := by unfold wrap64; omega
    have ho := hs _ (rd1_mem hlt)
    have ht : laws_texts.f k (rd_L5 l n) (rd_L5 l n) = some true := by
      unfold laws_texts.f
      rw [if_pos rfl]
      exact texts_l _ ho (rd_L5 l n).length 0 k (by omega) (by omega)
    simp only [laws_options.l0]
    rw [if_pos (by omega), if_pos (by omega), if_pos (by omega), if_pos (by omega), ht]
    simp only [Option.bind_some]
    rw [if_pos trivial, hw, ih (n + 1) k (by omega) (by omega)]
theorem options_is (l : List (List ByteArray)) (hl : l.length ≤ 2147483647) (hs : within 2147483647 l) : laws_options.f (l.length + 2147483647 + 1) l l = some true := by
  unfold laws_options.f
  rw [if_pos rfl]
  exact options_l l hl hs l.length 0 _ (by omega) (by omega)
theorem optText_ascii (o : List ByteArray) (h : ∀ x ∈ o, ascii x = true) : ascii (optText o) = true := by
  rw [ascii_iff]
  intro c hc
  rw [bs_optText] at hc
  rcases mem_join 44 _ c hc with rfl | ⟨x, hx, hc⟩
  · decide
  · obtain ⟨z, hz, rfl⟩ := List.mem_map.1 hx
    exact (ascii_iff z).1 (h z hz) c hc
theorem lineOf_ascii (l : List (List ByteArray)) (h : ∀ o ∈ l, ∀ x ∈ o, ascii x = true) : ascii (lineOf l) = true := by
  rw [ascii_iff]
  intro c hc
  unfold lineOf at hc
  rw [bs_B] at hc
  rcases mem_join 32 _ c hc with rfl | ⟨x, hx, hc⟩
  · decide
  · obtain ⟨o, ho, rfl⟩ := List.mem_map.1 hx
    exact (ascii_iff _).1 (optText_ascii o (h o ho)) c hc
theorem sum_take : ∀ (l : List (List ByteArray)) (k : Nat), tot (l.take k) ≤ tot l
  | [], k => by simp
  | o :: l, 0 => by simp [tot]
  | o :: l, k + 1 => by
    have := sum_take l k
    simp only [tot, List.take_succ_cons, List.map_cons, List.sum_cons] at this ⊢
    omega
theorem line_bound (l : List (List ByteArray)) (hs : small 2000 2147483647 l) (ht : l.length + tot l ≤ 2000) (k : Nat) : (lineOf (l.take k)).size ≤ 5000000000000 := by
  have h1 := lineOf_size (l.take k) 2147483647 (fun o ho => (hs.2 o (List.mem_of_mem_take ho)).2)
  have h2 : tot (l.take k) * (2147483647 + 1) ≤ 2000 * (2147483647 + 1) := Nat.mul_le_mul_right _ (by have := sum_take l k; omega)
  have h3 : (l.take k).length ≤ 2000 := by rw [List.length_take]; omega
  unfold tot at h2
  omega
theorem opt_bound (o : List ByteArray) (hl : o.length ≤ 2000) (hs : ∀ x ∈ o, x.size ≤ 2147483647) : (optText o).size ≤ 5000000000000 := by
  have h1 := optText_size 2147483647 o hs
  have h2 : o.length * (2147483647 + 1) ≤ 2000 * (2147483647 + 1) := Nat.mul_le_mul_right _ hl
  omega

theorem conText_nil : conText [] = ⟨#[47, 47, 32, 43, 98, 117, 105, 108, 100, 10]⟩ := by
  apply bs_inj
  simp [conText, bodyText, bs]
/-- An option's text, the thin package's. -/
theorem implOptText (A : Option Addr) (c : Nat) (o : List ByteArray) (w : World) (hr : Kd.C Kd.string w A o.length o) (hc : o.length ≤ c) (hl : o.length ≤ 2000) (hs : ∀ x ∈ o, x.size ≤ 2147483647) :
    Calls Tryd.prog 32 #[.slice A o.length c] w fun e w' => e = .returned (.string (optText o)) ∧ Below w.heap.size w w' := by
  have H1 := Lib.hid (impl_option.calls (o.length + 1) A c o o w hr hc (option_is o (by omega) _ (by omega)))
  have H2 := Lib.hid (fun (B : Option Addr) (d : Nat) (W : World) (hC : Kd.C Kd.string W B o.length o) (hd : o.length ≤ d) => optGo B d o W hC hd hl hs)
  clear hr hs
  go_enter Tryd.func32, Tryd.ntmps32
  go_wp2_with (first
    | (go_at_call 55; refine H1.out.mono ?_; rintro e w1 ⟨v, rfl, hR, hb1⟩; obtain ⟨B, d, rfl, hd, hC⟩ := Kd.R_reads hR; have HC := Aside0.mk hC; clear hC hR)
    | (go_at_call 56; refine (H2.out B d _ HC.out hd).mono ?_; rintro e w2 ⟨rfl, hb2⟩))
  go_ret
  exact ⟨rfl, below_step hb1 hb2⟩
/-- An option's text is read as the option. -/
theorem parseBack (o : List ByteArray) (W : World) (hn : o ≠ []) (hl : o.length ≤ 2000) (hs : ∀ x ∈ o, x.size ≤ 2147483647) (ha : ∀ x ∈ o, ascii x = true) (hv : ∀ x ∈ o, valid x = true) (hT : TabP W) :
    Calls Tryd.prog 16 #[.string (optText o)] W fun e w' => ∃ A c, e = .returned (.tuple #[.slice A o.length c, .bool true]) ∧ o.length ≤ c ∧ Kd.C Kd.string w' A o.length o ∧ Below W.heap.size W w' := by
  have hp := pieces_optText o hn hv
  have hb := opt_bound o hl hs
  refine (implParse (optText o) W (by omega) (by rw [hp]; omega) (by rw [hp]; exact hs) (optText_ascii o ha) hT).mono fun e w' h => ?_
  rw [hp] at h
  obtain ⟨A, c, he, h1, h2, h3⟩ := h
  have hall : o.all valid = true := List.all_eq_true.2 hv
  rw [hall] at he
  exact ⟨A, c, he, h1, h2, h3⟩
/-- The line of the options is read as the options. -/
theorem lineBack (l : List (List ByteArray)) (W : World) (hs : small 2000 2147483647 l) (ht : l.length + tot l ≤ 2000) (hn : ∀ o ∈ l, o ≠ []) (ha : ∀ o ∈ l, ∀ x ∈ o, ascii x = true) (hv : ∀ o ∈ l, ∀ x ∈ o, valid x = true) (hT : TabP W) (htab : ∀ W', Below W.heap.size W W' → Lib.TabIs Tryd.prog W' "strings.asciiSpace" .u8 Lib.asciiSpaceTab) :
    Calls Tryd.prog 27 #[.string (lineOf l)] W fun e w' => ∃ A c, e = .returned (.tuple #[.slice A l.length c, .bool true]) ∧ l.length ≤ c ∧ Kd.C (Kd.slice 9 Kd.string) w' A l.length l ∧ Below W.heap.size W w' := by
  have hz := line_bound l hs ht l.length
  rw [List.take_length] at hz
  have hw := words_lineOf l hn hv
  refine (implParseConstraint (lineOf l) W (by omega) (by rw [hw, List.length_map]; omega) (fun x hx => ?_) (lineOf_ascii l ha) hT htab).mono fun e w' h => ?_
  · rw [hw] at hx
    obtain ⟨o, ho, rfl⟩ := List.mem_map.1 hx
    rw [pieces_optText o (hn o ho) (hv o ho)]
    exact ⟨by have := (hs.2 o ho).1; omega, (hs.2 o ho).2⟩
  · rw [pcs_lineOf l hn hv] at h
    obtain ⟨v, he, hS, hb⟩ := h
    obtain ⟨A, c, rfl, hc, hC⟩ := Kd.S_reads hS
    exact ⟨A, c, he, hc, hC, hb⟩

section
variable (A : Option Addr) (c : Nat) (l : List (List ByteArray)) (A1 : Option Addr) (c1 : Nat) (tags : List ByteArray) (w : World)
theorem law_fits (hr : Kd.C (Kd.slice 9 Kd.string) w A l.length l) (hc : l.length ≤ c) (M : Nat) (hM : within M l) (hf : fits19 l = false) :
    Calls Tryd.prog 7 #[.slice A l.length c, .slice A1 tags.length c1] w fun e w' => e = .returned (.bool true) ∧ Below w.heap.size w w' := by
  have H := Lib.hid (fun (W : World) (hb : Below w.heap.size w W) => laws_zzFits19.calls (l.length + M + 1) A c l false W (Kd.C_below hr hb) hc (by rw [fits19_is l M hM _ (by omega), hf]))
  clear hr hM hf
  go_enter Tryd.func7, Tryd.ntmps7
  go_wp2_with (go_at_call 19; refine (H.out _ (Below.refl _ _)).mono ?_; rintro e w1 ⟨rfl, hd⟩)
  go_ret
  exact ⟨rfl, hd.below⟩
theorem law_tags (hr : Kd.C (Kd.slice 9 Kd.string) w A l.length l) (hc : l.length ≤ c) (hr1 : Kd.C Kd.string w A1 tags.length tags) (hc1 : tags.length ≤ c1) (M : Nat) (hM : within M l) (hf : fits19 l = true) (hf1 : fits7 tags = false) :
    Calls Tryd.prog 7 #[.slice A l.length c, .slice A1 tags.length c1] w fun e w' => e = .returned (.bool true) ∧ Below w.heap.size w w' := by
  have H := Lib.hid (fun (W : World) (hb : Below w.heap.size w W) => laws_zzFits19.calls (l.length + M + 1) A c l true W (Kd.C_below hr hb) hc (by rw [fits19_is l M hM _ (by omega), hf]))
  have H1 := Lib.hid (fun (W : World) (hb : Below w.heap.size w W) => laws_zzFits7.calls (tags.length + 1) A1 c1 tags false W (Kd.C_below hr1 hb) hc1 (by rw [fits_is tags _ (by omega), hf1]))
  clear hr hr1 hM hf hf1
  go_enter Tryd.func7, Tryd.ntmps7
  go_wp2_with (first
    | (go_at_call 19; refine (H.out _ (Below.refl _ _)).mono ?_; rintro e w1 ⟨rfl, hd⟩)
    | (go_at_call 8; refine (H1.out _ hd.below).mono ?_; rintro e w2 ⟨rfl, hd2⟩))
  go_ret
  exact ⟨rfl, below_step hd.below hd2.below⟩
theorem law_terms (hr : Kd.C (Kd.slice 9 Kd.string) w A l.length l) (hc : l.length ≤ c) (hr1 : Kd.C Kd.string w A1 tags.length tags) (hc1 : tags.length ≤ c1) (M : Nat) (hM : within M l) (hf : fits19 l = true) (hf1 : fits7 tags = true) (K : Nat) (hK : laws_terms.f K [l] tags = some false) :
    Calls Tryd.prog 7 #[.slice A l.length c, .slice A1 tags.length c1] w fun e w' => e = .returned (.bool true) ∧ Below w.heap.size w w' := by
  have H := Lib.hid (fun (W : World) (hb : Below w.heap.size w W) => laws_zzFits19.calls (l.length + M + 1) A c l true W (Kd.C_below hr hb) hc (by rw [fits19_is l M hM _ (by omega), hf]))
  have H1 := Lib.hid (fun (W : World) (hb : Below w.heap.size w W) => laws_zzFits7.calls (tags.length + 1) A1 c1 tags true W (Kd.C_below hr1 hb) hc1 (by rw [fits_is tags _ (by omega), hf1]))
  have H2 := Lib.hid (fun (W : World) (hb : Below w.heap.size w W) (g : Nat) (e : TypeId) (fr : Nat × Nat) (hg : W.heap[g]? = some (Obj.cells #[.slice A l.length c] e fr)) => laws_terms.calls K (some ⟨g, 0, none⟩) 1 [l] A1 c1 tags false W (one_list hg (Kd.C_below hr hb) hc) (by simp) (Kd.C_below hr1 hb) hc1 hK)
  clear hr hr1 hM hf hf1 hK
  go_enter Tryd.func7, Tryd.ntmps7
  go_wp2_with (first
    | (go_at_call 19; refine (H.out _ (Below.refl _ _)).mono ?_; rintro e w1 ⟨rfl, hd⟩)
    | (go_at_call 8; refine (H1.out _ hd.below).mono ?_; rintro e w2 ⟨rfl, hd2⟩; have hb2 := below_step hd.below hd2.below)
    | (go_at_call 20; refine (H2.out _ (below_alloc hb2 _) _ _ _ (blk_new w2 _)).mono ?_; rintro e w3 ⟨rfl, hd3⟩; have hb3 := below_step (below_alloc hb2 _) hd3.below))
  go_ret
  exact ⟨rfl, hb3⟩
theorem law_invalid (hr : Kd.C (Kd.slice 9 Kd.string) w A l.length l) (hc : l.length ≤ c) (hr1 : Kd.C Kd.string w A1 tags.length tags) (hc1 : tags.length ≤ c1) (hf : fits19 l = true) (hf1 : fits7 tags = true) (K : Nat) (hK : laws_terms.f K [l] tags = some true) (hs : small 2000 2147483647 l) (hv : (l.all fun o => o.all valid) = false) :
    Calls Tryd.prog 7 #[.slice A l.length c, .slice A1 tags.length c1] w fun e w' => e = .returned (.bool true) ∧ Below w.heap.size w w' := by
  have H := Lib.hid (fun (W : World) (hb : Below w.heap.size w W) => laws_zzFits19.calls (l.length + 2000 + 1) A c l true W (Kd.C_below hr hb) hc (by rw [fits19_is l 2000 (fun o ho => (hs.2 o ho).1) _ (by omega), hf]))
  have H1 := Lib.hid (fun (W : World) (hb : Below w.heap.size w W) => laws_zzFits7.calls (tags.length + 1) A1 c1 tags true W (Kd.C_below hr1 hb) hc1 (by rw [fits_is tags _ (by omega), hf1]))
  have H2 := Lib.hid (fun (W : World) (hb : Below w.heap.size w W) (g : Nat) (e : TypeId) (fr : Nat × Nat) (hg : W.heap[g]? = some (Obj.cells #[.slice A l.length c] e fr)) => laws_terms.calls K (some ⟨g, 0, none⟩) 1 [l] A1 c1 tags true W (one_list hg (Kd.C_below hr hb) hc) (by simp) (Kd.C_below hr1 hb) hc1 hK)
  have H3 := Lib.hid (fun (W : World) (hb : Below w.heap.size w W) => spec_ConstraintValid.calls (2 * 2000 + 2147483647 + 1) A c l false W (Kd.C_below hr hb) hc (by rw [constraintValid_is 2000 2147483647 l hs (by omega) (by omega) _ (by omega), hv]))
  clear hr hr1 hf hf1 hK hs hv
  go_enter Tryd.func7, Tryd.ntmps7
  go_wp2_with (first
    | (go_at_call 19; refine (H.out _ (Below.refl _ _)).mono ?_; rintro e w1 ⟨rfl, hd⟩)
    | (go_at_call 8; refine (H1.out _ hd.below).mono ?_; rintro e w2 ⟨rfl, hd2⟩; have hb2 := below_step hd.below hd2.below)
    | (go_at_call 20; refine (H2.out _ (below_alloc hb2 _) _ _ _ (blk_new w2 _)).mono ?_; rintro e w3 ⟨rfl, hd3⟩; have hb3 := below_step (below_alloc hb2 _) hd3.below)
    | (go_at_call 22; refine (H3.out _ hb3).mono ?_; rintro e w4 ⟨rfl, hd4⟩; have hb4 := below_step hb3 hd4.below))
  go_ret
  exact ⟨rfl, hb4⟩
set_option maxHeartbeats 1600000 in
theorem hard (hr : Kd.C (Kd.slice 9 Kd.string) w A l.length l) (hc : l.length ≤ c) (hr1 : Kd.C Kd.string w A1 tags.length tags) (hc1 : tags.length ≤ c1) (hf : fits19 l = true) (hf1 : fits7 tags = true) (K : Nat) (hK : laws_terms.f K [l] tags = some true) (hs : small 2000 2147483647 l) (ht : l.length + tot l ≤ 2000) (hl1 : tags.length ≤ 2000) (ha : ∀ o ∈ l, ∀ x ∈ o, ascii x = true) (hv : (l.all fun o => o.all valid) = true) (hT : TabP w) (htab : ∀ W, Below w.heap.size w W → Lib.TabIs Tryd.prog W "strings.asciiSpace" .u8 Lib.asciiSpaceTab) :
    Calls Tryd.prog 7 #[.slice A l.length c, .slice A1 tags.length c1] w fun e w' => e = .returned (.bool true) ∧ Below w.heap.size w w' := by
  have H := Lib.hid (fun (W : World) (hb : Below w.heap.size w W) => laws_zzFits19.calls (l.length + 2000 + 1) A c l true W (Kd.C_below hr hb) hc (by rw [fits19_is l 2000 (fun o ho => (hs.2 o ho).1) _ (by omega), hf]))
  have H1 := Lib.hid (fun (W : World) (hb : Below w.heap.size w W) => laws_zzFits7.calls (tags.length + 1) A1 c1 tags true W (Kd.C_below hr1 hb) hc1 (by rw [fits_is tags _ (by omega), hf1]))
  have H2 := Lib.hid (fun (W : World) (hb : Below w.heap.size w W) (g : Nat) (e : TypeId) (fr : Nat × Nat) (hg : W.heap[g]? = some (Obj.cells #[.slice A l.length c] e fr)) => laws_terms.calls K (some ⟨g, 0, none⟩) 1 [l] A1 c1 tags true W (one_list hg (Kd.C_below hr hb) hc) (by simp) (Kd.C_below hr1 hb) hc1 hK)
  have H3 := Lib.hid (fun (W : World) (hb : Below w.heap.size w W) => spec_ConstraintValid.calls (2 * 2000 + 2147483647 + 1) A c l true W (Kd.C_below hr hb) hc (by rw [constraintValid_is 2000 2147483647 l hs (by omega) (by omega) _ (by omega), hv]))
  have hv' : ∀ o ∈ l, ∀ x ∈ o, valid x = true := fun o ho => List.all_eq_true.1 (List.all_eq_true.1 hv o ho)
  have HR := Aside0.mk hr
  have HO := Lib.hid (fun (k : Nat) (hk : k < l.length) (W : World) (hb : Below w.heap.size w W) (B : Option Addr) (d : Nat) (hB : Kd.C Kd.string w B (rd_L5 l k).length (rd_L5 l k)) (hd : (rd_L5 l k).length ≤ d) =>
    implOptText B d (rd_L5 l k) W (Kd.C_below hB hb) hd (hs.2 _ (rd1_mem hk)).1 (hs.2 _ (rd1_mem hk)).2)
  have HP := Lib.hid (fun (k : Nat) (hk : k < l.length) (hn : rd_L5 l k ≠ []) (W : World) (hb : Below w.heap.size w W) =>
    parseBack (rd_L5 l k) W hn (hs.2 _ (rd1_mem hk)).1 (hs.2 _ (rd1_mem hk)).2 (ha _ (rd1_mem hk)) (hv' _ (rd1_mem hk)) (hT.below hb))
  have HX := Lib.hid (fun (k : Nat) (hk : k < l.length) (W : World) (B : Option Addr) (d : Nat) (B1 : Option Addr) (d1 : Nat) (hB : Kd.C Kd.string W B (rd_L5 l k).length (rd_L5 l k)) (hd : (rd_L5 l k).length ≤ d) (hB1 : Kd.C Kd.string W B1 (rd_L5 l k).length (rd_L5 l k)) (hd1 : (rd_L5 l k).length ≤ d1) =>
    laws_texts.calls ((rd_L5 l k).length + 1) B d (rd_L5 l k) B1 d1 (rd_L5 l k) true W hB hd hB1 hd1 (texts_is _ (by have := (hs.2 _ (rd1_mem hk)).1; omega)))
  have HZ := Lib.hid (line_bound l hs ht)
  have HOZ := Lib.hid (fun (k : Nat) (hk : k < l.length) => opt_bound (rd_L5 l k) (hs.2 _ (rd1_mem hk)).1 (hs.2 _ (rd1_mem hk)).2)
  have HTK := Lib.hid (fun (k : Nat) (hk : k < l.length) => lineOf_take l k hk)
  have HL := Lib.hid (fun (hn : ∀ o ∈ l, o ≠ []) (W : World) (hb : Below w.heap.size w W) => lineBack l W hs ht hn ha hv' (hT.below hb) (fun W' hb' => htab W' (below_step hb hb')))
  have HQ := Lib.hid (fun (W : World) (B : Option Addr) (d : Nat) (hb : Below w.heap.size w W) (hB : Kd.C (Kd.slice 9 Kd.string) W B l.length l) (hd : l.length ≤ d) => laws_options.calls (l.length + 2147483647 + 1) B d l A c l true W hB hd (Kd.C_below hr hb) hc (options_is l (by have := hs.1; omega) (fun o ho => by have := (hs.2 o ho).1; omega)))
  have HE := Lib.hid (fun (W : World) (B : Option Addr) (d : Nat) (hb : Below w.heap.size w W) (hB : Kd.C (Kd.slice 9 Kd.string) W B l.length l) (hd : l.length ≤ d) => implEvaluate B d l A1 c1 tags W hB hd hs ha (hT.below hb) (Kd.C_below hr1 hb) hc1 (by omega))
  have HT := Lib.hid (fun (W : World) (hb : Below w.heap.size w W) => implText A c l W (Kd.C_below hr hb) hc hs)
  have hl : l.length ≤ 2000 := hs.1
  clear hf hf1 hK hs ht ha hv hv' hT htab hr hr1
  generalize (l.any fun o => o.all fun s => evalT s tags) = b2 at *
  go_enter Tryd.func7, Tryd.ntmps7
  go_wp2_with (first
    | (go_at_call 19; refine (H.out _ (Below.refl _ _)).mono ?_; rintro e w1 ⟨rfl, hd⟩)
    | (go_at_call 8; refine (H1.out _ hd.below).mono ?_; rintro e w2 ⟨rfl, hd2⟩; have hb2 := below_step hd.below hd2.below)
    | (go_at_call 20; refine (H2.out _ (below_alloc hb2 _) _ _ _ (blk_new w2 _)).mono ?_; rintro e w3 ⟨rfl, hd3⟩; have hb3 := below_step (below_alloc hb2 _) hd3.below)
    | (go_at_call 22; refine (H3.out _ hb3).mono ?_; rintro e w4 ⟨rfl, hd4⟩; have hb4 := below_step hb3 hd4.below))
  go_loopw [5, 32] (fun s5 i wr => ∃ k : Nat, k ≤ l.length ∧ i = .int .i64 k ∧ s5 = .string (lineOf (l.take k)) ∧ Aside0 (∀ o ∈ l.take k, o ≠ []) ∧ Aside0 (Below w.heap.size w wr)) (fun _ i _ => l.length - (intOf i).toNat)
  case atStart => exact ⟨0, Nat.zero_le _, rfl, rfl, ⟨fun o ho => by cases ho⟩, ⟨hb4⟩⟩
  case round =>
    obtain ⟨k, hk, rfl, rfl, HN, HB⟩ := hrel
    have hz := HZ.out k
    by_cases hlt : k < l.length
    · obtain ⟨ad, A0, c0, e0, hx0, hd0, hC0⟩ := at_L5 HR.out (k : Int) (by omega) (by omega)
      subst e0
      have y0 := (HB.out.cell (World.block_lt_of_cell? w _ hx0)).trans hx0
      simp only [Int.toNat_natCast] at y0 hd0 hC0
      have HC0 := Aside0.mk (Kd.C_below hC0 HB.out)
      by_cases hne : rd_L5 l k = []
      · rw [hne] at y0
        clear hx0 HO HP HX HZ HOZ HTK HL HQ HE HT hC0 HC0 H H1 H2 H3
        have hz0 : ([] : List ByteArray).length = 0 := rfl
        go_wp2
        go_ret
        exact ⟨rfl, HB.out⟩
      have hpos : 0 < (rd_L5 l k).length := List.length_pos_iff.2 hne
      have hk1 := HOZ.out k hlt
      have hk2 := HTK.out k hlt
      have GO := Lib.hid (fun (W : World) (hb : Below w.heap.size w W) => HO.out k hlt W hb A0 c0 hC0 hd0)
      have GP := Lib.hid (fun (W : World) (hb : Below w.heap.size w W) => HP.out k hlt hne W hb)
      have GX := Lib.hid (fun (W : World) (B : Option Addr) (d : Nat) (hb : Below w.heap.size w W) (hB : Kd.C Kd.string W B (rd_L5 l k).length (rd_L5 l k)) (hd : (rd_L5 l k).length ≤ d) => HX.out k hlt W B d A0 c0 hB hd (Kd.C_below hC0 hb) hd0)
      have HN2 : ∀ o ∈ l.take (k + 1), o ≠ [] := by
        intro o ho
        rw [List.take_succ_eq_append_getElem hlt] at ho
        rcases List.mem_append.1 ho with ho | ho
        · exact HN.out o ho
        · have e : o = rd_L5 l k := by
            have : o = l[k] := by simpa using ho
            rw [this]; simp [rd_L5, List.getD, hlt]
          rw [e]; exact hne
      have HNN := Aside0.mk HN2
      have HK2 := Lib.hid hk2
      clear hx0 HO HP HX HZ HOZ HTK HL HQ HE HT hC0 H H1 H2 H3 HN2 hk2 HN HC0
      by_cases h0 : k = 0
      · have e1 := HK2.out
        rw [if_pos h0] at e1
        have E1 := Lib.hid e1
        have e2 : lineOf (l.take k) = ⟨#[]⟩ := by rw [h0]; rfl
        have hkp : ¬ (k : Int) > 0 := by omega
        rw [e2]
        clear HK2 e1 e2 hz hne h0
        generalize rd_L5 l (k : Int) = o at *
        generalize optText o = ot at *
        have hbr := HB.out
        have hcat : (⟨#[]⟩ : ByteArray) ++ ot = ot := by apply ByteArray.ext; simp
        have HCAT := Lib.hid hcat
        clear hcat
        go_wp2_with (first
          | (go_at_call 32; refine (GO.out _ hbr).mono ?_; rintro e wn ⟨rfl, hd⟩; replace hbr := below_step hbr hd; clear hd)
          | (go_at_call 16; refine (GP.out _ hbr).mono ?_; rintro e wn ⟨A9, c9, rfl, hc9, hC9, hd⟩; have HC9 := Aside0.mk hC9; clear hC9; replace hbr := below_step hbr hd; clear hd)
          | (go_at_call 18; refine (GX.out _ A9 c9 hbr HC9.out hc9).mono ?_; rintro e wn ⟨rfl, hd⟩; replace hbr := below_step hbr hd.below; clear hd))
        exact ⟨⟨k + 1, by omega, by go_num, by rw [E1.out, HCAT.out], HNN, ⟨hbr⟩⟩, by simp [intOf]; omega⟩
      · have e1 := HK2.out
        rw [if_neg h0] at e1
        have E1 := Lib.hid e1
        clear HK2 e1 hne
        have hkp : (k : Int) > 0 := by omega
        generalize rd_L5 l (k : Int) = o at *
        generalize optText o = ot at *
        generalize lineOf (l.take k) = t at *
        have hbr := HB.out
        have hsz : (t ++ (⟨#[32]⟩ : ByteArray)).size = t.size + 1 := by rw [ByteArray.size_append]; rfl
        go_wp2_with (first
          | (go_at_call 32; refine (GO.out _ hbr).mono ?_; rintro e wn ⟨rfl, hd⟩; replace hbr := below_step hbr hd; clear hd)
          | (go_at_call 16; refine (GP.out _ hbr).mono ?_; rintro e wn ⟨A9, c9, rfl, hc9, hC9, hd⟩; have HC9 := Aside0.mk hC9; clear hC9; replace hbr := below_step hbr hd; clear hd)
          | (go_at_call 18; refine (GX.out _ A9 c9 hbr HC9.out hc9).mono ?_; rintro e wn ⟨rfl, hd⟩; replace hbr := below_step hbr hd.below; clear hd))
        exact ⟨⟨k + 1, by omega, by go_num, by rw [E1.out], HNN, ⟨hbr⟩⟩, by simp [intOf]; omega⟩
    · have hkl : k = l.length := by omega
      subst hkl
      have hn := HN.out
      rw [List.take_length] at hn hz ⊢
      have GL := Lib.hid (HL.out hn)
      have hbr := HB.out
      clear HN HL HO HP HX HZ HOZ HTK H H1 H2 H3 HB hn
      by_cases he : l = []
      · have hct : conText l = ⟨#[47, 47, 32, 43, 98, 117, 105, 108, 100, 10]⟩ := by rw [he]; exact conText_nil
        have e2 : lineOf l = ⟨#[]⟩ := by rw [he]; rfl
        have hl0 : (l.length : Int) = 0 := by rw [he]; rfl
        have GT := Lib.hid (fun (W : World) (hb : Below w.heap.size w W) => HT.out W hb)
        rw [hct] at GT
        rw [e2] at GL ⊢
        clear HT hct e2 he hz
        cases b2
        all_goals
          go_wp2_with (first
            | (go_at_call 27; refine (GL.out _ hbr).mono ?_; rintro e wn ⟨A9, c9, rfl, hc9, hC9, hd⟩; have HC9 := Aside0.mk hC9; clear hC9; replace hbr := below_step hbr hd; clear hd)
            | (go_at_call 33; refine (HQ.out _ A9 c9 hbr HC9.out hc9).mono ?_; rintro e wn ⟨rfl, hd⟩; have Y9 := Aside0.mk (Kd.C_below HC9.out hd.below); clear HC9; have HC9 := Y9; clear Y9; replace hbr := below_step hbr hd.below; clear hd)
            | (go_at_call 23; with_reducible refine (HE.out _ A9 c9 hbr HC9.out hc9).mono ?_; rintro e wn ⟨rfl, hd⟩; have Y9 := Aside0.mk (Kd.C_below HC9.out hd); clear HC9; have HC9 := Y9; clear Y9; replace hbr := below_step hbr hd; clear hd)
            | (go_at_call 23; refine (HE.out _ A c hbr (Kd.C_below HR.out hbr) hc).mono ?_; rintro e wn ⟨rfl, hd⟩; have Y9 := Aside0.mk (Kd.C_below HC9.out hd); clear HC9; have HC9 := Y9; clear Y9; replace hbr := below_step hbr hd; clear hd)
            | (go_at_call 25; refine (GT.out _ hbr).mono ?_; rintro e wn ⟨rfl, hd⟩; replace hbr := below_step hbr hd; clear hd))
          all_goals
            go_ret
            exact ⟨rfl, hbr⟩
      · have hct := conText_line l he
        have GT := Lib.hid (fun (W : World) (hb : Below w.heap.size w W) => HT.out W hb)
        rw [hct] at GT
        clear HT hct he
        generalize lineOf l = t at *
        have hsz : ((⟨#[47, 47, 32, 43, 98, 117, 105, 108, 100, 32]⟩ : ByteArray) ++ t).size = 10 + t.size := by rw [ByteArray.size_append]; rfl
        cases b2
        all_goals
          go_wp2_with (first
            | (go_at_call 27; refine (GL.out _ hbr).mono ?_; rintro e wn ⟨A9, c9, rfl, hc9, hC9, hd⟩; have HC9 := Aside0.mk hC9; clear hC9; replace hbr := below_step hbr hd; clear hd)
            | (go_at_call 33; refine (HQ.out _ A9 c9 hbr HC9.out hc9).mono ?_; rintro e wn ⟨rfl, hd⟩; have Y9 := Aside0.mk (Kd.C_below HC9.out hd.below); clear HC9; have HC9 := Y9; clear Y9; replace hbr := below_step hbr hd.below; clear hd)
            | (go_at_call 23; with_reducible refine (HE.out _ A9 c9 hbr HC9.out hc9).mono ?_; rintro e wn ⟨rfl, hd⟩; have Y9 := Aside0.mk (Kd.C_below HC9.out hd); clear HC9; have HC9 := Y9; clear Y9; replace hbr := below_step hbr hd; clear hd)
            | (go_at_call 23; refine (HE.out _ A c hbr (Kd.C_below HR.out hbr) hc).mono ?_; rintro e wn ⟨rfl, hd⟩; have Y9 := Aside0.mk (Kd.C_below HC9.out hd); clear HC9; have HC9 := Y9; clear Y9; replace hbr := below_step hbr hd; clear hd)
            | (go_at_call 25; refine (GT.out _ hbr).mono ?_; rintro e wn ⟨rfl, hd⟩; replace hbr := below_step hbr hd; clear hd))
          go_ret
          exact ⟨rfl, hbr⟩
/-- THE WALK: whatever the options and the tags, FnTextBack returns true and what was there stands. -/
theorem walk (hr : Kd.C (Kd.slice 9 Kd.string) w A l.length l) (hc : l.length ≤ c) (hr1 : Kd.C Kd.string w A1 tags.length tags) (hc1 : tags.length ≤ c1) (M : Nat) (hM : within M l) (hT : TabP w) (hS : Lib.TabIs Tryd.prog w "strings.asciiSpace" .u8 Lib.asciiSpaceTab) :
    Calls Tryd.prog 7 #[.slice A l.length c, .slice A1 tags.length c1] w fun e w' => e = .returned (.bool true) ∧ Below w.heap.size w w' := by
  cases hf : fits19 l with
  | false => exact law_fits A c l A1 c1 tags w hr hc M hM hf
  | true =>
    cases hf1 : fits7 tags with
    | false => exact law_tags A c l A1 c1 tags w hr hc hr1 hc1 M hM hf hf1
    | true =>
      have hs := fits_small l hf
      have ht : tags.length ≤ 2147483647 := by
        unfold fits7 at hf1
        simp only [Bool.and_eq_true, decide_eq_true_eq] at hf1
        exact hf1.1
      obtain ⟨K, hK⟩ := terms_is l tags hs.1 ht hs
      cases hx : fewOf l tags with
      | false => rw [hx] at hK; exact law_terms A c l A1 c1 tags w hr hc hr1 hc1 M hM hf hf1 K hK
      | true =>
        rw [hx] at hK
        obtain ⟨h1, h2, h3⟩ := few_small l tags hs hx
        have hq : l.length + tot l ≤ 2000 := by
          unfold fewOf at hx
          simp only [Bool.and_eq_true, decide_eq_true_eq] at hx
          omega
        cases hv : (l.all fun o => o.all valid) with
        | false => exact law_invalid A c l A1 c1 tags w hr hc hr1 hc1 hf hf1 K hK h1 hv
        | true => exact hard A c l A1 c1 tags w hr hc hr1 hc1 hf hf1 K hK h1 hq h2 h3 hv hT (Lib.tabBelow_of_tabIs hS)
end
end Go.Proofs.YtknldfighehplaaDoor.HFnTextBack
