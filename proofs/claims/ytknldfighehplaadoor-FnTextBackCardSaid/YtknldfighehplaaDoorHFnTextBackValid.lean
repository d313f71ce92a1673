/- Contracts of unicode.IsLetter and IsDigit below 128 and of Term.Validate; conditions: the first cells of the table of properties, bytes below 128. -/
import Derived.Test.YtknldfighehplaaDoorHFnTextBackPlain
import Derived.Test.YtknldfighehplaaDoorHTabP
import Derived.Lib.Hide
import Derived.Lib.OthersKept
import Derived.Handy
namespace Go.Proofs.YtknldfighehplaaDoor.HFnTextBackValid
set_option linter.unusedSimpArgs false
set_option linter.unusedVariables false
open Go.RowKit Go.Proofs.YtknldfighehplaaDoor.HTabP Go.Proofs.YtknldfighehplaaDoor.HFnTextBackPlain Go.Proofs.YtknldfighehplaaDoor.PFnTextBack Go.Proofs.YtknldfighehplaaDoorW.PrintWords Go.Proofs.YtknldfighehplaaDoorW.PrintLast Go.Proofs.YtknldfighehplaaDoorW.PrintMore

def digC (c : Int) : Bool := decide (48 ≤ c ∧ c ≤ 57)
theorem okc_is (c : Int) : okc c = (letC c || digC c || decide (c = 95) || decide (c = 46)) := rfl
theorem isLetter (c : Int) (h0 : 0 ≤ c) (h1 : c ≤ 127) (b : Bool) (hb : letC c = b) (w : World) (hT : TabP w) : Calls Tryd.prog 60 #[.int .i32 c] w fun e w' => e = .returned (.bool b) ∧ w = w' := by
  obtain ⟨n, rfl⟩ := Int.eq_ofNat_of_zero_le h0
  obtain ⟨p, hp, hx⟩ := hT n (by omega)
  rw [hb] at hx
  have HX := Lib.hid hx
  have h2 : n ≤ 127 := by omega
  clear hT hb hx h1 h0
  go_enter Tryd.func60, Tryd.ntmps60
  go_wp2
  go_ret
  exact ⟨congrArg (fun b => Ending.returned (.bool b)) HX.out, rfl⟩

theorem isDigit (c : Int) (h0 : 0 ≤ c) (h1 : c ≤ 127) (b : Bool) (hb : digC c = b) (w : World) : Calls Tryd.prog 61 #[.int .i32 c] w fun e w' => e = .returned (.bool b) ∧ w = w' := by
  subst hb
  by_cases h2 : 48 ≤ c
  · by_cases h3 : c ≤ 57
    · have hd : digC c = true := by simp [digC, h2, h3]
      rw [hd]
      clear hd
      go_enter Tryd.func61, Tryd.ntmps61
      go_wp2
      go_ret
      exact ⟨rfl, rfl⟩
    · have hd : digC c = false := by simp [digC, h3]
      rw [hd]
      clear hd
      go_enter Tryd.func61, Tryd.ntmps61
      go_wp2
      go_ret
      exact ⟨rfl, rfl⟩
  · have hd : digC c = false := by simp [digC, h2]
    rw [hd]
    clear hd
    go_enter Tryd.func61, Tryd.ntmps61
    go_wp2
    go_ret
    exact ⟨rfl, rfl⟩

theorem errNew (t : ByteArray) (w : World) : Calls Tryd.prog 59 #[.string t] w fun e w' => (∃ T v, e = .returned (.iface T v)) ∧ Below w.heap.size w w' := by
  go_enter Tryd.func59, Tryd.ntmps59
  go_wp2
  go_ret
  exact ⟨⟨_, _, rfl⟩, below_alloc (Below.refl _ _) _⟩

theorem e33 : (⟨#[33]⟩ : ByteArray).toList = [33] := by rw [ByteArray.toList_eq]
theorem first_byte (s : ByteArray) (h : 0 < s.size) : ((s.extract 0 (Int.toNat 1)).toList == (⟨#[33]⟩ : ByteArray).toList) = decide (bt s 0 = 33) := by
  rw [e33]
  have h1 : (s.extract 0 (Int.toNat 1)).toList = s.data.toList.take 1 := by
    rw [ByteArray.toList_eq, ByteArray.data_extract]
    simp
  have hl : s.data.toList.length = s.size := by rw [Array.length_toList]; rfl
  have h2 : bt s 0 = ((s[0]'h).toNat : Int) := by simp [bt, h]
  have h3 : s.data.toList[0]? = some (s[0]'h) := by rw [List.getElem?_eq_getElem (by omega)]; congr 1
  rw [h1, h2]
  generalize s[0]'h = x at h3
  cases hd : s.data.toList with
  | nil => rw [hd] at hl; simp at hl; omega
  | cons a l =>
    rw [hd] at h3
    simp only [List.getElem?_cons_zero, Option.some.injEq] at h3
    subst h3
    simp only [List.take_succ_cons, List.take_zero]
    rw [Bool.eq_iff_iff]
    simp only [beq_iff_eq, List.cons.injEq, and_true, decide_eq_true_eq]
    constructor
    · rintro rfl; rfl
    · intro h4
      have : a.toNat = 33 := by omega
      exact UInt8.toNat_inj.1 this
theorem isNegated_is (s : ByteArray) : buildtags_Term_IsNegated.f s = some (negOf s) := by
  unfold buildtags_Term_IsNegated.f strings_HasPrefix.f stringslite_HasPrefix.f negOf
  have e1 : ((⟨#[33]⟩ : ByteArray).size : Int) = 1 := rfl
  rw [e1]
  by_cases h : 0 < s.size
  · rw [if_pos (by omega), if_pos (by omega), if_pos (by omega)]
    have h1 := first_byte s h
    simp only [Option.bind_some]
    congr 1
    simp only [h, true_and]
    exact h1
  · rw [if_neg (by omega)]; simp [h]
theorem name_is (s : ByteArray) : buildtags_Term_Name.f s = some (nameOf s) := by
  unfold buildtags_Term_Name.f strings_TrimPrefix.f stringslite_TrimPrefix.f stringslite_HasPrefix.f nameOf
  have e1 : ((⟨#[33]⟩ : ByteArray).size : Int) = 1 := rfl
  rw [e1]
  by_cases h : 0 < s.size
  · rw [if_pos (by omega), if_pos (by omega), if_pos (by omega)]
    have h1 := first_byte s h
    rw [h1]
    simp only [Option.bind_some, decide_eq_true_eq, h, true_and]
    by_cases h2 : bt s 0 = 33
    · rw [if_pos h2, if_pos h2, if_pos (by omega), if_pos (by omega)]; rfl
    · rw [if_neg h2, if_neg h2]; rfl
  · have h1 : ¬ (0 < s.size ∧ bt s 0 = 33) := fun e => h e.1
    rw [if_neg (by omega)]
    simp [h1]

/-- A term that begins with two marks is not valid. -/
theorem valid_two (s : ByteArray) (h : strings_HasPrefix.f s ⟨#[33, 33]⟩ = some true) : valid s = false := by
  unfold strings_HasPrefix.f stringslite_HasPrefix.f at h
  have e1 : ((⟨#[33, 33]⟩ : ByteArray).size : Int) = 2 := rfl
  rw [e1] at h
  by_cases h2 : 2 ≤ s.size
  · rw [if_pos (by omega), if_pos (by omega), if_pos (by omega)] at h
    simp only [Option.bind_some, Option.some.injEq, beq_iff_eq] at h
    have e2 : (⟨#[33, 33]⟩ : ByteArray).toList = [33, 33] := by rw [ByteArray.toList_eq]
    have h1 : (s.extract 0 (Int.toNat 2)).toList = s.data.toList.take 2 := by
      rw [ByteArray.toList_eq, ByteArray.data_extract]
      simp
    rw [h1, e2] at h
    have hl : s.data.toList.length = s.size := by rw [Array.length_toList]; rfl
    have hb : ∀ (i : Nat) (hi : i < s.size), bt s i = ((s.data.toList[i]'(by omega)).toNat : Int) := fun i hi => by
      have h3 : s.data.toList[i]'(by omega) = s[i]'hi := by simp; rfl
      rw [h3]; simp [bt, hi]
    have g0 : s.data.toList[0]'(by omega) = 33 := by
      have : (s.data.toList.take 2)[0]? = some 33 := by rw [h]; rfl
      rw [List.getElem?_take_of_lt (by omega), List.getElem?_eq_getElem (by omega)] at this
      exact Option.some.inj this
    have g1 : s.data.toList[1]'(by omega) = 33 := by
      have : (s.data.toList.take 2)[1]? = some 33 := by rw [h]; rfl
      rw [List.getElem?_take_of_lt (by omega), List.getElem?_eq_getElem (by omega)] at this
      exact Option.some.inj this
    have b0 : bt s 0 = 33 := by have := hb 0 (by omega); rw [g0] at this; exact this
    have b1 : bt s (1 : Nat) = 33 := by have := hb 1 (by omega); rw [g1] at this; exact this
    have hn : nameOf s = s.extract 1 s.size := by unfold nameOf; rw [if_pos ⟨by omega, b0⟩]
    have hs := size_extract s (by omega)
    obtain ⟨m, hm⟩ : ∃ m, (s.extract 1 s.size).size = m + 1 := ⟨s.size - 2, by omega⟩
    unfold valid
    rw [hn, hm]
    simp only [okN]
    have hx := bt_extract1 s 0 (by omega)
    have hx' : bt (s.extract 1 s.size) ((0 : Nat) : Int) = 33 := by rw [hx]; exact b1
    rw [hx']
    have : okc 33 = false := by decide
    rw [this]
    simp
  · rw [if_neg (by omega)] at h
    simp at h

theorem next_at (W : World) (q : Nat) (n : ByteArray) (p : Nat) (hI : W.heap[q]? = some (.stringIter n p)) (hlt : p < n.size) (ha : bt n p ≤ 127) (ty : TypeId) :
    (Instr.next (.pointer (some ⟨q, 0, none⟩)) true ty).run Tryd.prog W = .ok (.tuple #[.bool true, .int .i64 p, .int .i32 (bt n p)]) (W.iterAt q n (p + 1)) := by
  have hb : bt n p = ((n[p]'hlt).toNat : Int) := by simp [bt, hlt]
  rw [hb] at ha ⊢
  exact Lib.run_next_ascii_at W q n p ty hI hlt (by omega)
theorem okN_step (n : ByteArray) (p : Nat) (h : p < n.size) : okN n (n.size - p) p = (okc (bt n p) && okN n (n.size - (p + 1)) (p + 1)) := by
  obtain ⟨m, hm⟩ : ∃ m, n.size - p = m + 1 := ⟨n.size - p - 1, by omega⟩
  have h2 : n.size - (p + 1) = m := by omega
  rw [hm, h2]
  rfl

/-- nil, or an error. -/
def ErrIs (b : Bool) (e : Ending) : Prop := match b with | true => e = .returned .nilIface | false => ∃ T v, e = .returned (.iface T v)

set_option maxHeartbeats 1600000 in
theorem validate (s : ByteArray) (w : World) (ha : ascii s = true) (hs : s.size ≤ 2147483647) (hT : TabP w) :
    Calls Tryd.prog 36 #[.string s] w fun e w' => ErrIs (valid s) e ∧ Below w.heap.size w w' := by
  obtain ⟨b2, hb2⟩ : ∃ b, strings_HasPrefix.f s ⟨#[33, 33]⟩ = some b := by
    unfold strings_HasPrefix.f stringslite_HasPrefix.f
    have e1 : ((⟨#[33, 33]⟩ : ByteArray).size : Int) = 2 := rfl
    rw [e1]
    by_cases h2 : 2 ≤ s.size
    · rw [if_pos (by omega), if_pos (by omega), if_pos (by omega)]; exact ⟨_, rfl⟩
    · rw [if_neg (by omega)]; exact ⟨_, rfl⟩
  have HP := Lib.hid (fun (W : World) => strings_HasPrefix.calls s ⟨#[33, 33]⟩ b2 W hb2)
  have HN := Lib.hid (fun (W : World) => buildtags_Term_Name.calls s (nameOf s) W (name_is s))
  have HTT := Lib.hid hT
  clear hT
  cases b2 with
  | true =>
    have hv := Lib.hid (valid_two s hb2)
    clear hb2
    go_enter Tryd.func36, Tryd.ntmps36
    go_wp2_with (first
      | (go_at_call 57; refine (HP.out _).mono ?_; rintro e w1 ⟨rfl, hd1⟩)
      | (go_at_call 59; refine (errNew _ _).mono ?_; rintro e w2 ⟨⟨T, v, rfl⟩, hb2⟩))
    go_ret
    rw [hv.out]
    exact ⟨⟨T, v, rfl⟩, below_step hd1.below hb2⟩
  | false =>
    clear hb2
    by_cases h0 : (nameOf s).size = 0
    · have hv : valid s = false := by unfold valid; simp [h0]
      have hv := Lib.hid hv
      have h00 : (((nameOf s).size : Int) == 0) = true := by simp [h0]
      clear h0
      go_enter Tryd.func36, Tryd.ntmps36
      go_wp2_with (first
        | (go_at_call 57; refine (HP.out _).mono ?_; rintro e w1 ⟨rfl, hd1⟩)
        | (go_at_call 35; refine (HN.out _).mono ?_; rintro e w2 ⟨rfl, hd2⟩)
        | (go_at_call 59; refine (errNew _ _).mono ?_; rintro e w3 ⟨⟨T, v, rfl⟩, hb3⟩))
      go_ret
      rw [hv.out]
      exact ⟨⟨T, v, rfl⟩, below_step (below_step hd1.below hd2.below) hb3⟩
    · have h00 : (((nameOf s).size : Int) == 0) = false := by simp [h0]
      have hvv : valid s = okN (nameOf s) (nameOf s).size 0 := by unfold valid; simp; intro _; omega
      have hasc : ∀ i : Nat, i < (nameOf s).size → bt (nameOf s) i ≤ 127 := fun i hi => ascii_name ha i hi
      have hns := nameOf_size s
      have HV := Lib.hid hvv
      have HA := Lib.hid hasc
      have HS := Lib.hid (Nat.le_trans hns hs)
      clear hvv hasc h0 hns hs ha
      generalize nameOf s = n at *
      go_enter Tryd.func36, Tryd.ntmps36
      go_wp2_with (first
        | (go_at_call 57; refine (HP.out _).mono ?_; rintro e w1 ⟨rfl, hd1⟩)
        | (go_at_call 35; refine (HN.out _).mono ?_; rintro e w2 ⟨rfl, hd2⟩))
      have hB2 : Below w.heap.size w w2 := below_step (below_step hd1.below (by assumption : Drawn0 _ _).below) hd2.below
      have HB2 := Aside0.mk hB2
      clear hB2 hd1 hd2 HP HN
      generalize hw2 : w2 = v2 at *
      clear hw2
      go_loopg [4] n.size (fun g u wr => ∃ p : Nat, g = n.size - p ∧ p ≤ n.size ∧ Aside0 (wr.heap[v2.heap.size]? = some (.stringIter n p)) ∧ Aside0 (okN n n.size 0 = okN n (n.size - p) p) ∧ Aside0 (Below v2.heap.size v2 wr))
      case atStart => exact ⟨0, by omega, Nat.zero_le _, ⟨World.iter_heap _ _ _⟩, ⟨rfl⟩, ⟨below_alloc (Below.refl _ _) _⟩⟩
      case round =>
        obtain ⟨p, hg, hp, HI, HO, HB⟩ := hrel
        by_cases hlt : p < n.size
        · have hT : TabP (wr.iterAt v2.heap.size n (p + 1)) := (HTT.out.below HB2.out).below (Lib.below_iterAt HB.out (Nat.le_refl _) n (p + 1))
          have hnx := next_at wr v2.heap.size n p HI.out hlt (HA.out p hlt)
          have hI2 := Lib.iterAt_heap wr v2.heap.size n p (p + 1) HI.out
          have hst := okN_step n p hlt
          have hc0 : 0 ≤ bt n p := (bt_range n p).1
          have hc1 : bt n p ≤ 127 := HA.out p hlt
          have HT := Lib.hid hT
          have HI2 := Aside0.mk hI2
          have HB3 := Aside0.mk (Lib.below_iterAt HB.out (Nat.le_refl v2.heap.size) n (p + 1))
          clear hT hI2
          generalize bt n p = c at *
          cases hl : letC c with
          | true =>
            have hk : okc c = true := by rw [okc_is, hl]; rfl
            have hst2 : okN n n.size 0 = okN n (n.size - (p + 1)) (p + 1) := by rw [HO.out, hst, hk]; rfl
            have HL := Lib.hid (isLetter c hc0 hc1 true hl _ HT.out)
            have HST := Lib.hid hst2
            clear hst2 hst hk hl
            go_wp2_with (go_at_call 60; refine HL.out.mono ?_; rintro e w' ⟨rfl, rfl⟩)
            go_roundg (n.size - (p + 1))
            case measure => omega
            case rel => exact ⟨p + 1, rfl, by omega, HI2, ⟨HST.out⟩, HB3⟩
          | false =>
            have HL := Lib.hid (isLetter c hc0 hc1 false hl _ HT.out)
            cases hd : digC c with
            | true =>
              have hk : okc c = true := by rw [okc_is, hl, hd]; rfl
              have hst2 : okN n n.size 0 = okN n (n.size - (p + 1)) (p + 1) := by rw [HO.out, hst, hk]; rfl
              have HD := Lib.hid (isDigit c hc0 hc1 true hd (wr.iterAt v2.heap.size n (p + 1)))
              have HST := Lib.hid hst2
              clear hst2 hst hk hl hd
              go_wp2_with (first
                | (go_at_call 60; refine HL.out.mono ?_; rintro e w' ⟨rfl, rfl⟩)
                | (go_at_call 61; refine HD.out.mono ?_; rintro e w' ⟨rfl, rfl⟩))
              go_roundg (n.size - (p + 1))
              case measure => omega
              case rel => exact ⟨p + 1, rfl, by omega, HI2, ⟨HST.out⟩, HB3⟩
            | false =>
              have HD := Lib.hid (isDigit c hc0 hc1 false hd (wr.iterAt v2.heap.size n (p + 1)))
              by_cases h95 : c = 95
              · have hk : okc c = true := by rw [okc_is, hl, hd, h95]; rfl
                have hst2 : okN n n.size 0 = okN n (n.size - (p + 1)) (p + 1) := by rw [HO.out, hst, hk]; rfl
                have HST := Lib.hid hst2
                have hb : (c != 95) = false := by simp [h95]
                clear hst2 hst hk hl hd h95
                go_wp2_with (first
                  | (go_at_call 60; refine HL.out.mono ?_; rintro e w' ⟨rfl, rfl⟩)
                  | (go_at_call 61; refine HD.out.mono ?_; rintro e w' ⟨rfl, rfl⟩))
                go_roundg (n.size - (p + 1))
                case measure => omega
                case rel => exact ⟨p + 1, rfl, by omega, HI2, ⟨HST.out⟩, HB3⟩
              · have hb : (c != 95) = true := by simp [h95]
                by_cases h46 : c = 46
                · have hk : okc c = true := by rw [okc_is, hl, hd, h46]; rfl
                  have hst2 : okN n n.size 0 = okN n (n.size - (p + 1)) (p + 1) := by rw [HO.out, hst, hk]; rfl
                  have HST := Lib.hid hst2
                  have hb6 : (c != 46) = false := by simp [h46]
                  clear hst2 hst hk hl hd h95 h46
                  go_wp2_with (first
                    | (go_at_call 60; refine HL.out.mono ?_; rintro e w' ⟨rfl, rfl⟩)
                    | (go_at_call 61; refine HD.out.mono ?_; rintro e w' ⟨rfl, rfl⟩))
                  go_roundg (n.size - (p + 1))
                  case measure => omega
                  case rel => exact ⟨p + 1, rfl, by omega, HI2, ⟨HST.out⟩, HB3⟩
                · have hk : okc c = false := by rw [okc_is, hl, hd]; simp [h95, h46]
                  have hst2 : valid s = false := by rw [HV.out, HO.out, hst, hk]; rfl
                  have HST := Lib.hid hst2
                  have hb6 : (c != 46) = true := by simp [h46]
                  clear hst2 hst hk hl hd h95 h46
                  go_wp2_with (first
                    | (go_at_call 60; refine HL.out.mono ?_; rintro e w' ⟨rfl, rfl⟩)
                    | (go_at_call 61; refine HD.out.mono ?_; rintro e w' ⟨rfl, rfl⟩)
                    | (go_at_call 59; refine (errNew _ _).mono ?_; rintro e w3 ⟨⟨T, v, rfl⟩, hb3⟩))
                  go_ret
                  rw [HST.out]
                  exact ⟨⟨T, v, rfl⟩, below_step HB2.out (HB3.out.trans (hb3.mono HB3.out.size))⟩
        · have hpe : p = n.size := by omega
          have hnx := fun ty => Lib.run_next_end_at (P := Tryd.prog) wr v2.heap.size n p ty HI.out hlt
          have hv : valid s = true := by rw [HV.out, HO.out, hpe, Nat.sub_self]; rfl
          have HVV := Lib.hid hv
          clear hv hpe hlt
          go_wp2
          go_ret
          rw [HVV.out]
          exact ⟨rfl, below_step HB2.out HB.out⟩
end Go.Proofs.YtknldfighehplaaDoor.HFnTextBackValid
