/- strings.Fields on bytes below 128, for texts of at most 8000000000000 bytes; conditions: the table of white space. -/
import Derived.Lib.FieldsLaws
import Derived.Lib.SplitLaws
import Derived.Lib.Walk
import Derived.Laws.Strings3
import Derived.WalkKit
import Derived.Deep.OwnRows
import Derived.Deep.LoopGhost
import Derived.Deep.CutBlock
import Derived.Lib.LaidTab
import Derived.KernelRfl
import Derived.Test.YtknldfighehplaaDoorProg
namespace Go.Proofs.YtknldfighehplaaDoor.HFieldsW
set_option linter.unusedSimpArgs false
set_option linter.unusedVariables false
open Go.RowKit Go.Lib
theorem info9 : (Tryd.prog.info? 9).map (fun i => (i.zero, i.size, i.bytes)) = some (some (.string ByteArray.empty), 1, 16) := by kernel_rfl
theorem andNot00 : bits .and .i64 0 (bits .xor .i64 (-1) 0) = 0 := by decide
theorem andNot01 : bits .and .i64 0 (bits .xor .i64 (-1) 1) = 0 := by decide
theorem andNot10 : bits .and .i64 1 (bits .xor .i64 (-1) 0) = 1 := by decide
theorem andNot11 : bits .and .i64 1 (bits .xor .i64 (-1) 1) = 0 := by decide

set_option maxHeartbeats 16000000 in
set_option maxRecDepth 1000000 in
theorem fieldsCore (s : ByteArray) (w : World) (hs : s.size ≤ 8000000000000) (hascii : ∀ (j : Nat) b, s.data.toList[j]? = some b → b.toNat < 128)
    (hT : ∀ c : Nat, c < 256 → w.cell? ⟨3, c, none⟩ = some (.int .u8 (if Lib.isSp (UInt8.ofNat c) then 1 else 0))) :
    Calls Tryd.prog 65 #[.string s] w fun e w' =>
      e = .returned (.slice (some ⟨w.heap.size, 0, none⟩) (Lib.fields s.data.toList).length (Lib.fields s.data.toList).length) ∧ w' = w.alloc (.cells ((Lib.fields s.data.toList).map fun l => Value.string ⟨l.toArray⟩).toArray 9) := by
  have HA : Aside (∀ (j : Nat) b, s.data.toList[j]? = some b → b.toNat < 128) := hascii
  have HT : Aside (∀ c : Nat, c < 256 → w.cell? ⟨3, c, none⟩ = some (.int .u8 (if Lib.isSp (UInt8.ofNat c) then 1 else 0))) := hT
  have HT1 : Aside (∀ (o : Obj) (c : Nat), c < 256 → (w.alloc o).cell? ⟨3, c, none⟩ = some (.int .u8 (if Lib.isSp (UInt8.ofNat c) then 1 else 0))) := fun o c hc => by
    rw [World.cell?_alloc_old _ _ _ (Nat.ne_of_lt (World.block_lt_of_cell? _ _ (hT c hc)))]; exact hT c hc
  clear hascii hT
  obtain ⟨N, hN⟩ : ∃ N : Nat, (Lib.fields s.data.toList).length = N := ⟨_, rfl⟩
  rw [hN]
  have hNc : Lib.cntF true s.data.toList = N := by rw [← Lib.fields_length]; exact hN
  have hlen : s.data.toList.length = s.size := (Lib.size_eq s).symm
  go_enter Tryd.func65, Tryd.ntmps65
  go_wp2
  go_loopg [3, 4, 5, 6] s.size (fun g s3 s4 s5 s6 wx => w = wx ∧ ∃ (k nn sb : Nat) (ws : Bool), k ≤ s.size ∧ g = s.size - k ∧ s6 = .int .i64 k ∧ s3 = .int .i64 nn ∧ s4 = .int .i64 (if ws then 1 else 0) ∧ s5 = .int .u8 sb ∧ sb < 128 ∧ nn ≤ k ∧
    nn + Lib.cntF ws (s.data.toList.drop k) = N)
  case atStart => exact ⟨rfl, 0, 0, 0, true, Nat.zero_le _, rfl, rfl, rfl, rfl, rfl, by omega, Nat.le_refl _, by simpa using hNc⟩
  case round =>
    obtain ⟨rfl, k, nn, sb, ws, hk, rfl, rfl, rfl, rfl, rfl, hsb, hnk, hc⟩ := hrel
    by_cases hkn : k < s.size
    · have hkz : (k : Int) < (s.size : Int) := by omega
      obtain ⟨x, hx⟩ : ∃ x : UInt8, s[k] = x := ⟨_, rfl⟩
      have hxl : s.data.toList[k]? = some x := by rw [← hx]; exact Lib.data_getElem? s k hkn
      have hx128 : x.toNat < 128 := HA.out k x hxl
      have hxz : (x.toNat : Int) < 256 := by omega
      have hTx : w.cell? ⟨3, x.toNat, none⟩ = some (.int .u8 (if Lib.isSp x then 1 else 0)) := by have := HT.out x.toNat (by omega); simpa using this
      have hor : bits .or .u8 (sb : Int) (x.toNat : Int) = ((sb ||| x.toNat : Nat) : Int) := u8_or_nat _ _ (by omega) (by omega)
      have hor128 : sb ||| x.toNat < 128 := Nat.or_lt_two_pow (n := 7) hsb hx128
      rw [Lib.drop_at hxl, Lib.cntF_step] at hc
      have HC : Aside (nn + ((if ws && !Lib.isSp x then 1 else 0) + Lib.cntF (Lib.isSp x) (s.data.toList.drop (k + 1))) = N) := hc
      clear hc hxl
      have b00 := andNot00; have b01 := andNot01; have b10 := andNot10; have b11 := andNot11
      cases hsx : Lib.isSp x <;> cases ws <;> rw [hsx] at hTx <;> simp only [if_true, Bool.false_eq_true, if_false] at hTx ⊢ <;>
        (go_wp2
         go_roundg (s.size - (k + 1))
         case measure => omega
         case rel =>
           have hc := HC.out
           rw [hsx] at hc
           simp at hc
           first
             | exact ⟨rfl, k + 1, nn, sb ||| x.toNat, false, by omega, rfl, by first | rfl | simp, by first | rfl | (simp; unfold RowKit.wrap64; omega), rfl, by first | rfl | simp, hor128, by omega, by omega⟩
             | exact ⟨rfl, k + 1, nn + 1, sb ||| x.toNat, false, by omega, rfl, by first | rfl | simp, by first | rfl | (simp; unfold RowKit.wrap64; omega), rfl, by first | rfl | simp, hor128, by omega, by omega⟩
             | exact ⟨rfl, k + 1, nn, sb ||| x.toNat, true, by omega, rfl, by first | rfl | simp, by first | rfl | (simp; unfold RowKit.wrap64; omega), rfl, by first | rfl | simp, hor128, by omega, by omega⟩)
    · obtain rfl : k = s.size := by omega
      generalize (if ws = true then (1 : Int) else 0) = v4
      have hkz : ¬ ((s.size : Int) < (s.size : Int)) := by omega
      have hsbz : ¬ ((128 : Int) ≤ (sb : Int)) := by omega
      obtain rfl : N = nn := by rw [← hlen, List.drop_length] at hc; simpa [Lib.cntF] using hc.symm
      clear hc
      have hmk := run_make_row' (P := Tryd.prog) 22 9 (.string ByteArray.empty) 16 Tryd.underlying22 info9 rfl .i64 .i64 N (by omega) (by omega)
      go_upto_block 2 with fail
      clear hmk
      rw [← Lib.cellsOf_nil]
      go_cut [12] from 42 to 55 (fun s12 wx => (w.alloc (.cells (Lib.cellsOf [] N) 9)) = wx ∧ ∃ i : Nat, i ≤ s.size ∧ s12 = .int .i64 i ∧ Lib.fieldsGo [] (s.data.toList.drop i) = Lib.fields s.data.toList ∧ ∀ y, s.data.toList[i]? = some y → Lib.isSp y = false)
      case first =>
        go_wp2_with fail
        go_loopg [12] s.size (fun g s12 wx => (w.alloc (.cells (Lib.cellsOf [] N) 9)) = wx ∧ ∃ i : Nat, i ≤ s.size ∧ g = s.size - i ∧ s12 = .int .i64 i ∧ Lib.fieldsGo [] (s.data.toList.drop i) = Lib.fields s.data.toList)
        case atStart => exact ⟨rfl, 0, Nat.zero_le _, rfl, rfl, rfl⟩
        case round =>
          obtain ⟨rfl, i, hi, rfl, rfl, hf⟩ := hrel
          have HF : Aside (Lib.fieldsGo [] (s.data.toList.drop i) = Lib.fields s.data.toList) := hf
          clear hf
          by_cases hin : i < s.size
          · have hiz : (i : Int) < (s.size : Int) := by omega
            obtain ⟨x, hx⟩ : ∃ x : UInt8, s[i] = x := ⟨_, rfl⟩
            have hxl : s.data.toList[i]? = some x := by rw [← hx]; exact Lib.data_getElem? s i hin
            have hx128 : x.toNat < 128 := HA.out i x hxl
            have hxz : (x.toNat : Int) < 256 := by omega
            have hTx : (w.alloc (.cells (Lib.cellsOf [] N) 9)).cell? ⟨3, x.toNat, none⟩ = some (.int .u8 (if Lib.isSp x then 1 else 0)) := by have := HT1.out (.cells (Lib.cellsOf [] N) 9) x.toNat (by omega); simpa using this
            have Hx : Aside (s.data.toList[i]? = some x) := hxl
            clear hxl
            cases hsx : Lib.isSp x <;> rw [hsx] at hTx <;> simp only [if_true, Bool.false_eq_true, if_false] at hTx
            · go_wp2
              go_meet
              exact ⟨rfl, i, hi, rfl, HF.out, fun y hy => by rw [Hx.out] at hy; cases hy; exact hsx⟩
            · go_wp2
              go_roundg (s.size - (i + 1))
              case measure => omega
              case rel => exact ⟨rfl, i + 1, by omega, rfl, by first | rfl | simp, by rw [← HF.out, Lib.drop_at Hx.out, Lib.fieldsGo_sp _ _ hsx]⟩
          · obtain rfl : i = s.size := by omega
            have hiz : ¬ ((s.size : Int) < (s.size : Int)) := by omega
            go_wp2
            go_meet
            exact ⟨rfl, s.size, Nat.le_refl _, rfl, HF.out, fun y hy => by rw [List.getElem?_eq_none (by omega)] at hy; cases hy⟩
      case rest =>
        obtain ⟨rfl, i0, hi0, rfl, hf0, hns0⟩ := hcut
        have H0 : Aside (Lib.fieldsGo [] (s.data.toList.drop i0) = Lib.fields s.data.toList ∧ ∀ y, s.data.toList[i0]? = some y → Lib.isSp y = false) := ⟨hf0, hns0⟩
        clear hf0 hns0
        go_wp2
        go_loopg [10, 11, 12] (s.size - i0) (fun g s10 s11 s12 wx => ∃ (done : List ByteArray) (fs i : Nat), s10 = .int .i64 done.length ∧ s11 = .int .i64 fs ∧ s12 = .int .i64 i ∧ fs ≤ i ∧ i ≤ s.size ∧ g = s.size - i ∧ wx = (w.alloc (.cells (Lib.cellsOf done N) 9)) ∧
          done.map (·.data.toList) ++ Lib.fieldsGo ((s.data.toList.drop fs).take (i - fs)) (s.data.toList.drop i) = Lib.fields s.data.toList ∧ (fs = i → ∀ y, s.data.toList[i]? = some y → Lib.isSp y = false))
        case atStart => exact ⟨[], i0, i0, rfl, rfl, rfl, Nat.le_refl _, hi0, rfl, rfl, by rw [Lib.piece_nil]; exact H0.out.1, fun _ => H0.out.2⟩
        case round =>
          obtain ⟨done, fs, i, rfl, rfl, rfl, hfi, hi, rfl, rfl, hinv, hside⟩ := hrel
          clear H0
          by_cases hin : i < s.size
          · have hiz : (i : Int) < (s.size : Int) := by omega
            obtain ⟨x, hx⟩ : ∃ x : UInt8, s[i] = x := ⟨_, rfl⟩
            have hxl : s.data.toList[i]? = some x := by rw [← hx]; exact Lib.data_getElem? s i hin
            have hx128 : x.toNat < 128 := HA.out i x hxl
            have hxz : (x.toNat : Int) < 256 := by omega
            have hTx : (w.alloc (.cells (Lib.cellsOf done N) 9)).cell? ⟨3, x.toNat, none⟩ = some (.int .u8 (if Lib.isSp x then 1 else 0)) := by have := HT1.out (.cells (Lib.cellsOf done N) 9) x.toNat (by omega); simpa using this
            have Hx : Aside (s.data.toList[i]? = some x) := hxl
            clear hxl
            cases hsx : Lib.isSp x <;> rw [hsx] at hTx <;> simp only [if_true, Bool.false_eq_true, if_false] at hTx
            · -- a byte of a field: 'i++; continue'
              have HI : Aside (done.map (·.data.toList) ++ Lib.fieldsGo ((s.data.toList.drop fs).take (i - fs)) (s.data.toList.drop i) = Lib.fields s.data.toList) := hinv
              clear hinv hside
              go_wp2
              go_roundg (s.size - (i + 1))
              case measure => omega
              case rel => exact ⟨done, fs, i + 1, rfl, rfl, by first | rfl | simp, by omega, by omega, rfl, rfl, by rw [Lib.piece_more hfi Hx.out, ← Lib.fieldsGo_more _ _ _ hsx, ← Lib.drop_at Hx.out]; exact HI.out, fun h => by omega⟩
            · -- white space: the field ends here: 'a[na] = s[fieldStart:i]; na++; i++'
              have hlt : fs < i := by
                refine Nat.lt_of_le_of_ne hfi fun h => ?_
                have := hside h x Hx.out
                rw [hsx] at this
                cases this
              rw [Lib.drop_at Hx.out, Lib.fieldsGo_end _ _ _ hsx (Lib.piece_ne hlt (by omega))] at hinv
              have hdN : done.length < N := by
                have := congrArg List.length hinv
                rw [hN] at this
                simp at this
                omega
              have hnext : (Lib.cellsOf done N)[done.length]? = some (.string ByteArray.empty) := Lib.cellsOf_next hdN
              have hdz : ((done.length : Nat) : Int) < (N : Int) := by omega
              have c1 : (fs : Int) ≤ (i : Int) := by omega
              have c2 : (i : Int) ≤ (s.size : Int) := by omega
              have HI : Aside ((done ++ [s.extract fs i]).map (·.data.toList) ++ Lib.fieldsGo [] (s.data.toList.drop (i + 1)) = Lib.fields s.data.toList) := by
                show _ = _
                rw [← hinv, List.map_append, List.map_cons, List.map_nil, Lib.extract_data]
                simp
              clear hinv hside
              go_wp2
              rw [Lib.cellsOf_set hdN]
              clear hnext hTx
              go_loopg [12] (s.size - (i + 1)) (fun g s12 wx => (w.alloc (.cells (Lib.cellsOf (done ++ [s.extract fs i]) N) 9)) = wx ∧ ∃ j : Nat, i + 1 ≤ j ∧ j ≤ s.size ∧ g = s.size - j ∧ s12 = .int .i64 j ∧ Lib.fieldsGo [] (s.data.toList.drop j) = Lib.fieldsGo [] (s.data.toList.drop (i + 1)))
              case atStart => exact ⟨rfl, i + 1, Nat.le_refl _, by omega, rfl, by first | rfl | simp, rfl⟩
              case round =>
                obtain ⟨rfl, j, hij, hj, rfl, rfl, hfj⟩ := hrel
                have HJ : Aside (Lib.fieldsGo [] (s.data.toList.drop j) = Lib.fieldsGo [] (s.data.toList.drop (i + 1))) := hfj
                clear hfj hx Hx hx128 hxz hsx
                by_cases hjn : j < s.size
                · have hjz : (j : Int) < (s.size : Int) := by omega
                  obtain ⟨x, hx⟩ : ∃ x : UInt8, s[j] = x := ⟨_, rfl⟩
                  have hxl : s.data.toList[j]? = some x := by rw [← hx]; exact Lib.data_getElem? s j hjn
                  have hx128 : x.toNat < 128 := HA.out j x hxl
                  have hxz : (x.toNat : Int) < 256 := by omega
                  have hTx : (w.alloc (.cells (Lib.cellsOf (done ++ [s.extract fs i]) N) 9)).cell? ⟨3, x.toNat, none⟩ = some (.int .u8 (if Lib.isSp x then 1 else 0)) := by have := HT1.out (.cells (Lib.cellsOf (done ++ [s.extract fs i]) N) 9) x.toNat (by omega); simpa using this
                  have Hx : Aside (s.data.toList[j]? = some x) := hxl
                  clear hxl
                  cases hsx : Lib.isSp x <;> rw [hsx] at hTx <;> simp only [if_true, Bool.false_eq_true, if_false] at hTx
                  · go_wp2
                    go_roundg (s.size - j)
                    case measure => omega
                    case rel => exact ⟨done ++ [s.extract fs i], j, j, by simp, rfl, rfl, Nat.le_refl _, hj, rfl, rfl, by rw [Lib.piece_nil, HJ.out]; exact HI.out, fun _ y hy => by rw [Hx.out] at hy; cases hy; exact hsx⟩
                  · go_wp2
                    go_roundg (s.size - (j + 1))
                    case measure => omega
                    case rel => exact ⟨rfl, j + 1, by omega, by omega, rfl, by first | rfl | simp, by rw [← HJ.out, Lib.drop_at Hx.out, Lib.fieldsGo_sp _ _ hsx]⟩
                · obtain rfl : j = s.size := by omega
                  have hjz : ¬ ((s.size : Int) < (s.size : Int)) := by omega
                  go_wp2
                  go_roundg (s.size - s.size)
                  case measure => omega
                  case rel => exact ⟨done ++ [s.extract fs i], s.size, s.size, by simp, rfl, rfl, Nat.le_refl _, Nat.le_refl _, rfl, rfl, by rw [Lib.piece_nil, HJ.out]; exact HI.out, fun _ y hy => by rw [List.getElem?_eq_none (by omega)] at hy; cases hy⟩
          · -- the string's end: 'if fieldStart < len(s) { a[na] = s[fieldStart:] }; return a'
            obtain rfl : i = s.size := by omega
            have hiz : ¬ ((s.size : Int) < (s.size : Int)) := by omega
            rw [← hlen, List.drop_length, hlen] at hinv
            clear hside
            by_cases hfl : fs < s.size
            · have hflz : (fs : Int) < (s.size : Int) := by omega
              have hne := Lib.piece_ne (l := s.data.toList) hfl (by omega)
              have e1 : Lib.fieldsGo ((s.data.toList.drop fs).take (s.size - fs)) [] = [(s.data.toList.drop fs).take (s.size - fs)] := by
                cases hc : (s.data.toList.drop fs).take (s.size - fs) with
                | nil => exact absurd hc hne
                | cons _ _ => rfl
              rw [e1] at hinv
              have hfin : (done ++ [s.extract fs s.size]).map (·.data.toList) = Lib.fields s.data.toList := by rw [← hinv, List.map_append, List.map_cons, List.map_nil, Lib.extract_data]
              have hdN : done.length + 1 = N := by
                have := congrArg List.length hfin
                rw [hN] at this
                simpa using this
              have hnext : (Lib.cellsOf done N)[done.length]? = some (.string ByteArray.empty) := Lib.cellsOf_next (by omega)
              have hdz : ((done.length : Nat) : Int) < (N : Int) := by omega
              have HFin : Aside ((done ++ [s.extract fs s.size]).map (·.data.toList) = Lib.fields s.data.toList) := hfin
              clear hinv hfin e1 hne
              go_wp2
              go_ret
              refine ⟨rfl, ?_⟩
              rw [Lib.cellsOf_set (by omega), ← Lib.pieces_eq HFin.out, ← Lib.cellsOf_full]
              congr 3
              simp; omega
            · obtain rfl : fs = s.size := by omega
              have hflz : ¬ ((s.size : Int) < (s.size : Int)) := by omega
              rw [Lib.piece_nil] at hinv
              have hfin : done.map (·.data.toList) = Lib.fields s.data.toList := by simpa [Lib.fieldsGo] using hinv
              have hdN : done.length = N := by
                have := congrArg List.length hfin
                rw [hN] at this
                simpa using this
              have HFin : Aside (done.map (·.data.toList) = Lib.fields s.data.toList) := hfin
              clear hinv hfin
              go_wp2
              go_ret
              refine ⟨rfl, ?_⟩
              rw [← Lib.pieces_eq HFin.out, ← Lib.cellsOf_full, hdN]


theorem gS : Tryd.prog.globalNamed "strings.asciiSpace" = some 3 := by kernel_rfl
theorem fields (s : ByteArray) (w : World) (hs : s.size ≤ 8000000000000) (hascii : ∀ (j : Nat) b, s.data.toList[j]? = some b → b.toNat < 128) (htab : Lib.TabIs Tryd.prog w "strings.asciiSpace" .u8 Lib.asciiSpaceTab) :
    Calls Tryd.prog 65 #[.string s] w fun e w' =>
      e = .returned (.slice (some ⟨w.heap.size, 0, none⟩) (Lib.fields s.data.toList).length (Lib.fields s.data.toList).length) ∧ w' = w.alloc (.cells ((Lib.fields s.data.toList).map fun l => Value.string ⟨l.toArray⟩).toArray 9) :=
  fieldsCore s w hs hascii fun c hc => by rw [htab.cell gS c (by rw [Lib.asciiSpaceTab_length]; exact hc), Lib.asciiSpaceTab_at c hc]
end Go.Proofs.YtknldfighehplaaDoor.HFieldsW
