/- The contract of sort.Slice at a row of the call's own, sorted by number, as plainMasks calls it; conditions: the row, and its box. -/
import Derived.Test.YtknldfighehplaaHSet
import Derived.Test.YtknldfighehplaaHLays
import Derived.Deep.QuietTactic
namespace Go.Proofs.Ytknldfighehplaa.HSortM
set_option linter.unusedSimpArgs false
set_option linter.unusedVariables false
open Go.Shelf Go.RowKit Go.Lib Go.Sort Go.Proofs.Ytknldfighehplaa.HMap Go.Proofs.Ytknldfighehplaa.HMasks Go.Proofs.Ytknldfighehplaa.HTidy Go.Proofs.Ytknldfighehplaa.HSet Go.Proofs.Ytknldfighehplaa.PFnSameMasks Go.Proofs.YtknldfighehplaaW.PrintWords Go.Proofs.YtknldfighehplaaW.PrintLast Go.Proofs.YtknldfighehplaaW.PrintMore

noncomputable def siT : TypeInfo := (Try.prog.info? 32).get (by kernel_rfl)
noncomputable def siE : TypeInfo := (Try.prog.info? 74).get (by kernel_rfl)
theorem siB : siE.bytes = 8 := by kernel_rfl
theorem siP : siE.hasPointers = false := by kernel_rfl
theorem swK (n : Nat) (h2 : 2 ≤ n) : Lib.swapperK n siE 25 = 5 := by
  have c : (n == 0) = false := by simp; omega
  have d : (n == 1) = false := by simp; omega
  simp [Lib.swapperK, siP, siB, c, d]

instance : Inhabited S74 := ⟨z74⟩
/-- An entry: its two cells. -/
def enc74 (x : S74) : List Value := [.int .u32 x.f0, .int .u16 x.f1]
def lt74 (a b : S74) : Bool := decide (a.f0 < b.f0)
theorem swo74 : SWO lt74 where
  irrefl := fun x => by simp [lt74]
  trans := fun x y z h1 h2 => by simp [lt74] at *; omega
  ntrans := fun x y z h1 h2 => by simp [lt74] at *; omega

set_option maxHeartbeats 2000000 in
theorem less (blk off c Bs size : Nat) (W : World) (G : Nat → Int) (hs : W.cell? ⟨Bs, 0, none⟩ = some (.slice (some ⟨blk, off, none⟩) size c))
    (hc : ∀ t, t < size → W.cell? ⟨blk, off + t * 2, none⟩ = some (.int .u32 (G t))) (i j : Nat) (hi : i < size) (hj : j < size) (_hsz : size < 4611686018427387904) :
    Calls Try.prog 79 #[.int .i64 i, .int .i64 j, .pointer (some ⟨Bs, 0, none⟩)] W fun e w' => e = .returned (.bool (decide (G i < G j))) ∧ ∃ q, w' = W.drewN q := by
  have ci := hc i hi
  have cj := hc j hj
  clear hc
  go_enter Try.func79, Try.ntmps79
  go_wp2
  go_quiet (fail)
  go_wp2
  go_ret
  exact ⟨rfl, nq, rfl⟩

theorem many (blk c Bs : Nat) (d : Array S74) (h2 : 2 ≤ d.size) (hsz : d.size < 4611686018427387904) (w : World) (hH : HoldsK enc74 2 w blk 0 d) (hblk : blk < w.heap.size)
    (hBs : w.cell? ⟨Bs, 0, none⟩ = some (.slice (some ⟨blk, 0, none⟩) d.size c)) (hB1 : Bs < w.heap.size) (hB2 : Bs ≠ blk) :
    Calls Try.prog 78 #[.iface 32 (.slice (some ⟨blk, 0, none⟩) d.size c), .func (.func 79) #[] #[.pointer (some ⟨Bs, 0, none⟩)]] w fun e w' =>
      e = .returned (.tuple #[]) ∧ ∃ d' n os, PermIn 0 d.size d d' ∧ SortedIn lt74 0 d.size d' ∧ w' = grow (putRowK enc74 2 (Sort.ahead w n) blk 0 d') os := by
  have hless : LessReadsK Try.prog 79 #[.pointer (some ⟨Bs, 0, none⟩)] enc74 2 lt74 blk 0 d.size w := by
    intro m os dk hs i j hi hj
    have e : sortWorldK enc74 2 w blk 0 m dk os = putRowK enc74 2 (grow (Sort.ahead w m) os) blk 0 dk := by
      unfold sortWorldK; rw [putRowK_grow _ _ (Sort.ahead w m) _ blk 0 _ hblk]
    have hHg : HoldsK enc74 2 (grow (Sort.ahead w m) os) blk 0 d := holdsK_grow _ _ _ _ blk 0 d hblk (holdsK_ahead _ _ _ _ _ _ _ hH)
    refine less blk 0 c Bs d.size _ (fun t => dk[t]!.f0) ?_ (fun t ht => ?_) i j hi hj (by omega)
    · rw [e, cell?_putRowK_other _ _ _ blk 0 dk _ (by exact hB2), cell?_grow _ _ _ (by exact hB1)]; exact hBs
    · rw [e]; exact ((holdsK_putRowK _ _ _ blk 0 d dk hHg hs).cell (i := t) (c := 0) (by omega) (by omega)).1
  exact Any.sort_Slice_cells_sorted HLays.lays 32 74 siT siE (by kernel_rfl) (by kernel_rfl) (by kernel_rfl) (by kernel_rfl) 25 (fun _ => by kernel_rfl) enc74 2 (fun _ => rfl) (by kernel_rfl) (fun _ => by kernel_rfl)
    (fun x v hv => by simp [enc74] at hv; rcases hv with rfl | rfl <;> rfl) lt74 swo74 79 _
    (enters_of Try.func79 (by kernel_rfl) rfl) blk 0 c d h2 hsz 93 (by rw [swK _ h2]; kernel_rfl) true
    (fun args W => run_callFunc_extern Try.func93 (by kernel_rfl) (by kernel_rfl) (by kernel_rfl) (e := Extern.ReflectliteSwapper.swap true) (by kernel_rfl) args W) w hless hH hblk

theorem few (p : Option Addr) (n c Bs : Nat) (h1 : n ≤ 1) (w : World) :
    Calls Try.prog 78 #[.iface 32 (.slice p n c), .func (.func 79) #[] #[.pointer (some ⟨Bs, 0, none⟩)]] w fun e w' => e = .returned (.tuple #[]) ∧ ∃ os, w' = grow w os := by
  have hK : Lib.swapperK n siE 25 = n + 1 := by
    rcases Nat.eq_zero_or_pos n with h | h
    · subst h; simp [Lib.swapperK]
    · obtain rfl : n = 1 := by omega
      simp [Lib.swapperK]
  exact Any.sort_Slice_tiny HLays.lays 32 74 siT siE (by kernel_rfl) (by kernel_rfl) (by kernel_rfl) (by kernel_rfl) 25 (fun _ => by kernel_rfl) p n c h1 (89 + n) (by
    rw [hK]
    rcases Nat.eq_zero_or_pos n with h | h
    · subst h; kernel_rfl
    · obtain rfl : n = 1 := by omega
      kernel_rfl) (.func 79) #[] #[.pointer (some ⟨Bs, 0, none⟩)] w

theorem below_grow (w : World) (os : Array Obj) : Below w.heap.size w (grow w os) := by
  refine ⟨rfl, rfl, rfl, by simp [grow], fun k hk => ?_⟩
  simp [grow, Array.getElem?_append, hk]
theorem below_put (w : World) (n blk base : Nat) (d' : Array S74) (os : Array Obj) (hb : base ≤ blk) (hlt : blk < w.heap.size) : Below base w (grow (putRowK enc74 2 (Sort.ahead w n) blk 0 d') os) := by
  have hs : (putRowK enc74 2 (Sort.ahead w n) blk 0 d').heap.size = w.heap.size := by simp [putRowK, putRow, mapBlock, Sort.ahead]
  refine ⟨rfl, rfl, rfl, by simp [grow, hs], fun k hk => ?_⟩
  have hk2 : k < w.heap.size := by omega
  simp only [grow, Array.getElem?_append, hs, hk2, if_true]
  simp only [putRowK, putRow, mapBlock, Sort.ahead, Array.getElem?_modify]
  rw [if_neg (by omega)]

/-- sort.Slice at a row of the call's own: a permutation lies there, the box stands. -/
theorem sortRow (base Bs : Nat) (v : Value) (ys : List S74) (w : World) (hR : k74.R 74 w base (fun _ => True) v ys) (hbox : w.heap[Bs]? = some (.cells #[v] 32 (0, 0))) (hBs : base ≤ Bs) (hl : ys.length ≤ 1000000) :
    Calls Try.prog 78 #[.iface 32 v, .func (.func 79) #[] #[.pointer (some ⟨Bs, 0, none⟩)]] w fun e w' =>
      e = .returned (.tuple #[]) ∧ ∃ A c zs, v = .slice A zs.length c ∧ zs.length ≤ c ∧ zs.Perm ys ∧ Kd.C k74 w' A zs.length zs ∧ w'.cell? ⟨Bs, 0, none⟩ = some v ∧ Below base w w' := by
  have hbs : w.cell? ⟨Bs, 0, none⟩ = some v := (blk_cell hbox 0).trans rfl
  have hBlt := blk_lt hbox
  obtain ⟨A, c, hv, hc, hC⟩ := Kd.R_reads hR
  by_cases h1 : ys.length ≤ 1
  · subst hv
    refine (few A ys.length c Bs h1 w).mono fun e w' ⟨he, os, hw⟩ => ?_
    subst hw
    have hb := below_grow w os
    exact ⟨he, A, c, ys, rfl, hc, List.Perm.refl _, Kd.C_below hC hb, (hb.cell (p := ⟨Bs, 0, none⟩) hBlt).trans hbs, hb.mono (by omega)⟩
  · obtain ⟨_, inner, ⟨hin, ho⟩, hreps⟩ := hR
    rcases ho with ⟨_, h0⟩ | ⟨g, cap, cur, hv2, hbg, hg, hcap, _, hcs, htk⟩
    · omega
    · have hgB : Bs ≠ g := by
        rintro rfl
        rw [hbox] at hg
        injection hg with hg
        injection hg with _ hg
        cases hg
      have hglt : g < w.heap.size := blk_lt hg
      have hH : HoldsK enc74 2 w g 0 ys.toArray := by
        intro t ht
        rw [size_flatK] at ht
        have ht' : t < ys.length * 2 := by simpa using ht
        have hq : t / 2 < ys.length := by omega
        refine ⟨?_, ?_⟩
        · rw [get_flatK _ _ _ _ ht, Nat.zero_add, blk_cell hg t]
          have h3 := hreps.2 (t / 2) ys[t / 2] (List.getElem?_eq_getElem hq)
          have h4 := k74_openM h3
          have h5 : cur[t]? = inner[t]? := by
            rw [← htk]
            rw [List.getElem?_take_of_lt (by show t < ys.length * 2; exact ht')]
            simp
          have h6 : inner[t]? = ((inner.drop (t / 2 * 2)).take 2)[t % 2]? := by
            rw [List.getElem?_take_of_lt (by omega), List.getElem?_drop]
            congr 1
            omega
          rw [h5, h6]
          have h7 : (inner.drop (t / 2 * 2)).take 2 = enc74 ys[t / 2] := h4
          rw [h7]
          have h8 : ys.toArray[t / 2]! = ys[t / 2] := by simp [hq]
          rw [h8]
          rcases (show t % 2 = 0 ∨ t % 2 = 1 by omega) with h9 | h9 <;> rw [h9] <;> rfl
        · rw [Nat.zero_add]; exact blk_frozen hg t
      have hsz : ys.toArray.size = ys.length := by simp
      rw [hv2]
      rw [hv2] at hbs
      have M := many g cap Bs ys.toArray (by rw [hsz]; omega) (by rw [hsz]; omega) w hH hglt (by rw [hsz]; exact hbs) hBlt hgB
      rw [hsz] at M
      refine M.mono fun e w' ⟨he, d', n, os, hp, _, hw⟩ => ?_
      have hd' : d'.size = ys.length := by rw [hp.1, hsz]
      have hperm : d'.toList.Perm ys := by
        have h3 := hp.2.2
        have e1 : (d'.extract 0 ys.length) = d' := by rw [← hd']; simp
        have e2 : (ys.toArray.extract 0 ys.length) = ys.toArray := by rw [← hsz]; simp
        rw [e1, e2] at h3
        simpa using h3
      have hW : HoldsK enc74 2 w' g 0 d' := by
        rw [hw]
        exact holdsK_sortWorldK enc74 2 w g 0 n ys.toArray d' os hglt hH (by rw [hd', hsz])
      have hlen : d'.toList.length = ys.length := by simpa using hd'
      refine ⟨he, some ⟨g, 0, none⟩, cap, d'.toList, by rw [hlen], by rw [hlen]; exact hcap, hperm, ?_, ?_, ?_⟩
      · refine ⟨rfl, by omega, fun _ => ⟨⟨g, 0, none⟩, rfl, fun j p hj => ?_⟩⟩
        have hjl : j < d'.size := by
          have := (List.getElem?_eq_some_iff.1 hj).1
          simpa using this
        have hjp : d'[j]! = p := by
          have h4 : d'[j]? = some p := by simpa using hj
          rw [getElem!_pos d' j hjl]
          rw [Array.getElem?_eq_getElem hjl] at h4
          exact Option.some.inj h4
        refine ⟨enc74 p, rfl, k74_mk w' p, fun i u hu => ?_⟩
        have hi : i < 2 := (List.getElem?_eq_some_iff.1 hu).1
        have h5 := (hW.cell (i := j) (c := i) hjl hi).1
        rw [hjp] at h5
        have h6 : (enc74 p)[i]! = u := by
          rw [getElem!_pos (enc74 p) i hi]
          rw [List.getElem?_eq_getElem hi] at hu
          exact Option.some.inj hu
        rw [h6] at h5
        have h7 : Addr.add ⟨g, 0, none⟩ (j * 2 + i) = ⟨g, 0 + j * 2 + i, none⟩ := by
          by_cases h8 : j * 2 + i = 0
          · have h9 : j = 0 := by omega
            have h10 : i = 0 := by omega
            subst h9; subst h10; simp [Addr.add]
          · simp [Addr.add, h8]
            intro h9 h10
            omega
        show w'.cell? (Addr.add ⟨g, 0, none⟩ (j * 2 + i)) = some u
        rw [h7]
        exact h5
      · rw [hw, cell?_grow _ _ _ (by simp [putRowK, putRow, mapBlock, Sort.ahead]; exact hBlt), cell?_putRowK_other _ _ _ g 0 d' _ (by exact hgB)]
        exact hbs
      · rw [hw]; exact below_put w n g base d' os hbg hglt
end Go.Proofs.Ytknldfighehplaa.HSortM
