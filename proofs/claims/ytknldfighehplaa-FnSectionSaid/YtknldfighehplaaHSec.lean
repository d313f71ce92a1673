/- Contracts of the data section's methods (ir.Global) and of impl.Section; conditions: what the section's block and its row hold. -/
import Derived.Test.YtknldfighehplaaHInt
import Derived.Test.YtknldfighehplaaPFnSectionx2
import Derived.Lib.Hide
import Derived.Handy
import Derived.Deep.RegionLaw
namespace Go.Proofs.Ytknldfighehplaa.HSec
set_option linter.unusedSimpArgs false
set_option linter.unusedVariables false
open Go.RowKit Go.Proofs.Ytknldfighehplaa.HConst Go.Proofs.Ytknldfighehplaa.HInt Go.Proofs.Ytknldfighehplaa.PFnSection Go.Proofs.YtknldfighehplaaW.PrintWords Go.Proofs.YtknldfighehplaaW.PrintLast Go.Proofs.YtknldfighehplaaW.PrintMore

theorem info86 : (Try.prog.info? 86).map (fun i => (i.zero, i.size, i.bytes)) = some (some (.agg #[.int .i64 0, .nilIface]), 2, 24) := by kernel_rfl

/-- A datum: the offset, and the constant as the package's value. -/
def kd86 : Kd S40 := Kd.iso (Kd.pair (Kd.int .i64) (Kd.scalar (fun c : S38 => cval c.f0 c.f1 c.f2) (fun c => cval_one _ _ _))) (fun x : S40 => (x.f0, x.f1))
theorem kd86_open {w : World} {x : S40} {cs : List Value} (h : kd86.K w x cs) : cs = [.int .i64 x.f0, cval x.f1.f0 x.f1.f1 x.f1.f2] := by
  obtain ⟨_, _, rfl, rfl, rfl⟩ := h
  exact rfl
theorem kd86_mkM (w : World) (base : Nat) (ok : Nat → Prop) (x : S40) : kd86.M w base ok x [.int .i64 x.f0, cval x.f1.f0 x.f1.f1 x.f1.f2] := ⟨[.int .i64 x.f0], [cval x.f1.f0 x.f1.f1 x.f1.f2], rfl, rfl, rfl⟩
theorem at_T86 {w : World} {A : Option Addr} {n : Nat} {xs : List S40} (h : Kd.C kd86 w A n xs) (i : Int) (h0 : 0 ≤ i) (h1 : i < n) : ∃ ad, A = some ad ∧ w.cell? (ad.add (i.toNat * 2)) = some (.int .i64 (rd_T40 xs i).f0) ∧ w.cell? ⟨(ad.add (i.toNat * 2)).block, (ad.add (i.toNat * 2)).off + 1, none⟩ = some (cval (rd_T40 xs i).f1.f0 (rd_T40 xs i).f1.f1 (rd_T40 xs i).f1.f2) := by
  obtain ⟨ad, c, e, _, hK, hc0⟩ := Kd.C_get h z40 i h0 h1
  have hc : ∀ j u, c[j]? = some u → w.cell? (ad.add (i.toNat * 2 + j)) = some u := hc0
  obtain rfl := kd86_open hK
  exact ⟨ad, e, hc 0 _ rfl, by rw [← add_field _ _ 1 (by omega)]; exact hc 1 _ rfl⟩

theorem types86 : ∀ q, q ∈ 86 :: kd86.E → q ≠ 104 := by
  intro q hq
  have : q = 86 := by simpa [kd86, Kd.iso, Kd.pair, Kd.scalar, Kd.int] using hq
  subst this
  decide

/-- All but blocks of a section's types, and what is new, stands; from B on alone is anything else. -/
def KT (B : Nat) (w W : World) : Prop := Below B w W ∧ ∀ (i : Nat) (cs : Array Value) (t : TypeId), w.heap[i]? = some (Obj.cells cs t (0, 0)) → t ≠ 86 → t ≠ 104 → W.heap[i]? = some (Obj.cells cs t (0, 0))
section
variable {B : Nat} {w w0 W W2 : World}
theorem KT.refl (B : Nat) (w : World) : KT B w w := ⟨Below.refl _ _, fun _ _ _ h _ _ => h⟩
theorem KT.trans (h : KT B w W) (k : KT B W W2) : KT B w W2 := ⟨h.1.trans k.1, fun i cs t hi h1 h2 => k.2 i cs t (h.2 i cs t hi h1 h2) h1 h2⟩
theorem KT.below (h : KT B w W) (hB : B ≤ W.heap.size) (k : Below W.heap.size W W2) : KT B w W2 :=
  h.trans ⟨⟨k.os, k.tape, k.output, k.size, fun i hi => k.block i (Nat.lt_of_lt_of_le hi hB)⟩, fun i cs t hi _ _ => blk_below hi k⟩
theorem KT.set {g j : Nat} {v : Value} {cs : Array Value} (h : KT B w W) (hg : W.heap[g]? = some (.cells cs 104 (0, 0))) (hB : B ≤ g) : KT B w (W.setCell ⟨g, j, none⟩ v) :=
  h.trans ⟨(Below.refl _ _).setCell hB _, fun i cs2 t hi h1 h2 => blk_far hi (by
    intro he
    have he' : i = g := he
    subst he'
    rw [hg] at hi
    cases hi
    exact h2 rfl) _⟩
theorem KT.grown {v : Value} {ok : Nat → Prop} {ds : List S40} (h : KT B w W) (hB : B ≤ W.heap.size) (hr : kd86.R 86 W B ok v ds) (hg : W.grownBy W2 v.ownBlock) : KT B w W2 :=
  h.trans ⟨(Below.refl _ _).grown hg hB (fun k hk => Kd.R_base hr k hk), fun i cs t hi h1 h2 => blk_grown hi hg (by
    intro he
    obtain ⟨inner, ho⟩ := Kd.R_own hr
    obtain ⟨c2, hc⟩ := own_typed ho i he.symm
    rw [hi] at hc
    cases hc
    exact h1 rfl)⟩
theorem KT.R {α : Type} {d : Kd α} {e : Nat} {v : Value} {xs : List α} {ok : Nat → Prop} {b : Nat} (h : KT B w W) (hd : ∀ q, q ∈ e :: d.E → q ≠ 86 ∧ q ≠ 104) (hr : d.R e w b ok v xs) : d.R e W b ok v xs :=
  Kd.R_mono (Kd.R_move (Kd.R_bound hr) (fun k hk => by
    obtain ⟨_, _, _, q, hq, cs, hc⟩ := hk
    obtain ⟨h1, h2⟩ := hd q hq
    rw [h.2 k cs q hc h1 h2, hc])) (fun _ hk => hk.1)
end

/-- A section's block: its row of data and its size. -/
def SecB (w : World) (g : Nat) (vd : Value) (sz : Int) : Prop := w.heap[g]? = some (.cells #[.string ⟨#[]⟩, .bool true, .int .u16 0, vd, .int .i64 sz] 104 (0, 0))
structure Sec (B : Nat) (w : World) (g : Nat) (vd : Value) (sz : Int) (ds : List S40) : Prop where
  blk : SecB w g vd sz
  base : B ≤ g
  row : kd86.R 86 w B (fun _ => True) vd ds
theorem Sec.below {B g : Nat} {w W : World} {vd : Value} {sz : Int} {ds : List S40} (h : Sec B w g vd sz ds) (hb : Below w.heap.size w W) : Sec B W g vd sz ds := ⟨blk_below h.blk hb, h.base, Kd.R_below h.row hb⟩

theorem errNew (t : ByteArray) (w : World) : Calls Try.prog 76 #[.string t] w fun e w' => (∃ T v, e = .returned (.iface T v)) ∧ Below w.heap.size w w' := by
  go_enter Try.func76, Try.ntmps76
  go_wp2
  go_ret
  exact ⟨⟨_, _, rfl⟩, below_alloc (Below.refl _ _) _⟩

theorem newGlobal (w : World) : Calls Try.prog 73 #[.agg #[.string ⟨#[]⟩, .bool true]] w fun e w' => ∃ g, e = .returned (.pointer (some ⟨g, 0, none⟩)) ∧ w.heap.size ≤ g ∧ SecB w' g (.slice none 0 0) 0 ∧ Below w.heap.size w w' := by
  go_enter Try.func73, Try.ntmps73
  go_wp2
  go_ret
  refine ⟨_, rfl, ?_, by simpa [SecB] using blk_new (w.alloc (Obj.cells #[Value.string ⟨#[]⟩, Value.bool true] 58)) (Obj.cells #[Value.string ⟨#[]⟩, Value.bool true, Value.int IntKind.u16 0, Value.slice none 0 0, Value.int IntKind.i64 0] 104), below_alloc (below_alloc (Below.refl _ _) _) _⟩
  simp

theorem newStatic (w : World) : Calls Try.prog 57 #[.string ⟨#[]⟩] w fun e w' => ∃ g, e = .returned (.pointer (some ⟨g, 0, none⟩)) ∧ w.heap.size ≤ g ∧ SecB w' g (.slice none 0 0) 0 ∧ Below w.heap.size w w' := by
  have H1 := Lib.hid (operand_NewStaticSymbol.calls ⟨#[]⟩ ⟨#[]⟩ true w rfl)
  go_enter Try.func57, Try.ntmps57
  go_wp2_with (first
    | (go_at_call 74; refine H1.out.mono ?_; rintro e w1 ⟨rfl, hb1⟩)
    | (go_at_call 73; refine (newGlobal _).mono ?_; rintro e w2 ⟨g, rfl, hg, hs, hb2⟩))
  go_ret
  exact ⟨g, rfl, Nat.le_trans hb1.size hg, hs, below_step hb1 hb2⟩

theorem Sec.start (w W : World) (g : Nat) (hg : w.heap.size ≤ g) (hs : SecB W g (.slice none 0 0) 0) : Sec w.heap.size W g (.slice none 0 0) 0 [] := ⟨hs, hg, Kd.R_nil _ _ _ _ _⟩

theorem grow (B g : Nat) (vd : Value) (sz n : Int) (ds : List S40) (w : World) (h : Sec B w g vd sz ds) :
    Calls Try.prog 60 #[.pointer (some ⟨g, 0, none⟩), .int .i64 n] w fun e w' => e = .returned (.tuple #[]) ∧ Sec B w' g vd (max sz n) ds ∧ KT B w w' ∧ ∀ k, k ≠ g → w'.heap[k]? = w.heap[k]? := by
  have hc4 := blk_cell h.blk 4
  have hf4 := blk_frozen h.blk 4
  simp only [List.getElem?_toArray, List.getElem?_cons_succ, List.getElem?_cons_zero] at hc4
  have H := Lib.hid h
  clear h
  by_cases hlt : sz < n
  · go_enter Try.func60, Try.ntmps60
    go_wp2
    refine bodyPost_end (v := .tuple #[]) (by simp [results, Try.results60, go_sem]) rfl ?_
    have hm : max sz n = n := by omega
    rw [hm]
    exact ⟨rfl, ⟨blk_put H.out.blk 4 _ rfl, H.out.base, Kd.R_set H.out.row H.out.blk types86 4 _⟩, (KT.refl _ _).set H.out.blk H.out.base, fun k hk => Below.heap_setCell w _ _ k hk⟩
  · go_enter Try.func60, Try.ntmps60
    go_wp2
    refine bodyPost_end (v := .tuple #[]) (by simp [results, Try.results60, go_sem]) rfl ?_
    have hm : max sz n = sz := by omega
    rw [hm]
    exact ⟨rfl, H.out, KT.refl _ _, fun _ _ => rfl⟩
/-- Where a datum ends. -/
def ende (d : S40) : Int := wrap64 (d.f0 + bytesOf d.f1.f0 d.f1.f2)
def good (d : S40) : Prop := cok d.f1.f0 = true ∧ d.f1.f2.size ≤ 9223372036854775807
/-- Whether two data overlap. -/
def ovl (o d : S40) : Bool := decide (o.f0 < ende d) && decide (d.f0 < ende o)

set_option maxHeartbeats 400000 in
theorem overlaps (d o : S40) (w : World) (hd : good d) (ho : good o) :
    Calls Try.prog 75 #[.agg #[.int .i64 d.f0, cval d.f1.f0 d.f1.f1 d.f1.f2], .agg #[.int .i64 o.f0, cval o.f1.f0 o.f1.f1 o.f1.f2]] w fun e w' => e = .returned (.bool (ovl o d)) ∧ Below w.heap.size w w' := by
  have H1 := Lib.hid (fun (W : World) => intervalU d.f0 d.f1.f0 d.f1.f1 d.f1.f2 W hd.1 hd.2)
  have H2 := Lib.hid (fun (W : World) => intervalU o.f0 o.f1.f0 o.f1.f1 o.f1.f2 W ho.1 ho.2)
  have e : ovl o d = (!(decide (ende o ≤ d.f0) || decide (ende d ≤ o.f0))) := by
    unfold ovl
    rw [Bool.eq_iff_iff]
    simp
    omega
  rw [e]
  obtain ⟨T, v, hv⟩ := cval_iface (b := d.f1.f1) (t := d.f1.f2) hd.1
  obtain ⟨T1, v1, hv1⟩ := cval_iface (b := o.f1.f1) (t := o.f1.f2) ho.1
  rw [hv, hv1]
  rw [hv] at H1
  rw [hv1] at H2
  show Calls Try.prog 75 _ w fun e w' => e = .returned (.bool (!(decide (ende o ≤ d.f0) || decide (ende d ≤ o.f0)))) ∧ Below w.heap.size w w'
  have hE : wrap64 (d.f0 + bytesOf d.f1.f0 d.f1.f2) = ende d := rfl
  have hE1 : wrap64 (o.f0 + bytesOf o.f1.f0 o.f1.f2) = ende o := rfl
  rw [hE] at H1
  rw [hE1] at H2
  clear hE hE1 e hv hv1 hd ho
  generalize ende d = de at *
  generalize ende o = oe at *
  generalize d.f0 = df at *
  generalize o.f0 = of at *
  by_cases h1 : oe ≤ df
  all_goals by_cases h2 : de ≤ of
  all_goals
    go_enter Try.func75, Try.ntmps75
    go_wp2_with (first
      | (go_at_call_of 51 (Value.agg #[.int .i64 df, .iface T v]); refine (H1.out _).mono ?_; rintro e w1 ⟨rfl, hb1⟩; have hk : w1.heap[w.heap.size + 1]? = some (Obj.cells #[Value.int IntKind.i64 of, Value.iface T1 v1] 86 (0, 0)) := (by simpa using blk_below (blk_new (w.alloc (Obj.cells #[Value.int IntKind.i64 df, Value.iface T v] 86)) (Obj.cells #[Value.int IntKind.i64 of, Value.iface T1 v1] 86)) hb1); have hc0 : w1.cell? ⟨w.heap.size + 1, 0, none⟩ = some (Value.int IntKind.i64 of) := (blk_cell hk 0).trans rfl; have hc1 : w1.cell? ⟨w.heap.size + 1, 1, none⟩ = some (Value.iface T1 v1) := (blk_cell hk 1).trans rfl; replace hb1 := Aside0.mk hb1; clear hk)
      | (go_at_call 51; refine (H2.out _).mono ?_; rintro e w2 ⟨rfl, hb2⟩))
    go_ret
    exact ⟨by first | (simp; done) | (simp; omega) | (simp [*]; done), below_step (below_alloc (below_alloc (Below.refl _ _) _) _ |> fun h => below_step h hb1.out) hb2⟩

end Go.Proofs.Ytknldfighehplaa.HSec
