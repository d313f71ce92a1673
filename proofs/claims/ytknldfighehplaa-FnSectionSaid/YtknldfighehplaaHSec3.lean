/- The contract of impl.Section: what the steps told, the size and the data behind them; conditions: steps of the three kinds, constants in range. -/
import Derived.Test.YtknldfighehplaaHSec2
namespace Go.Proofs.Ytknldfighehplaa.HSec
set_option linter.unusedSimpArgs false
set_option linter.unusedVariables false
open Go.RowKit Go.Proofs.Ytknldfighehplaa.HConst Go.Proofs.Ytknldfighehplaa.HInt Go.Proofs.Ytknldfighehplaa.PFnSection Go.Proofs.YtknldfighehplaaW.PrintWords Go.Proofs.YtknldfighehplaaW.PrintLast Go.Proofs.YtknldfighehplaaW.PrintMore

theorem plainU (k b : Int) (t : ByteArray) (w : World) (hk : cok k = true) (h0 : 0 ≤ b) (h1 : b < 18446744073709551616) :
    Calls Try.prog 52 #[cval k b t] w fun e w' => e = .returned (.agg #[.int .i64 k, .int .u64 (backB k b), .string (backT k t)]) ∧ Below w.heap.size w w' := by
  rcases cok_cases hk with rfl | rfl | rfl | rfl | rfl | rfl | rfl | rfl | rfl | rfl | rfl
  · rw [cval_1]; exact plain1 b w h0 h1
  · rw [cval_2]; exact plain2 b w h0 h1
  · rw [cval_3]; exact plain3 b w h0 h1
  · rw [cval_4]; exact plain4 b w h0 h1
  · rw [cval_5]; exact plain5 b w h0 h1
  · rw [cval_6]; exact plain6 b w h0 h1
  · rw [cval_7]; exact plain7 b w h0 h1
  · rw [cval_8]; exact plain8 b w h0 h1
  · rw [cval_9]; exact plain9 b w h0 h1
  · rw [cval_10]; exact plain10 b w h0 h1
  · rw [cval_11]; exact plain11 t w

/-- What a section is behind some steps. -/
structure St where
  told : List Bool
  size : Int
  data : List S40
/-- The datum that a step brings. -/
def datumOf (sz : Int) (x : S51) : S40 := ⟨if x.f0 = 1 then sz else x.f1.f0, x.f1.f1⟩
def fits (s : St) (x : S51) : Bool := cok x.f1.f1.f0 && !(decide (x.f0 = 0) && s.data.any fun o => ovl o (datumOf s.size x))
def stepM (s : St) (x : S51) : St :=
  if x.f0 = 2 then ⟨s.told ++ [true], max s.size x.f2, s.data⟩
  else if fits s x = true then ⟨s.told ++ [true], max s.size (ende (datumOf s.size x)), s.data ++ [datumOf s.size x]⟩
  else ⟨s.told ++ [false], s.size, s.data⟩
def runM (l : List S51) : St := l.foldl stepM ⟨[], 0, []⟩
theorem runM_snoc (l : List S51) (k : Nat) (h : k < l.length) : runM (l.take (k + 1)) = stepM (runM (l.take k)) (rd_T51 l k) := by
  have : l.take (k + 1) = l.take k ++ [rd_T51 l k] := by
    rw [List.take_succ_eq_append_getElem h]
    simp [rd_T51, List.getD, h]
  rw [this]
  simp [runM, List.foldl_append]
/-- A step of one of the three kinds, its constant's bits and text in range. -/
def goodS (x : S51) : Prop := (x.f0 = 0 ∨ x.f0 = 1 ∨ x.f0 = 2) ∧ (0 ≤ x.f1.f1.f1 ∧ x.f1.f1.f1 < 18446744073709551616) ∧ x.f1.f1.f2.size ≤ 9223372036854775807
def bitsOk (d : S40) : Prop := 0 ≤ d.f1.f1 ∧ d.f1.f1 < 18446744073709551616
theorem stepM_data (s : St) (x : S51) (hx : goodS x) (h : ∀ o ∈ s.data, good o ∧ bitsOk o) : ∀ o ∈ (stepM s x).data, good o ∧ bitsOk o := by
  unfold stepM
  split
  · exact h
  · split
    · rename_i hf
      intro o ho
      rcases List.mem_append.1 ho with h1 | h1
      · exact h o h1
      · have : o = datumOf s.size x := by simpa using h1
        subst this
        simp only [fits, Bool.and_eq_true] at hf
        exact ⟨⟨hf.1, hx.2.2⟩, hx.2.1⟩
    · exact h
theorem stepM_len (s : St) (x : S51) : (stepM s x).told.length = s.told.length + 1 ∧ (stepM s x).data.length ≤ s.data.length + 1 := by
  unfold stepM
  split
  · simp
  · split <;> simp
theorem runM_good (l : List S51) (hl : ∀ x ∈ l, goodS x) (k : Nat) (hk : k ≤ l.length) : (∀ o ∈ (runM (l.take k)).data, good o ∧ bitsOk o) ∧ (runM (l.take k)).told.length = k ∧ (runM (l.take k)).data.length ≤ k := by
  induction k with
  | zero => simp [runM]
  | succ k ih =>
    obtain ⟨h1, h2, h3⟩ := ih (by omega)
    rw [runM_snoc l k (by omega)]
    have hm : rd_T51 l k ∈ l := by
      have hkl : k < l.length := by omega
      simp [rd_T51, List.getD, hkl]
    refine ⟨stepM_data _ _ (hl _ hm) h1, ?_, ?_⟩
    · rw [(stepM_len _ _).1, h2]
    · have := (stepM_len (runM (l.take k)) (rd_T51 l k)).2; omega

theorem info4 : (Try.prog.info? 4).map (fun i => (i.zero, i.size, i.bytes)) = some (some (.bool false), 1, 1) := by kernel_rfl
theorem types4 : ∀ q, q ∈ 4 :: Kd.bool.E → q ≠ 86 ∧ q ≠ 104 := by
  intro q hq
  have : q = 4 := by simpa [Kd.bool, Kd.scalar] using hq
  subst this
  decide

/-- What holds between the steps. -/
structure Inv (w : World) (g : Nat) (vt : Value) (s : St) (W : World) : Prop where
  sec : ∃ vd, Sec w.heap.size W g vd s.size s.data
  row : Kd.bool.R 4 W w.heap.size (fun _ => True) vt s.told
  bel : Below w.heap.size w W
theorem Inv.below {w W W2 : World} {g : Nat} {vt : Value} {s : St} (h : Inv w g vt s W) (hb : Below W.heap.size W W2) : Inv w g vt s W2 := by
  obtain ⟨vd, hs⟩ := h.sec
  exact ⟨⟨vd, hs.below hb⟩, Kd.R_below h.row hb, below_step h.bel hb⟩
theorem Inv.moved {w W W2 : World} {g : Nat} {vt : Value} {s s' : St} (h : Inv w g vt s W) (hk : KT w.heap.size W W2) (hs : ∃ vd, Sec w.heap.size W2 g vd s'.size s'.data) (ht : s'.told = s.told) : Inv w g vt s' W2 :=
  ⟨hs, by rw [ht]; exact hk.R types4 h.row, h.bel.trans hk.1⟩
theorem Inv.told {w W W2 : World} {g : Nat} {vt v1 : Value} {s s' : St} (h : Inv w g vt s W) (hr : Kd.bool.R 4 W2 w.heap.size (fun _ => True) v1 s'.told) (hb : Below w.heap.size w W2) (hg : W.grownBy W2 vt.ownBlock) (h1 : s'.size = s.size) (h2 : s'.data = s.data) : Inv w g v1 s' W2 := by
  obtain ⟨vd, hs⟩ := h.sec
  refine ⟨⟨vd, ?_⟩, hr, hb⟩
  rw [h1, h2]
  refine ⟨blk_grown hs.blk hg (Kd.R_ne h.row hs.blk (by decide)), hs.base, Kd.R_over hs.row h.row ?_ hg⟩
  intro q hq
  have : q = 86 := by simpa [kd86, Kd.iso, Kd.pair, Kd.scalar, Kd.int] using hq
  subst this
  decide
theorem Inv.grown40 {α : Type} {d : Kd α} {w W W2 : World} {g : Nat} {vt v : Value} {s : St} {xs : List α} (h : Inv w g vt s W) (hr : d.R 40 W w.heap.size (fun _ => True) v xs) (hb : Below w.heap.size w W2) (hg : W.grownBy W2 v.ownBlock) : Inv w g vt s W2 ∧ (∀ vd, Sec w.heap.size W g vd s.size s.data → Sec w.heap.size W2 g vd s.size s.data) := by
  have hsec : ∀ vd, Sec w.heap.size W g vd s.size s.data → Sec w.heap.size W2 g vd s.size s.data := fun vd hs =>
    ⟨blk_grown hs.blk hg (Kd.R_ne hr hs.blk (by decide)), hs.base, Kd.R_over hs.row hr (by
      intro q hq
      have : q = 86 := by simpa [kd86, Kd.iso, Kd.pair, Kd.scalar, Kd.int] using hq
      subst this
      decide) hg⟩
  obtain ⟨vd, hs⟩ := h.sec
  refine ⟨⟨⟨vd, hsec vd hs⟩, Kd.R_over h.row hr ?_ hg, hb⟩, hsec⟩
  intro q hq
  have : q = 4 := by simpa [Kd.bool, Kd.scalar] using hq
  subst this
  decide
end Go.Proofs.Ytknldfighehplaa.HSec
