/- Contracts of the specification's plainOp and what its opBits comes to; conditions: constants in range. -/
import Derived.Test.YtknldfighehplaaHSec3
import Derived.Laws.Bits64b
import Derived.Laws.CopyOwn
namespace Go.Proofs.Ytknldfighehplaa.HSpec
set_option linter.unusedSimpArgs false
set_option linter.unusedVariables false
open Go.RowKit Go.Proofs.Ytknldfighehplaa.HConst Go.Proofs.Ytknldfighehplaa.HInt Go.Proofs.Ytknldfighehplaa.HSec Go.Proofs.Ytknldfighehplaa.PFnSection Go.Proofs.YtknldfighehplaaW.PrintWords Go.Proofs.YtknldfighehplaaW.PrintLast Go.Proofs.YtknldfighehplaaW.PrintMore

theorem specBytes (k b : Int) (t : ByteArray) : spec_Bytes.f 9 k b t = some (HConst.bytesOf k t) := by
  unfold spec_Bytes.f HConst.bytesOf
  simp only [spec_Bytes.j0, spec_Bytes.j1, spec_Bytes.j2, spec_Bytes.j3]
  by_cases c1 : k = 1
  · simp [c1]
  by_cases c2 : k = 2
  · simp [c2]
  by_cases c3 : k = 3
  · simp [c3]
  by_cases c4 : k = 4
  · simp [c4]
  by_cases c5 : k = 5
  · simp [c5]
  by_cases c6 : k = 6
  · simp [c6]
  by_cases c7 : k = 7
  · simp [c7]
  by_cases c8 : k = 8
  · simp [c8]
  by_cases c9 : k = 9
  · simp [c9]
  by_cases c10 : k = 10
  · simp [c10]
  by_cases c11 : k = 11
  · simp [c11]
  simp [*]

theorem mask8 (b : Int) (h0 : 0 ≤ b) (h1 : b < 18446744073709551616) : Go.bits .and .u64 b 255 = b % 256 := by
  obtain ⟨m, rfl⟩ := Int.eq_ofNat_of_zero_le h0
  have h := bits_and_u64_nat m 255 (by omega) (by omega)
  rw [show (255 : Int) = ((255 : Nat) : Int) from rfl, h, show (255 : Nat) = 2 ^ 8 - 1 from rfl, Nat.and_two_pow_sub_one_eq_mod]
  simp

theorem mask16 (b : Int) (h0 : 0 ≤ b) (h1 : b < 18446744073709551616) : Go.bits .and .u64 b 65535 = b % 65536 := by
  obtain ⟨m, rfl⟩ := Int.eq_ofNat_of_zero_le h0
  have h := bits_and_u64_nat m 65535 (by omega) (by omega)
  rw [show (65535 : Int) = ((65535 : Nat) : Int) from rfl, h, show (65535 : Nat) = 2 ^ 16 - 1 from rfl, Nat.and_two_pow_sub_one_eq_mod]
  simp

theorem mask32 (b : Int) (h0 : 0 ≤ b) (h1 : b < 18446744073709551616) : Go.bits .and .u64 b 4294967295 = b % 4294967296 := by
  obtain ⟨m, rfl⟩ := Int.eq_ofNat_of_zero_le h0
  have h := bits_and_u64_nat m 4294967295 (by omega) (by omega)
  rw [show (4294967295 : Int) = ((4294967295 : Nat) : Int) from rfl, h, show (4294967295 : Nat) = 2 ^ 32 - 1 from rfl, Nat.and_two_pow_sub_one_eq_mod]
  simp

/-- What opBits comes to. -/
def ob (k b : Int) (t : ByteArray) : Int := if bytesOf k t = 1 then b % 256 else if bytesOf k t = 2 then b % 65536 else if bytesOf k t = 4 then b % 4294967296 else b
theorem opBits_is (k b : Int) (t : ByteArray) (h0 : 0 ≤ b) (h1 : b < 18446744073709551616) : spec_opBits.f 9 k b t = some (ob k b t) := by
  unfold spec_opBits.f ob
  rw [specBytes]
  simp only [Option.bind_some, mask8 b h0 h1, mask16 b h0 h1, mask32 b h0 h1]
  split
  · rfl
  · split
    · rfl
    · split <;> rfl
theorem ob_back (k b : Int) (t : ByteArray) (hk : cok k = true) (h : k ≠ 11) : ob k b t = backB k b := by
  rcases cok_cases hk with rfl | rfl | rfl | rfl | rfl | rfl | rfl | rfl | rfl | rfl | rfl <;> first | rfl | exact absurd rfl h

/-- An operand's cells: no operand, but for its kind and its constant. -/
def opC (q k b : Int) (t : ByteArray) : Array Value := #[.int .i64 q, .bool false, .int .u8 0, .int .u16 0, .int .u16 0, .bool false, .bool false, .bool false, .int .u8 0, .int .u16 0, .int .u16 0, .bool false, .int .u8 0, .int .u16 0, .int .u16 0, .int .u8 0, .int .i64 0, .string ⟨#[]⟩, .bool false, .int .i64 k, .int .u64 b, .string t, .string ⟨#[]⟩, .int .i32 0]
theorem opC_size (q k b : Int) (t : ByteArray) : (opC q k b t).size = 24 := rfl
theorem built_is (k b : Int) (t : ByteArray) : (Try.prog.built 109 [(0, .int .i64 3), (10, .agg #[.int .i64 k, .int .u64 b, .string t])]).getD #[] = opC 3 k b t := by kernel_rfl
theorem built_some (k b : Int) (t : ByteArray) : (Try.prog.built 109 [(0, .int .i64 3), (10, .agg #[.int .i64 k, .int .u64 b, .string t])]).isSome = true := by kernel_rfl
theorem zero109 (w : World) : (zeroValue 109).run Try.prog w = .ok (.agg (opC 0 0 0 ⟨#[]⟩)) w := by kernel_rfl
theorem inf109 : (Try.prog.info? 109).map (·.size) = some 24 := by kernel_rfl
theorem one109 (q k b : Int) (t : ByteArray) : (opC q k b t).all (·.oneCell') = true := by
  simp [opC, Value.oneCell']
theorem backT_ne {k : Int} {t : ByteArray} (hk : cok k = true) (h : k ≠ 11) : backT k t = ⟨#[]⟩ := by
  rcases cok_cases hk with rfl | rfl | rfl | rfl | rfl | rfl | rfl | rfl | rfl | rfl | rfl <;> first | rfl | exact absurd rfl h
theorem gate_store {P : Program} {ops : Array Oper} {Q : Exit → Act → World → Prop} {rest : List Oper} {a : Act} {w : World} {o : Oper} (t : TypeId) (x y : Operand) (h : o.op = Op.store t x y) (hk : wpList P ops Q (o :: rest) a w) : wpList P ops Q (o :: rest) a w := hk

theorem bel2 (w : World) (a b : Obj) : Below w.heap.size w ((w.alloc a).alloc b) := below_alloc (below_alloc (Below.refl _ _) _) _

set_option maxHeartbeats 16000000 in
theorem plainOp (cs : Array Value) (k b : Int) (t : ByteArray) (w : World) (hk : cok k = true) (h0 : 0 ≤ b) (h1 : b < 18446744073709551616) (hs : cs.size = 24) (c0 : cs[0]? = some (.int .i64 3)) (c19 : cs[19]? = some (.int .i64 k)) (c20 : cs[20]? = some (.int .u64 b)) (c21 : cs[21]? = some (.string t)) :
    Calls Try.prog 62 #[.agg cs] w fun e w' => e = .returned (.agg (opC 3 k (backB k b) (backT k t))) ∧ Below w.heap.size w w' := by
  have H1 := Lib.hid (fun (W : World) => spec_opBits.calls 9 k b t (ob k b t) W (opBits_is k b t h0 h1))
  go_enter Try.func62, Try.ntmps62
  go_upto_region 1 with (fail)
  have kA := blk_alloc (blk_new w (Obj.cells cs 109)) (Obj.cells #[.int .i64 0, .bool false, .int .u8 0, .int .u16 0, .int .u16 0, .bool false, .bool false, .bool false, .int .u8 0, .int .u16 0, .int .u16 0, .bool false, .int .u8 0, .int .u16 0, .int .u16 0, .int .u8 0, .int .i64 0, .string ⟨#[]⟩, .bool false, .int .i64 0, .int .u64 0, .string ⟨#[]⟩, .string ⟨#[]⟩, .int .i32 0] 109)
  have kZ := blk_new (w.alloc (Obj.cells cs 109)) (Obj.cells #[.int .i64 0, .bool false, .int .u8 0, .int .u16 0, .int .u16 0, .bool false, .bool false, .bool false, .int .u8 0, .int .u16 0, .int .u16 0, .bool false, .int .u8 0, .int .u16 0, .int .u16 0, .int .u8 0, .int .i64 0, .string ⟨#[]⟩, .bool false, .int .i64 0, .int .u64 0, .string ⟨#[]⟩, .string ⟨#[]⟩, .int .i32 0] 109)
  have hB := Aside0.mk (bel2 w (Obj.cells cs 109) (Obj.cells #[.int .i64 0, .bool false, .int .u8 0, .int .u16 0, .int .u16 0, .bool false, .bool false, .bool false, .int .u8 0, .int .u16 0, .int .u16 0, .bool false, .int .u8 0, .int .u16 0, .int .u16 0, .int .u8 0, .int .i64 0, .string ⟨#[]⟩, .bool false, .int .i64 0, .int .u64 0, .string ⟨#[]⟩, .string ⟨#[]⟩, .int .i32 0] 109))
  have hz : (w.alloc (Obj.cells cs 109)).heap.size = w.heap.size + 1 := by simp
  rw [hz] at kZ
  clear hz
  generalize ((w.alloc (Obj.cells cs 109)).alloc (Obj.cells #[.int .i64 0, .bool false, .int .u8 0, .int .u16 0, .int .u16 0, .bool false, .bool false, .bool false, .int .u8 0, .int .u16 0, .int .u16 0, .bool false, .int .u8 0, .int .u16 0, .int .u16 0, .int .u8 0, .int .i64 0, .string ⟨#[]⟩, .bool false, .int .i64 0, .int .u64 0, .string ⟨#[]⟩, .string ⟨#[]⟩, .int .i32 0] 109)) = W at *
  have d0 : W.cell? ⟨w.heap.size, 0, none⟩ = some (Value.int .i64 3) := (blk_cell kA 0).trans c0
  have d19 : W.cell? ⟨w.heap.size, 19, none⟩ = some (Value.int .i64 k) := (blk_cell kA 19).trans c19
  have d20 : W.cell? ⟨w.heap.size, 20, none⟩ = some (Value.int .u64 b) := (blk_cell kA 20).trans c20
  have d21 : W.cell? ⟨w.heap.size, 21, none⟩ = some (Value.string t) := (blk_cell kA 21).trans c21
  have e19 : ∀ o, (W.alloc o).cell? ⟨w.heap.size, 19, none⟩ = some (Value.int .i64 k) := fun o => (blk_cell (blk_alloc kA o) 19).trans c19
  have e20 : ∀ o, (W.alloc o).cell? ⟨w.heap.size, 20, none⟩ = some (Value.int .u64 b) := fun o => (blk_cell (blk_alloc kA o) 20).trans c20
  have e21 : ∀ o, (W.alloc o).cell? ⟨w.heap.size, 21, none⟩ = some (Value.string t) := fun o => (blk_cell (blk_alloc kA o) 21).trans c21
  have C19 := Aside0.mk c19
  have C20 := Aside0.mk c20
  have C21 := Aside0.mk c21
  have C0 := Aside0.mk c0
  replace kA := Aside0.mk kA
  replace kZ := Aside0.mk kZ
  clear c0 c19 c20 c21
  go_wp2_with (fail)
  go_cut [4] (fun v4 wc => ∃ g4, v4 = .pointer (some ⟨g4, 0, none⟩) ∧ Aside0 (w.heap.size + 1 < g4) ∧ Aside0 (wc.heap[g4]? = some (Obj.cells #[.int .i64 k, .int .u64 (ob k b t), .string ⟨#[]⟩] 38 (0, 0))) ∧ Aside0 (wc.heap[w.heap.size]? = some (Obj.cells cs 109 (0, 0))) ∧ Aside0 (wc.heap[w.heap.size + 1]? = some (Obj.cells #[.int .i64 0, .bool false, .int .u8 0, .int .u16 0, .int .u16 0, .bool false, .bool false, .bool false, .int .u8 0, .int .u16 0, .int .u16 0, .bool false, .int .u8 0, .int .u16 0, .int .u16 0, .int .u8 0, .int .i64 0, .string ⟨#[]⟩, .bool false, .int .i64 0, .int .u64 0, .string ⟨#[]⟩, .string ⟨#[]⟩, .int .i32 0] 109 (0, 0))) ∧ Aside0 (Below w.heap.size w wc))
  case first =>
    go_region_law (first
      | (go_simp; go_at_call 54; refine (H1.out _).mono ?_; rintro e w5 ⟨rfl, hb5⟩; have kA5 := Aside0.mk (blk_below (blk_drew (blk_alloc kA.out _)) hb5); have kZ5 := Aside0.mk (blk_below (blk_drew (blk_alloc kZ.out _)) hb5); have kC := (blk_below (blk_drew (blk_new W (Obj.cells #[.int .i64 0, .int .u64 0, .string ⟨#[]⟩] 38))) hb5); have a19 : w5.cell? ⟨w.heap.size, 19, none⟩ = some (Value.int .i64 k) := (blk_cell kA5.out 19).trans C19.out; have a20 : w5.cell? ⟨w.heap.size, 20, none⟩ = some (Value.int .u64 b) := (blk_cell kA5.out 20).trans C20.out; have a21 : w5.cell? ⟨w.heap.size, 21, none⟩ = some (Value.string t) := (blk_cell kA5.out 21).trans C21.out; have z0 : w5.cell? ⟨W.heap.size, 0, none⟩ = some (Value.int .i64 0) := (blk_cell kC 0).trans rfl; have z1 : w5.cell? ⟨W.heap.size, 1, none⟩ = some (Value.int .u64 0) := (blk_cell kC 1).trans rfl; have z2 : w5.cell? ⟨W.heap.size, 2, none⟩ = some (Value.string ⟨#[]⟩) := (blk_cell kC 2).trans rfl; have f0 := blk_frozen kC 0; have f1 := blk_frozen kC 1; have f2 := blk_frozen kC 2; replace kC := Aside0.mk kC; replace hb5 := Aside0.mk (below_step (below_drew1 (below_alloc hB.out _)) hb5))
      | (go_simp; go_at_call 54; refine (H1.out _).mono ?_; rintro e w5 ⟨rfl, hb5⟩; have kA5 := Aside0.mk (blk_below (blk_drew kA.out) hb5); have kZ5 := Aside0.mk (blk_below (blk_drew kZ.out) hb5); have a19 : w5.cell? ⟨w.heap.size, 19, none⟩ = some (Value.int .i64 k) := (blk_cell kA5.out 19).trans C19.out; have a20 : w5.cell? ⟨w.heap.size, 20, none⟩ = some (Value.int .u64 b) := (blk_cell kA5.out 20).trans C20.out; have a21 : w5.cell? ⟨w.heap.size, 21, none⟩ = some (Value.string t) := (blk_cell kA5.out 21).trans C21.out; have n19 : ∀ o, (w5.alloc o).cell? ⟨w.heap.size, 19, none⟩ = some (Value.int .i64 k) := (fun o => (blk_cell (blk_alloc kA5.out o) 19).trans C19.out); have n20 : ∀ o, (w5.alloc o).cell? ⟨w.heap.size, 20, none⟩ = some (Value.int .u64 b) := (fun o => (blk_cell (blk_alloc kA5.out o) 20).trans C20.out); have n21 : ∀ o, (w5.alloc o).cell? ⟨w.heap.size, 21, none⟩ = some (Value.string t) := (fun o => (blk_cell (blk_alloc kA5.out o) 21).trans C21.out); replace hb5 := Aside0.mk (below_step (below_drew1 hB.out) hb5)))
    all_goals
      go_wp2
      go_meet
      first
        | exact ⟨w5.heap.size, rfl, ⟨blk_lt kZ5.out⟩, ⟨blk_new w5 _⟩, ⟨blk_alloc kA5.out _⟩, ⟨blk_alloc kZ5.out _⟩, ⟨below_alloc hb5.out _⟩⟩
        | exact ⟨W.heap.size, rfl, ⟨blk_lt kZ.out⟩, ⟨blk_put (blk_put (blk_put kC.out 0 _ rfl) 1 _ rfl) 2 _ rfl⟩, ⟨blk_far (blk_far (blk_far kA5.out (by have := blk_lt kA.out; show w.heap.size ≠ W.heap.size; omega) _) (by have := blk_lt kA.out; show w.heap.size ≠ W.heap.size; omega) _) (by have := blk_lt kA.out; show w.heap.size ≠ W.heap.size; omega) _⟩, ⟨blk_far (blk_far (blk_far kZ5.out (by have := blk_lt kZ.out; show w.heap.size + 1 ≠ W.heap.size; omega) _) (by have := blk_lt kZ.out; show w.heap.size + 1 ≠ W.heap.size; omega) _) (by have := blk_lt kZ.out; show w.heap.size + 1 ≠ W.heap.size; omega) _⟩, ⟨below_set (below_set (below_set hb5.out (by have := blk_lt kA.out; omega)) (by have := blk_lt kA.out; omega)) (by have := blk_lt kA.out; omega)⟩⟩
  case rest =>
    clear d0 d19 d20 d21 e19 e20 e21 kA kZ hB W
    obtain ⟨g4, rfl, hlt4, k4, kA, kZ, hB⟩ := hcut
    clear H1
    have c0 : wc.cell? ⟨g4, 0, none⟩ = some (Value.int .i64 k) := (blk_cell k4.out 0).trans rfl
    have c1 : wc.cell? ⟨g4, 1, none⟩ = some (Value.int .u64 (ob k b t)) := (blk_cell k4.out 1).trans rfl
    have c2 : wc.cell? ⟨g4, 2, none⟩ = some (Value.string ⟨#[]⟩) := (blk_cell k4.out 2).trans rfl
    have f1 := blk_frozen k4.out 1
    have f2 := blk_frozen k4.out 2
    have a0 : wc.cell? ⟨w.heap.size, 0, none⟩ = some (Value.int .i64 3) := (blk_cell kA.out 0).trans C0.out
    have a21 : wc.cell? ⟨w.heap.size, 21, none⟩ = some (Value.string t) := (blk_cell kA.out 21).trans C21.out
    by_cases h11 : k = 11
    · subst h11
      go_wp2_with (fail)
      go_region_law (fail)
      all_goals
        go_wp2_with ((with_reducible refine gate_store 109 (.tmp 2) (.tmp 62) rfl ?_); refine wpList_store_row rfl 109 (.tmp 2) (.tmp 62) rfl (w.heap.size + 1) (opC 3 11 0 t) rfl rfl 109 #[.int .i64 0, .bool false, .int .u8 0, .int .u16 0, .int .u16 0, .bool false, .bool false, .bool false, .int .u8 0, .int .u16 0, .int .u16 0, .bool false, .int .u8 0, .int .u16 0, .int .u16 0, .int .u8 0, .int .i64 0, .string ⟨#[]⟩, .bool false, .int .i64 0, .int .u64 0, .string ⟨#[]⟩, .string ⟨#[]⟩, .int .i32 0] (by (with_reducible repeat (first | refine blk_drewN ?_ _ | refine blk_drew ?_ | refine blk_far ?_ (by have := hlt4.out; show w.heap.size + 1 ≠ g4; omega) _)); exact kZ.out) inf109 rfl (one109 _ _ _ _) ?_)
        exact bodyPost_ret (results_cell_row rfl _ _ (w.heap.size + 1) 109 (opC 3 11 0 t) (0, 0) _ rfl (setRow_heap _ _ #[.int .i64 0, .bool false, .int .u8 0, .int .u16 0, .int .u16 0, .bool false, .bool false, .bool false, .int .u8 0, .int .u16 0, .int .u16 0, .bool false, .int .u8 0, .int .u16 0, .int .u16 0, .int .u8 0, .int .i64 0, .string ⟨#[]⟩, .bool false, .int .i64 0, .int .u64 0, .string ⟨#[]⟩, .string ⟨#[]⟩, .int .i32 0] (opC 3 11 0 t) 109 (0, 0) (by (with_reducible repeat (first | refine blk_drewN ?_ _ | refine blk_drew ?_ | refine blk_far ?_ (by have := hlt4.out; show w.heap.size + 1 ≠ g4; omega) _)); exact kZ.out)) Try.underlying109 rfl inf109) rfl ⟨by rw [show backB 11 b = 0 from rfl, show backT 11 t = t from rfl], below_setRow (by (with_reducible repeat (first | refine below_drewN ?_ _ | refine below_drew1 ?_ | refine below_set ?_ (by have := hlt4.out; show w.heap.size ≤ g4; omega))); exact hB.out) (Nat.le_succ _) (opC 3 11 0 t)⟩
    · have hb11 : (k == 11) = false := beq_eq_false_iff_ne.2 h11
      go_wp2_with ((with_reducible refine gate_store 109 (.tmp 2) (.tmp 62) rfl ?_); refine wpList_store_row rfl 109 (.tmp 2) (.tmp 62) rfl (w.heap.size + 1) (opC 3 k (ob k b t) ⟨#[]⟩) rfl rfl 109 #[.int .i64 0, .bool false, .int .u8 0, .int .u16 0, .int .u16 0, .bool false, .bool false, .bool false, .int .u8 0, .int .u16 0, .int .u16 0, .bool false, .int .u8 0, .int .u16 0, .int .u16 0, .int .u8 0, .int .i64 0, .string ⟨#[]⟩, .bool false, .int .i64 0, .int .u64 0, .string ⟨#[]⟩, .string ⟨#[]⟩, .int .i32 0] kZ.out inf109 rfl (one109 _ _ _ _) ?_)
      exact bodyPost_ret (results_cell_row rfl _ _ (w.heap.size + 1) 109 (opC 3 k (ob k b t) ⟨#[]⟩) (0, 0) _ rfl (setRow_heap _ _ #[.int .i64 0, .bool false, .int .u8 0, .int .u16 0, .int .u16 0, .bool false, .bool false, .bool false, .int .u8 0, .int .u16 0, .int .u16 0, .bool false, .int .u8 0, .int .u16 0, .int .u16 0, .int .u8 0, .int .i64 0, .string ⟨#[]⟩, .bool false, .int .i64 0, .int .u64 0, .string ⟨#[]⟩, .string ⟨#[]⟩, .int .i32 0] (opC 3 k (ob k b t) ⟨#[]⟩) 109 (0, 0) kZ.out) Try.underlying109 rfl inf109) rfl ⟨by rw [ob_back k b t hk h11, backT_ne hk h11], below_setRow hB.out (Nat.le_succ _) (opC 3 k (ob k b t) ⟨#[]⟩)⟩
end Go.Proofs.Ytknldfighehplaa.HSpec
