-- PRINTED BY print.sh 35421559b90ae4d0a3588c463048766b98c2df88dd9212a6774a882060cdf62d: not written by this session
import Derived.Test.YtknldfighehplaaProg
import Derived.Below
import Derived.Deep.Draws
import Derived.Deep.AppendLies
import Derived.Maps.AppendAt
import Derived.OwnWalk
import Derived.Laws.BytesArg
import Derived.Laws.MakeOwn
import Derived.Laws.OwnMore
import Derived.Deep.OwnRows
import Derived.Tactics
import Derived.Lib.ConvBytes
import Derived.Laws.Slices
import Derived.WalkKit
import Derived.KernelRfl
import Derived.RowKit3
import Derived.Deep.LoopGhost
import Derived.Deep.QuietTactic
import Derived.BigQuiet
import Derived.WideLaws
import Derived.Deep.DeepCutAuto
import Derived.Deep.CutBlock
import Derived.Deep.RegionHeld3
import Derived.Laws.Rows
import Derived.Lib.AppendStr
import Derived.ArgAppend
import Derived.Laws.IdiomCopy
import Derived.OrdersHeld
import Derived.Laws.BitsLemmas
import Derived.RowKit
import Derived.Test.YtknldfighehplaaWWords
import Derived.Test.YtknldfighehplaaWLast
import Derived.Test.YtknldfighehplaaWTab
import Derived.Test.YtknldfighehplaaWFour
import Derived.Test.YtknldfighehplaaWQPut
import Derived.Test.YtknldfighehplaaWApart
import Derived.Test.YtknldfighehplaaWArr
import Derived.Test.YtknldfighehplaaWZeros
import Derived.Test.YtknldfighehplaaWFoot
import Derived.Test.YtknldfighehplaaWKept
import Derived.Test.YtknldfighehplaaWShare
import Derived.Test.YtknldfighehplaaWN
import Derived.Test.YtknldfighehplaaWFootNe
import Derived.Test.YtknldfighehplaaWAt
import Derived.Test.YtknldfighehplaaWEqStruct
import Derived.Test.YtknldfighehplaaWRepsOne
import Derived.Test.YtknldfighehplaaWInv
import Derived.Test.YtknldfighehplaaWInvWords
import Derived.Test.YtknldfighehplaaWGuard
import Derived.Test.YtknldfighehplaaWNEv
import Derived.Test.YtknldfighehplaaWMore
namespace Go.Proofs.Ytknldfighehplaa.PFnSection
open Go.RowKit Go.Proofs.YtknldfighehplaaW.PrintWords Go.Proofs.YtknldfighehplaaW.PrintLast Go.Proofs.YtknldfighehplaaW.PrintMore
attribute [local go_sem] max2_int min2_int max_two min_two max_three min_three max_four min_four   -- for this text's walks alone
set_option linter.unusedVariables false
set_option linter.unusedSimpArgs false



def errW : Option Int → Value
  | none => .nilIface
  | some c => .iface 0 (.int .i64 c)
theorem errW_none : errW none = .nilIface := rfl
theorem errW_some (c : Int) : errW (some c) = .iface 0 (.int .i64 c) := rfl

-- the values' own types
/-! #### struct type 38 -/
structure S38 where
  f0 : Int
  f1 : Int
  f2 : ByteArray
def z38 : S38 := ⟨(0 : Int), (0 : Int), (⟨#[]⟩ : ByteArray)⟩
def k38 : Kd S38 := Kd.iso (Kd.pair (Kd.int .i64) (Kd.pair (Kd.int .u64) Kd.string)) (fun x : S38 => (x.f0, x.f1, x.f2))
theorem k38_open {w : World} {x : S38} {cs : List Value} (h : k38.K w x cs) : cs = [.int .i64 x.f0, .int .u64 x.f1, .string x.f2] := by
  obtain ⟨_, _, rfl, rfl, ⟨_, _, rfl, rfl, rfl⟩⟩ := h
  exact rfl
theorem k38_openM {w : World} {base : Nat} {ok : Nat → Prop} {x : S38} {cs : List Value} (h : k38.M w base ok x cs) : cs = [.int .i64 x.f0, .int .u64 x.f1, .string x.f2] := by
  obtain ⟨_, _, rfl, rfl, ⟨_, _, rfl, rfl, rfl⟩⟩ := h
  exact rfl
theorem k38_mk (w : World) (x : S38)  : k38.K w x [.int .i64 x.f0, .int .u64 x.f1, .string x.f2] := ⟨[.int .i64 x.f0], [.int .u64 x.f1, .string x.f2], rfl, rfl, ⟨[.int .u64 x.f1], [.string x.f2], rfl, rfl, rfl⟩⟩
theorem k38_mkM (w : World) (base : Nat) (ok : Nat → Prop) (x : S38)  : k38.M w base ok x [.int .i64 x.f0, .int .u64 x.f1, .string x.f2] := ⟨[.int .i64 x.f0], [.int .u64 x.f1, .string x.f2], rfl, rfl, ⟨[.int .u64 x.f1], [.string x.f2], rfl, rfl, rfl⟩⟩
def rd_T38 (xs : List S38) (i : Int) : S38 := xs.getD i.toNat z38
theorem at_T38 {w : World} {A : Option Addr} {n : Nat} {xs : List S38} (h : Kd.C k38 w A n xs) (i : Int) (h0 : 0 ≤ i) (h1 : i < n) : ∃ ad , A = some ad ∧ w.cell? (ad.add (i.toNat * 3)) = some (.int .i64 (rd_T38 xs i).f0) ∧ w.cell? ⟨(ad.add (i.toNat * 3)).block, (ad.add (i.toNat * 3)).off + 1, none⟩ = some (.int .u64 (rd_T38 xs i).f1) ∧ w.cell? ⟨(ad.add (i.toNat * 3)).block, (ad.add (i.toNat * 3)).off + 2, none⟩ = some (.string (rd_T38 xs i).f2) := by
  obtain ⟨ad, c, e, _, hK, hc0⟩ := Kd.C_get h z38 i h0 h1
  have hc : ∀ j u, c[j]? = some u → w.cell? (ad.add (i.toNat * 3 + j)) = some u := hc0
  obtain rfl := k38_open hK
  exact ⟨ad, e, hc 0 _ rfl, by rw [← add_field _ _ 1 (by omega)]; exact hc 1 _ rfl, by rw [← add_field _ _ 2 (by omega)]; exact hc 2 _ rfl⟩

/-! #### struct type 40 -/
structure S40 where
  f0 : Int
  f1 : S38
def z40 : S40 := ⟨(0 : Int), z38⟩
def k40 : Kd S40 := Kd.iso (Kd.pair (Kd.int .i64) k38) (fun x : S40 => (x.f0, x.f1))
theorem k40_open {w : World} {x : S40} {cs : List Value} (h : k40.K w x cs) : cs = [.int .i64 x.f0, .int .i64 x.f1.f0, .int .u64 x.f1.f1, .string x.f1.f2] := by
  obtain ⟨_, _, rfl, rfl, s1⟩ := h
  obtain rfl := k38_open s1
  exact rfl
theorem k40_openM {w : World} {base : Nat} {ok : Nat → Prop} {x : S40} {cs : List Value} (h : k40.M w base ok x cs) : cs = [.int .i64 x.f0, .int .i64 x.f1.f0, .int .u64 x.f1.f1, .string x.f1.f2] := by
  obtain ⟨_, _, rfl, rfl, s1⟩ := h
  obtain rfl := k38_openM s1
  exact rfl
theorem k40_mk (w : World) (x : S40)  : k40.K w x [.int .i64 x.f0, .int .i64 x.f1.f0, .int .u64 x.f1.f1, .string x.f1.f2] := ⟨[.int .i64 x.f0], [.int .i64 x.f1.f0, .int .u64 x.f1.f1, .string x.f1.f2], rfl, rfl, (k38_mk w x.f1 )⟩
theorem k40_mkM (w : World) (base : Nat) (ok : Nat → Prop) (x : S40)  : k40.M w base ok x [.int .i64 x.f0, .int .i64 x.f1.f0, .int .u64 x.f1.f1, .string x.f1.f2] := ⟨[.int .i64 x.f0], [.int .i64 x.f1.f0, .int .u64 x.f1.f1, .string x.f1.f2], rfl, rfl, (k38_mkM w base ok x.f1 )⟩
def rd_T40 (xs : List S40) (i : Int) : S40 := xs.getD i.toNat z40
theorem at_T40 {w : World} {A : Option Addr} {n : Nat} {xs : List S40} (h : Kd.C k40 w A n xs) (i : Int) (h0 : 0 ≤ i) (h1 : i < n) : ∃ ad , A = some ad ∧ w.cell? (ad.add (i.toNat * 4)) = some (.int .i64 (rd_T40 xs i).f0) ∧ w.cell? ⟨(ad.add (i.toNat * 4)).block, (ad.add (i.toNat * 4)).off + 1, none⟩ = some (.int .i64 (rd_T40 xs i).f1.f0) ∧ w.cell? ⟨(ad.add (i.toNat * 4)).block, (ad.add (i.toNat * 4)).off + 2, none⟩ = some (.int .u64 (rd_T40 xs i).f1.f1) ∧ w.cell? ⟨(ad.add (i.toNat * 4)).block, (ad.add (i.toNat * 4)).off + 3, none⟩ = some (.string (rd_T40 xs i).f1.f2) := by
  obtain ⟨ad, c, e, _, hK, hc0⟩ := Kd.C_get h z40 i h0 h1
  have hc : ∀ j u, c[j]? = some u → w.cell? (ad.add (i.toNat * 4 + j)) = some u := hc0
  obtain rfl := k40_open hK
  exact ⟨ad, e, hc 0 _ rfl, by rw [← add_field _ _ 1 (by omega)]; exact hc 1 _ rfl, by rw [← add_field _ _ 2 (by omega)]; exact hc 2 _ rfl, by rw [← add_field _ _ 3 (by omega)]; exact hc 3 _ rfl⟩

/-! #### struct type 51 -/
structure S51 where
  f0 : Int
  f1 : S40
  f2 : Int
def z51 : S51 := ⟨(0 : Int), z40, (0 : Int)⟩
def k51 : Kd S51 := Kd.iso (Kd.pair (Kd.int .i64) (Kd.pair k40 (Kd.int .i64))) (fun x : S51 => (x.f0, x.f1, x.f2))
theorem k51_open {w : World} {x : S51} {cs : List Value} (h : k51.K w x cs) : cs = [.int .i64 x.f0, .int .i64 x.f1.f0, .int .i64 x.f1.f1.f0, .int .u64 x.f1.f1.f1, .string x.f1.f1.f2, .int .i64 x.f2] := by
  obtain ⟨_, _, rfl, rfl, ⟨_, _, rfl, s1, rfl⟩⟩ := h
  obtain rfl := k40_open s1
  exact rfl
theorem k51_openM {w : World} {base : Nat} {ok : Nat → Prop} {x : S51} {cs : List Value} (h : k51.M w base ok x cs) : cs = [.int .i64 x.f0, .int .i64 x.f1.f0, .int .i64 x.f1.f1.f0, .int .u64 x.f1.f1.f1, .string x.f1.f1.f2, .int .i64 x.f2] := by
  obtain ⟨_, _, rfl, rfl, ⟨_, _, rfl, s1, rfl⟩⟩ := h
  obtain rfl := k40_openM s1
  exact rfl
theorem k51_mk (w : World) (x : S51)  : k51.K w x [.int .i64 x.f0, .int .i64 x.f1.f0, .int .i64 x.f1.f1.f0, .int .u64 x.f1.f1.f1, .string x.f1.f1.f2, .int .i64 x.f2] := ⟨[.int .i64 x.f0], [.int .i64 x.f1.f0, .int .i64 x.f1.f1.f0, .int .u64 x.f1.f1.f1, .string x.f1.f1.f2, .int .i64 x.f2], rfl, rfl, ⟨[.int .i64 x.f1.f0, .int .i64 x.f1.f1.f0, .int .u64 x.f1.f1.f1, .string x.f1.f1.f2], [.int .i64 x.f2], rfl, (k40_mk w x.f1 ), rfl⟩⟩
theorem k51_mkM (w : World) (base : Nat) (ok : Nat → Prop) (x : S51)  : k51.M w base ok x [.int .i64 x.f0, .int .i64 x.f1.f0, .int .i64 x.f1.f1.f0, .int .u64 x.f1.f1.f1, .string x.f1.f1.f2, .int .i64 x.f2] := ⟨[.int .i64 x.f0], [.int .i64 x.f1.f0, .int .i64 x.f1.f1.f0, .int .u64 x.f1.f1.f1, .string x.f1.f1.f2, .int .i64 x.f2], rfl, rfl, ⟨[.int .i64 x.f1.f0, .int .i64 x.f1.f1.f0, .int .u64 x.f1.f1.f1, .string x.f1.f1.f2], [.int .i64 x.f2], rfl, (k40_mkM w base ok x.f1 ), rfl⟩⟩
def rd_T51 (xs : List S51) (i : Int) : S51 := xs.getD i.toNat z51
theorem at_T51 {w : World} {A : Option Addr} {n : Nat} {xs : List S51} (h : Kd.C k51 w A n xs) (i : Int) (h0 : 0 ≤ i) (h1 : i < n) : ∃ ad , A = some ad ∧ w.cell? (ad.add (i.toNat * 6)) = some (.int .i64 (rd_T51 xs i).f0) ∧ w.cell? ⟨(ad.add (i.toNat * 6)).block, (ad.add (i.toNat * 6)).off + 1, none⟩ = some (.int .i64 (rd_T51 xs i).f1.f0) ∧ w.cell? ⟨(ad.add (i.toNat * 6)).block, (ad.add (i.toNat * 6)).off + 2, none⟩ = some (.int .i64 (rd_T51 xs i).f1.f1.f0) ∧ w.cell? ⟨(ad.add (i.toNat * 6)).block, (ad.add (i.toNat * 6)).off + 3, none⟩ = some (.int .u64 (rd_T51 xs i).f1.f1.f1) ∧ w.cell? ⟨(ad.add (i.toNat * 6)).block, (ad.add (i.toNat * 6)).off + 4, none⟩ = some (.string (rd_T51 xs i).f1.f1.f2) ∧ w.cell? ⟨(ad.add (i.toNat * 6)).block, (ad.add (i.toNat * 6)).off + 5, none⟩ = some (.int .i64 (rd_T51 xs i).f2) := by
  obtain ⟨ad, c, e, _, hK, hc0⟩ := Kd.C_get h z51 i h0 h1
  have hc : ∀ j u, c[j]? = some u → w.cell? (ad.add (i.toNat * 6 + j)) = some u := hc0
  obtain rfl := k51_open hK
  exact ⟨ad, e, hc 0 _ rfl, by rw [← add_field _ _ 1 (by omega)]; exact hc 1 _ rfl, by rw [← add_field _ _ 2 (by omega)]; exact hc 2 _ rfl, by rw [← add_field _ _ 3 (by omega)]; exact hc 3 _ rfl, by rw [← add_field _ _ 4 (by omega)]; exact hc 4 _ rfl, by rw [← add_field _ _ 5 (by omega)]; exact hc 5 _ rfl⟩

end Go.Proofs.Ytknldfighehplaa.PFnSection
