/- strings.Join and what it calls as this program bears them, laid for the shelf's contract; no conditions. -/
import Derived.Shelf.Strings.OnBuilder
import Derived.Test.YtknldfighehplaaDoorProg
namespace Go.Proofs.YtknldfighehplaaDoor.HJoin
open Go.Shelf Go.Proofs
def ren : Go.Shelf.Ren := ⟨fun | 156 => 67 | 165 => 74 | 166 => 75 | 169 => 76 | 240 => 79 | 241 => 80 | 276 => 81 | 277 => 82 | n => n, fun | 31 => 22 | 9 => 9 | 3 => 3 | 4 => 4 | 0 => 0 | 20 => 20 | 72 => 87 | 76 => 89 | 70 => 84 | 37 => 85 | 75 => 48 | 127 => 105 | 164 => 109 | 5 => 5 | 80 => 46 | n => n, fun | n => n⟩
theorem lays : Go.Proofs.Lays.n156 Tryd.prog ren := {
  mixed := by kernel_rfl
  f156 := Tryd.func67.trans (congrArg some (by kernel_rfl))
  f165 := Tryd.func74.trans (congrArg some (by kernel_rfl))
  f166 := Tryd.func75.trans (congrArg some (by kernel_rfl))
  f169 := Tryd.func76.trans (congrArg some (by kernel_rfl))
  f240 := Tryd.func79.trans (congrArg some (by kernel_rfl))
  f241 := Tryd.func80.trans (congrArg some (by kernel_rfl))
  f276 := Tryd.func81.trans (congrArg some (by kernel_rfl))
  f277 := Tryd.func82.trans (congrArg some (by kernel_rfl))
  t0 := Tryd.underlying0
  a0 := Tryd.isAgg0
  z0 := Tryd.sizeOf0
  v0 := Tryd.zeroValue0
  t3 := Tryd.underlying3
  a3 := Tryd.isAgg3
  z3 := Tryd.sizeOf3
  v3 := Tryd.zeroValue3
  t4 := Tryd.underlying4
  a4 := Tryd.isAgg4
  z4 := Tryd.sizeOf4
  v4 := Tryd.zeroValue4
  t9 := Tryd.underlying9
  a9 := Tryd.isAgg9
  z9 := Tryd.sizeOf9
  v9 := Tryd.zeroValue9
  t20 := Tryd.underlying20
  a20 := Tryd.isAgg20
  z20 := Tryd.sizeOf20
  v20 := Tryd.zeroValue20
  t31 := Tryd.underlying22
  a31 := Tryd.isAgg22
  z31 := Tryd.sizeOf22
  v31 := Tryd.zeroValue22
  t37 := Tryd.underlying85
  a37 := Tryd.isAgg85
  z37 := Tryd.sizeOf85
  v37 := Tryd.zeroValue85
  t70 := Tryd.underlying84
  a70 := Tryd.isAgg84
  z70 := Tryd.sizeOf84
  v70 := Tryd.zeroValue84
  t72 := Tryd.underlying87
  a72 := Tryd.isAgg87
  z72 := Tryd.sizeOf87
  v72 := Tryd.zeroValue87
  t75 := Tryd.underlying48
  a75 := Tryd.isAgg48
  z75 := Tryd.sizeOf48
  v75 := Tryd.zeroValue48
  t76 := Tryd.underlying89
  a76 := Tryd.isAgg89
  z76 := Tryd.sizeOf89
  v76 := Tryd.zeroValue89
  t127 := Tryd.underlying105
  a127 := Tryd.isAgg105
  z127 := Tryd.sizeOf105
  v127 := Tryd.zeroValue105
  t164 := Tryd.underlying109
  a164 := Tryd.isAgg109
  z164 := Tryd.sizeOf109
  v164 := Tryd.zeroValue109 }
theorem builder_156 : Builder.Extra Tryd.prog ren := {
  sizeBuilder := by kernel_rfl
  liesBuilder := by kernel_rfl
  t5 := Tryd.underlying5
  a5 := Tryd.isAgg5
  z5 := Tryd.sizeOf5
  v5 := Tryd.zeroValue5
  infoByte := by kernel_rfl
  cellsByte := by kernel_rfl
  sizeByte := by kernel_rfl
  neB5 := by decide }
open Go.RowKit in
theorem join_none (a : Option Addr) (c : Nat) (sep : ByteArray) (w : World) :
    Calls Tryd.prog 67 #[.slice a 0 c, .string sep] w fun e w' => e = .returned (.string ⟨#[]⟩) ∧ w' = w := Any.strings_Join_none lays builder_156 a c sep w
open Go.RowKit in
theorem join (bk o c : Nat) (xs : List ByteArray) (sep : ByteArray) (w : World) (hcells : ∀ (j : Nat) x, xs[j]? = some x → w.cell? ⟨bk, o + j, none⟩ = some (.string x)) (hbk : bk < w.heap.size) (hN : xs.length ≤ 140737488355328) (hcap : xs.length ≤ c) (hlen : (Lib.join (xs.map (·.data.toList)) sep.data.toList).length ≤ 140737488355328) :
    Calls Tryd.prog 67 #[.slice (some ⟨bk, o, none⟩) xs.length c, .string sep] w fun e w' => e = .returned (.string ⟨(Lib.join (xs.map (·.data.toList)) sep.data.toList).toArray⟩) ∧ Below w.heap.size w w' := Any.strings_Join lays builder_156 bk o c xs sep w hcells hbk hN hcap hlen
end Go.Proofs.YtknldfighehplaaDoor.HJoin
