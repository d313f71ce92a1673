/-
  No cell of these rows narrows 'for every input' (looked for: loops, veiled, ifaces, maps, wideKeys, modest, calm, conditions, laid).
  DERIVED. THE GIVEN ROWS OF THIS SEAT. 9 by the template 'for every input the law returns true; each argument reads behind the call as it read before'; 0 by the template 'total and deterministic' (their statements: YtknldfighehplaaTotals.lean).
  GIVEN WITH THE SEED: the statements are not yours to turn. If you find one false, say at which input.
  Laid BY PROGRAM, IN A SANDBOX (cutbox-rows.mjs): the forced cells as the released guide's own fill.sh prints them over the translation eb2a85cc81e1b5fe… (all of the seat's roots in one cut). By AI agents, Wed Nov 11 2026. No macro, syntax, notation, axiom, sorry.
-/
import Derived.Test.YtknldfighehplaaChecked
import GoSem.Claim
import GoSem.ClaimJoined
import GoSem.ClaimMapViews
import Derived.JoinedTies
import Derived.KernelRfl
namespace Go.Proofs.Ytknldfighehplaa
/- THE CELL 'sum', in the pinned program and in every row, IS THE sha256 OF THE DUMP (.gsa) THAT YtknldfighehplaaProg.lean LOADS. Nothing in Lean hashes anything: it is a label: what it is worth is what the hold of that sum in a sandbox is worth. -/
noncomputable def Try.pinned : Pinned := { name := "ytknldfighehplaa", sum := "eb2a85cc81e1b5fe1960527a0eea73d3e97818dcd0c5983d0ed403e161fe29fc", checked := Try.checked }
namespace Rows
def none {H : Type} : Left H := { results := [], args := [] }

/-- 'laws.FnSymbol': WHATEVER THE INPUT: true; the input reads as it did. -/
def fnSymbolSpec : ChangeSpec := { name := "fnSymbol", fn := fun _ => fun
  | [d1, d2] => { results := [.lit (.bool true)], args := [d1, d2] }
  | _ => none }
def fnSymbolRow : OpenClaim := { program := "ytknldfighehplaa", sum := "eb2a85cc81e1b5fe1960527a0eea73d3e97818dcd0c5983d0ed403e161fe29fc", func := "pub-berthage/laws.FnSymbol", spec := "fnSymbol", apart := false }
def FnSymbolSaid : Prop := fnSymbolRow.holds Try.pinned (OpenSpec.ofChange fnSymbolSpec)

/-- ITS FALSE NEIGHBOUR: 'it returns false'. Refute it at one input. -/
def fnSymbolWrong : ChangeSpec := { name := "fnSymbol", fn := fun _ => fun
  | [d1, d2] => { results := [.lit (.bool false)], args := [d1, d2] }
  | _ => none }
def FnSymbolWrongFalsely : Prop := fnSymbolRow.holds Try.pinned (OpenSpec.ofChange fnSymbolWrong)

/-- 'laws.FnNumber': WHATEVER THE INPUT: true; the input reads as it did. -/
def fnNumberSpec : ChangeSpec := { name := "fnNumber", fn := fun _ => fun
  | [d] => { results := [.lit (.bool true)], args := [d] }
  | _ => none }
def fnNumberRow : OpenClaim := { program := "ytknldfighehplaa", sum := "eb2a85cc81e1b5fe1960527a0eea73d3e97818dcd0c5983d0ed403e161fe29fc", func := "pub-berthage/laws.FnNumber", spec := "fnNumber", apart := false }
def FnNumberSaid : Prop := fnNumberRow.holds Try.pinned (OpenSpec.ofChange fnNumberSpec)

/-- ITS FALSE NEIGHBOUR: 'it returns false'. Refute it at one input. -/
def fnNumberWrong : ChangeSpec := { name := "fnNumber", fn := fun _ => fun
  | [d] => { results := [.lit (.bool false)], args := [d] }
  | _ => none }
def FnNumberWrongFalsely : Prop := fnNumberRow.holds Try.pinned (OpenSpec.ofChange fnNumberWrong)

/-- 'laws.FnAllocatedID': WHATEVER THE INPUT: true; the input reads as it did. -/
def fnAllocatedIDSpec : ChangeSpec := { name := "fnAllocatedID", fn := fun _ => fun
  | [d1, d2] => { results := [.lit (.bool true)], args := [d1, d2] }
  | _ => none }
def fnAllocatedIDRow : OpenClaim := { program := "ytknldfighehplaa", sum := "eb2a85cc81e1b5fe1960527a0eea73d3e97818dcd0c5983d0ed403e161fe29fc", func := "pub-berthage/laws.FnAllocatedID", spec := "fnAllocatedID", apart := false }
def FnAllocatedIDSaid : Prop := fnAllocatedIDRow.holds Try.pinned (OpenSpec.ofChange fnAllocatedIDSpec)

/-- ITS FALSE NEIGHBOUR: 'it returns false'. Refute it at one input. -/
def fnAllocatedIDWrong : ChangeSpec := { name := "fnAllocatedID", fn := fun _ => fun
  | [d1, d2] => { results := [.lit (.bool false)], args := [d1, d2] }
  | _ => none }
def FnAllocatedIDWrongFalsely : Prop := fnAllocatedIDRow.holds Try.pinned (OpenSpec.ofChange fnAllocatedIDWrong)

/-- 'laws.FnSameMasks': WHATEVER THE INPUT: true; the input reads as it did. -/
def fnSameMasksSpec : ChangeSpec := { name := "fnSameMasks", fn := fun _ => fun
  | [d1, d2] => { results := [.lit (.bool true)], args := [d1, d2] }
  | _ => none }
def fnSameMasksRow : OpenClaim := { program := "ytknldfighehplaa", sum := "eb2a85cc81e1b5fe1960527a0eea73d3e97818dcd0c5983d0ed403e161fe29fc", func := "pub-berthage/laws.FnSameMasks", spec := "fnSameMasks", apart := false }
def FnSameMasksSaid : Prop := fnSameMasksRow.holds Try.pinned (OpenSpec.ofChange fnSameMasksSpec)

/-- ITS FALSE NEIGHBOUR: 'it returns false'. Refute it at one input. -/
def fnSameMasksWrong : ChangeSpec := { name := "fnSameMasks", fn := fun _ => fun
  | [d1, d2] => { results := [.lit (.bool false)], args := [d1, d2] }
  | _ => none }
def FnSameMasksWrongFalsely : Prop := fnSameMasksRow.holds Try.pinned (OpenSpec.ofChange fnSameMasksWrong)

/-- 'laws.FnInterval': WHATEVER THE INPUT: true; the input reads as it did. -/
def fnIntervalSpec : ChangeSpec := { name := "fnInterval", fn := fun _ => fun
  | [d] => { results := [.lit (.bool true)], args := [d] }
  | _ => none }
def fnIntervalRow : OpenClaim := { program := "ytknldfighehplaa", sum := "eb2a85cc81e1b5fe1960527a0eea73d3e97818dcd0c5983d0ed403e161fe29fc", func := "pub-berthage/laws.FnInterval", spec := "fnInterval", inPlace := ["math.Float32frombits", "math.Float64frombits"], unfollowed := true, recurses := true, apart := false }
def FnIntervalSaid : Prop := fnIntervalRow.holds Try.pinned (OpenSpec.ofChange fnIntervalSpec)

/-- ITS FALSE NEIGHBOUR: 'it returns false'. Refute it at one input. -/
def fnIntervalWrong : ChangeSpec := { name := "fnInterval", fn := fun _ => fun
  | [d] => { results := [.lit (.bool false)], args := [d] }
  | _ => none }
def FnIntervalWrongFalsely : Prop := fnIntervalRow.holds Try.pinned (OpenSpec.ofChange fnIntervalWrong)

/-- 'laws.FnImm': WHATEVER THE INPUT: true; the input reads as it did. -/
def fnImmSpec : ChangeSpec := { name := "fnImm", fn := fun _ => fun
  | [d] => { results := [.lit (.bool true)], args := [d] }
  | _ => none }
def fnImmRow : OpenClaim := { program := "ytknldfighehplaa", sum := "eb2a85cc81e1b5fe1960527a0eea73d3e97818dcd0c5983d0ed403e161fe29fc", func := "pub-berthage/laws.FnImm", spec := "fnImm", inPlace := ["math.Float32bits", "math.Float64bits", "math.Float32frombits", "math.Float64frombits"], unfollowed := true, recurses := true, apart := false }
def FnImmSaid : Prop := fnImmRow.holds Try.pinned (OpenSpec.ofChange fnImmSpec)

/-- ITS FALSE NEIGHBOUR: 'it returns false'. Refute it at one input. -/
def fnImmWrong : ChangeSpec := { name := "fnImm", fn := fun _ => fun
  | [d] => { results := [.lit (.bool false)], args := [d] }
  | _ => none }
def FnImmWrongFalsely : Prop := fnImmRow.holds Try.pinned (OpenSpec.ofChange fnImmWrong)

/-- 'laws.FnSection': WHATEVER THE INPUT: true; the input reads as it did. -/
def fnSectionSpec : ChangeSpec := { name := "fnSection", fn := fun _ => fun
  | [d] => { results := [.lit (.bool true)], args := [d] }
  | _ => none }
def fnSectionRow : OpenClaim := { program := "ytknldfighehplaa", sum := "eb2a85cc81e1b5fe1960527a0eea73d3e97818dcd0c5983d0ed403e161fe29fc", func := "pub-berthage/laws.FnSection", spec := "fnSection", inPlace := ["math.Float32frombits", "math.Float64frombits", "math.Float32bits", "math.Float64bits"], unfollowed := true, recurses := true, apart := false }
def FnSectionSaid : Prop := fnSectionRow.holds Try.pinned (OpenSpec.ofChange fnSectionSpec)

/-- ITS FALSE NEIGHBOUR: 'it returns false'. Refute it at one input. -/
def fnSectionWrong : ChangeSpec := { name := "fnSection", fn := fun _ => fun
  | [d] => { results := [.lit (.bool false)], args := [d] }
  | _ => none }
def FnSectionWrongFalsely : Prop := fnSectionRow.holds Try.pinned (OpenSpec.ofChange fnSectionWrong)

/-- 'laws.FnCloned': WHATEVER THE INPUT: true; the input reads as it did. -/
def fnClonedSpec : ChangeSpec := { name := "fnCloned", fn := fun _ => fun
  | [d] => { results := [.lit (.bool true)], args := [d] }
  | _ => none }
def fnClonedRow : OpenClaim := { program := "ytknldfighehplaa", sum := "eb2a85cc81e1b5fe1960527a0eea73d3e97818dcd0c5983d0ed403e161fe29fc", func := "pub-berthage/laws.FnCloned", spec := "fnCloned", inPlace := ["internal/reflectlite.ValueOf", "internal/reflectlite.Swapper", "(internal/reflectlite.Value).Len"], unfollowed := true, recurses := true, apart := false }
def FnClonedSaid : Prop := fnClonedRow.holds Try.pinned (OpenSpec.ofChange fnClonedSpec)

/-- ITS FALSE NEIGHBOUR: 'it returns false'. Refute it at one input. -/
def fnClonedWrong : ChangeSpec := { name := "fnCloned", fn := fun _ => fun
  | [d] => { results := [.lit (.bool false)], args := [d] }
  | _ => none }
def FnClonedWrongFalsely : Prop := fnClonedRow.holds Try.pinned (OpenSpec.ofChange fnClonedWrong)

/-- 'laws.FnDifference': WHATEVER THE INPUT: true; the input reads as it did. -/
def fnDifferenceSpec : ChangeSpec := { name := "fnDifference", fn := fun _ => fun
  | [d1, d2] => { results := [.lit (.bool true)], args := [d1, d2] }
  | _ => none }
def fnDifferenceRow : OpenClaim := { program := "ytknldfighehplaa", sum := "eb2a85cc81e1b5fe1960527a0eea73d3e97818dcd0c5983d0ed403e161fe29fc", func := "pub-berthage/laws.FnDifference", spec := "fnDifference", inPlace := ["internal/reflectlite.ValueOf", "internal/reflectlite.Swapper", "(internal/reflectlite.Value).Len"], unfollowed := true, recurses := true, apart := false }
def FnDifferenceSaid : Prop := fnDifferenceRow.holds Try.pinned (OpenSpec.ofChange fnDifferenceSpec)

/-- ITS FALSE NEIGHBOUR: 'it returns false'. Refute it at one input. -/
def fnDifferenceWrong : ChangeSpec := { name := "fnDifference", fn := fun _ => fun
  | [d1, d2] => { results := [.lit (.bool false)], args := [d1, d2] }
  | _ => none }
def FnDifferenceWrongFalsely : Prop := fnDifferenceRow.holds Try.pinned (OpenSpec.ofChange fnDifferenceWrong)

/- THE SECOND FORM. 'bulk': how many values and letters a reading holds, each counted each time it is reached (what is shared counts as often as it is met; a slice's spare places count too). A statement '..UptoSaid' is the law's where the arguments, and the package variables that the reading takes, are together of bulk at most 1048576: NARROWER than '..Said'. Prove '..Said' where nothing that the law and all that it calls make is longer than what came in: it says more and counts as full. Else prove '..UptoSaid'. A law counts once. -/
mutual
def uptoBulk {H : Type} : DataW H → Nat
  | .lit (.string bytes) => bytes.length + 1
  | .lit _ => 1
  | .nil => 1
  | .ptr d => uptoBulk d + 1
  | .slice elems spare => uptoBulkAll elems + uptoBulkAll spare + 1
  | .agg parts => uptoBulkAll parts + 1
  | .iface _ d => uptoBulk d + 1
  | .map entries => uptoBulkEntries entries + 1
  | .held _ => 1
def uptoBulkAll {H : Type} : List (DataW H) → Nat
  | [] => 0
  | d :: r => uptoBulk d + uptoBulkAll r
def uptoBulkEntries {H : Type} : List (Lit × DataW H) → Nat
  | [] => 0
  | x :: r => uptoBulkEntry x + uptoBulkEntries r
def uptoBulkEntry {H : Type} : Lit × DataW H → Nat
  | (.string bytes, d) => bytes.length + uptoBulk d + 1
  | (_, d) => uptoBulk d + 1
 end
def uptoSmall : (H : Type) → List (DataW H) → Bool := fun _ ds => decide (uptoBulkAll ds ≤ 1048576)
def OpenSpec.upto (s : _root_.Go.ChangeSpec) : _root_.Go.OpenSpec := { _root_.Go.OpenSpec.ofChange s with cond := some uptoSmall }

/-- 'laws.FnSymbol', WHERE WHAT IT READS IS OF BULK AT MOST 1048576: true; the input reads as it did. -/
def fnSymbolUptoRow : OpenClaim := { program := "ytknldfighehplaa", sum := "eb2a85cc81e1b5fe1960527a0eea73d3e97818dcd0c5983d0ed403e161fe29fc", func := "pub-berthage/laws.FnSymbol", spec := "fnSymbol", apart := false, narrowed := true }
def FnSymbolUptoSaid : Prop := fnSymbolUptoRow.holds Try.pinned (OpenSpec.upto fnSymbolSpec)

/-- 'laws.FnNumber', WHERE WHAT IT READS IS OF BULK AT MOST 1048576: true; the input reads as it did. -/
def fnNumberUptoRow : OpenClaim := { program := "ytknldfighehplaa", sum := "eb2a85cc81e1b5fe1960527a0eea73d3e97818dcd0c5983d0ed403e161fe29fc", func := "pub-berthage/laws.FnNumber", spec := "fnNumber", apart := false, narrowed := true }
def FnNumberUptoSaid : Prop := fnNumberUptoRow.holds Try.pinned (OpenSpec.upto fnNumberSpec)

/-- 'laws.FnAllocatedID', WHERE WHAT IT READS IS OF BULK AT MOST 1048576: true; the input reads as it did. -/
def fnAllocatedIDUptoRow : OpenClaim := { program := "ytknldfighehplaa", sum := "eb2a85cc81e1b5fe1960527a0eea73d3e97818dcd0c5983d0ed403e161fe29fc", func := "pub-berthage/laws.FnAllocatedID", spec := "fnAllocatedID", apart := false, narrowed := true }
def FnAllocatedIDUptoSaid : Prop := fnAllocatedIDUptoRow.holds Try.pinned (OpenSpec.upto fnAllocatedIDSpec)

/-- 'laws.FnSameMasks', WHERE WHAT IT READS IS OF BULK AT MOST 1048576: true; the input reads as it did. -/
def fnSameMasksUptoRow : OpenClaim := { program := "ytknldfighehplaa", sum := "eb2a85cc81e1b5fe1960527a0eea73d3e97818dcd0c5983d0ed403e161fe29fc", func := "pub-berthage/laws.FnSameMasks", spec := "fnSameMasks", apart := false, narrowed := true }
def FnSameMasksUptoSaid : Prop := fnSameMasksUptoRow.holds Try.pinned (OpenSpec.upto fnSameMasksSpec)

/-- 'laws.FnInterval', WHERE WHAT IT READS IS OF BULK AT MOST 1048576: true; the input reads as it did. -/
def fnIntervalUptoRow : OpenClaim := { program := "ytknldfighehplaa", sum := "eb2a85cc81e1b5fe1960527a0eea73d3e97818dcd0c5983d0ed403e161fe29fc", func := "pub-berthage/laws.FnInterval", spec := "fnInterval", inPlace := ["math.Float32frombits", "math.Float64frombits"], unfollowed := true, recurses := true, apart := false, narrowed := true }
def FnIntervalUptoSaid : Prop := fnIntervalUptoRow.holds Try.pinned (OpenSpec.upto fnIntervalSpec)

/-- 'laws.FnImm', WHERE WHAT IT READS IS OF BULK AT MOST 1048576: true; the input reads as it did. -/
def fnImmUptoRow : OpenClaim := { program := "ytknldfighehplaa", sum := "eb2a85cc81e1b5fe1960527a0eea73d3e97818dcd0c5983d0ed403e161fe29fc", func := "pub-berthage/laws.FnImm", spec := "fnImm", inPlace := ["math.Float32bits", "math.Float64bits", "math.Float32frombits", "math.Float64frombits"], unfollowed := true, recurses := true, apart := false, narrowed := true }
def FnImmUptoSaid : Prop := fnImmUptoRow.holds Try.pinned (OpenSpec.upto fnImmSpec)

/-- 'laws.FnSection', WHERE WHAT IT READS IS OF BULK AT MOST 1048576: true; the input reads as it did. -/
def fnSectionUptoRow : OpenClaim := { program := "ytknldfighehplaa", sum := "eb2a85cc81e1b5fe1960527a0eea73d3e97818dcd0c5983d0ed403e161fe29fc", func := "pub-berthage/laws.FnSection", spec := "fnSection", inPlace := ["math.Float32frombits", "math.Float64frombits", "math.Float32bits", "math.Float64bits"], unfollowed := true, recurses := true, apart := false, narrowed := true }
def FnSectionUptoSaid : Prop := fnSectionUptoRow.holds Try.pinned (OpenSpec.upto fnSectionSpec)

/-- 'laws.FnCloned', WHERE WHAT IT READS IS OF BULK AT MOST 1048576: true; the input reads as it did. -/
def fnClonedUptoRow : OpenClaim := { program := "ytknldfighehplaa", sum := "eb2a85cc81e1b5fe1960527a0eea73d3e97818dcd0c5983d0ed403e161fe29fc", func := "pub-berthage/laws.FnCloned", spec := "fnCloned", inPlace := ["internal/reflectlite.ValueOf", "internal/reflectlite.Swapper", "(internal/reflectlite.Value).Len"], unfollowed := true, recurses := true, apart := false, narrowed := true }
def FnClonedUptoSaid : Prop := fnClonedUptoRow.holds Try.pinned (OpenSpec.upto fnClonedSpec)

/-- 'laws.FnDifference', WHERE WHAT IT READS IS OF BULK AT MOST 1048576: true; the input reads as it did. -/
def fnDifferenceUptoRow : OpenClaim := { program := "ytknldfighehplaa", sum := "eb2a85cc81e1b5fe1960527a0eea73d3e97818dcd0c5983d0ed403e161fe29fc", func := "pub-berthage/laws.FnDifference", spec := "fnDifference", inPlace := ["internal/reflectlite.ValueOf", "internal/reflectlite.Swapper", "(internal/reflectlite.Value).Len"], unfollowed := true, recurses := true, apart := false, narrowed := true }
def FnDifferenceUptoSaid : Prop := fnDifferenceUptoRow.holds Try.pinned (OpenSpec.upto fnDifferenceSpec)

end Rows
end Go.Proofs.Ytknldfighehplaa
