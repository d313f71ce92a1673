/-
  DERIVED. GIVEN WITH THE SEED: THE CARDS: each row of YtknldfighehplaaDoorRows.lean that lists a variable, with what it lists TIED to the program's text (the seventh form; the later family's looks); each row that meets fmt, with fmt's text TOLD by the authors' own Lean function (tested against real Go, not proved from fmt's source: count such statements apart). THE CARD IS WHAT COUNTS. Prove the row's statement (the work); the ties are given (YtknldfighehplaaDoorTie.lean); close each card by the builder's one call (the guide's Derived/Test/ToyasCard.lean, 'card_holds'). Laid BY PROGRAM, IN A SANDBOX (cutbox-door.mjs). By AI agents, Wed Nov 11 2026. No macro, syntax, notation, axiom, sorry.
-/
import Derived.Test.YtknldfighehplaaDoorRows
import GoSem.ClaimSeven
namespace Go.Proofs.YtknldfighehplaaDoor
namespace Rows

/-- THE TIED CARD OF 'laws.FnTerm'. -/
def fnTermCard : Claim7 := { stood := { row := fnTermRow, standIns := [], harness := (true, "420fcbb330434caa49b98201a782635834a0e01585848a4f9be440596cf2825b"), looks := false }, kinds := [], alts := [], laidByText := true, laidKinds := [.data, .pinned, .pinned], laidTests := true, laidLooks := .later }
def FnTermCardSaid : Prop := Claim7.holds Tryd.pinned (.plain (OpenSpec.ofChange fnTermSpec)) fnTermCard

/-- THE TIED CARD OF 'laws.FnParseOption'. -/
def fnParseOptionCard : Claim7 := { stood := { row := fnParseOptionRow, standIns := [], harness := (true, "420fcbb330434caa49b98201a782635834a0e01585848a4f9be440596cf2825b"), looks := false }, kinds := [], alts := [], laidByText := true, laidKinds := [.data, .pinned, .pinned], laidTests := true, laidLooks := .later }
def FnParseOptionCardSaid : Prop := Claim7.holds Tryd.pinned (.plain (OpenSpec.ofChange fnParseOptionSpec)) fnParseOptionCard

/-- THE TIED CARD OF 'laws.FnConstraint'. -/
def fnConstraintCard : Claim7 := { stood := { row := fnConstraintRow, standIns := [], harness := (true, "420fcbb330434caa49b98201a782635834a0e01585848a4f9be440596cf2825b"), looks := false }, kinds := [], alts := [], laidByText := true, laidKinds := [.data, .pinned, .pinned], laidTests := true, laidLooks := .later }
def FnConstraintCardSaid : Prop := Claim7.holds Tryd.pinned (.plain (OpenSpec.ofChange fnConstraintSpec)) fnConstraintCard

/-- THE TIED CARD OF 'laws.FnMeaning'. -/
def fnMeaningCard : Claim7 := { stood := { row := fnMeaningRow, standIns := [], harness := (true, "420fcbb330434caa49b98201a782635834a0e01585848a4f9be440596cf2825b"), looks := false }, kinds := [], alts := [], laidByText := true, laidKinds := [.listed, .data, .data, .pinned, .pinned], laidTests := true, laidLooks := .later }
def FnMeaningCardSaid : Prop := Claim7.holds Tryd.pinned (.plain (OpenSpec.ofChange fnMeaningSpec)) fnMeaningCard

/-- THE TIED CARD OF 'laws.FnTextBack'. -/
def fnTextBackCard : Claim7 := { stood := { row := fnTextBackRow, standIns := [], harness := (true, "420fcbb330434caa49b98201a782635834a0e01585848a4f9be440596cf2825b"), looks := false }, kinds := [], alts := [], laidByText := true, laidKinds := [.listed, .data, .data, .pinned, .pinned], laidTests := true, laidLooks := .later }
def FnTextBackCardSaid : Prop := Claim7.holds Tryd.pinned (.plain (OpenSpec.ofChange fnTextBackSpec)) fnTextBackCard

/-- THE SECOND FORM's CARD OF 'laws.FnTerm'. -/
def fnTermUptoCard : Claim7 := { stood := { row := fnTermUptoRow, standIns := [], harness := (true, "420fcbb330434caa49b98201a782635834a0e01585848a4f9be440596cf2825b"), looks := false }, kinds := [], alts := [], laidByText := true, laidKinds := [.data, .pinned, .pinned], laidTests := true, laidLooks := .later }
def FnTermUptoCardSaid : Prop := Claim7.holds Tryd.pinned (.plain (OpenSpec.upto fnTermSpec)) fnTermUptoCard

/-- THE SECOND FORM's CARD OF 'laws.FnParseOption'. -/
def fnParseOptionUptoCard : Claim7 := { stood := { row := fnParseOptionUptoRow, standIns := [], harness := (true, "420fcbb330434caa49b98201a782635834a0e01585848a4f9be440596cf2825b"), looks := false }, kinds := [], alts := [], laidByText := true, laidKinds := [.data, .pinned, .pinned], laidTests := true, laidLooks := .later }
def FnParseOptionUptoCardSaid : Prop := Claim7.holds Tryd.pinned (.plain (OpenSpec.upto fnParseOptionSpec)) fnParseOptionUptoCard

/-- THE SECOND FORM's CARD OF 'laws.FnConstraint'. -/
def fnConstraintUptoCard : Claim7 := { stood := { row := fnConstraintUptoRow, standIns := [], harness := (true, "420fcbb330434caa49b98201a782635834a0e01585848a4f9be440596cf2825b"), looks := false }, kinds := [], alts := [], laidByText := true, laidKinds := [.data, .pinned, .pinned], laidTests := true, laidLooks := .later }
def FnConstraintUptoCardSaid : Prop := Claim7.holds Tryd.pinned (.plain (OpenSpec.upto fnConstraintSpec)) fnConstraintUptoCard

/-- THE SECOND FORM's CARD OF 'laws.FnMeaning'. -/
def fnMeaningUptoCard : Claim7 := { stood := { row := fnMeaningUptoRow, standIns := [], harness := (true, "420fcbb330434caa49b98201a782635834a0e01585848a4f9be440596cf2825b"), looks := false }, kinds := [], alts := [], laidByText := true, laidKinds := [.listed, .data, .data, .pinned, .pinned], laidTests := true, laidLooks := .later }
def FnMeaningUptoCardSaid : Prop := Claim7.holds Tryd.pinned (.plain (OpenSpec.upto fnMeaningSpec)) fnMeaningUptoCard

/-- THE SECOND FORM's CARD OF 'laws.FnTextBack'. -/
def fnTextBackUptoCard : Claim7 := { stood := { row := fnTextBackUptoRow, standIns := [], harness := (true, "420fcbb330434caa49b98201a782635834a0e01585848a4f9be440596cf2825b"), looks := false }, kinds := [], alts := [], laidByText := true, laidKinds := [.listed, .data, .data, .pinned, .pinned], laidTests := true, laidLooks := .later }
def FnTextBackUptoCardSaid : Prop := Claim7.holds Tryd.pinned (.plain (OpenSpec.upto fnTextBackSpec)) fnTextBackUptoCard
end Rows
end Go.Proofs.YtknldfighehplaaDoor
