/- Letters, and a world whose table of properties tells them below 128; no conditions. -/
import Derived.Test.YtknldfighehplaaDoorWWords
import Derived.Test.YtknldfighehplaaDoorProg
namespace Go.Proofs.YtknldfighehplaaDoor.HTabP
open Go.RowKit
def letC (c : Int) : Bool := decide (97 ≤ c ∧ c ≤ 122) || decide (65 ≤ c ∧ c ≤ 90)
/-- The table's cells below 128 tell the letters. -/
def TabP (w : World) : Prop := ∀ i : Nat, i < 128 → ∃ p, w.cell? ⟨0, i, none⟩ = some (.int .u8 p) ∧ (Go.bits .and .u8 p 96 != 0) = letC i
theorem TabP.below {w W : World} (h : TabP w) (hb : Below w.heap.size w W) : TabP W := fun i hi => by
  obtain ⟨p, h1, h2⟩ := h i hi
  exact ⟨p, (hb.cell (World.block_lt_of_cell? w _ h1)).trans h1, h2⟩
end Go.Proofs.YtknldfighehplaaDoor.HTabP
