/- The table of properties as the rows list it: its cells below 128 tell the letters; no conditions. -/
import Derived.Test.YtknldfighehplaaDoorRows
import Derived.Test.YtknldfighehplaaDoorHTabP
import Derived.Lib.LaidTab
import Derived.PinnedBridge
import Derived.Lay
namespace Go.Proofs.YtknldfighehplaaDoor.HTab
set_option linter.unusedSimpArgs false
set_option linter.unusedVariables false
open Go.RowKit Go.Proofs.YtknldfighehplaaDoor.HTabP
def zs : List Int := [1, 1, 1, 1, 1, 1, 1, 1, 1, 1, 1, 1, 1, 1, 1, 1, 1, 1, 1, 1, 1, 1, 1, 1, 1, 1, 1, 1, 1, 1, 1, 1, 144, 130, 130, 130, 136, 130, 130, 130, 130, 130, 130, 136, 130, 130, 130, 130, 132, 132, 132, 132, 132, 132, 132, 132, 132, 132, 130, 130, 136, 136, 136, 130, 130, 160, 160, 160, 160, 160, 160, 160, 160, 160, 160, 160, 160, 160, 160, 160, 160, 160, 160, 160, 160, 160, 160, 160, 160, 160, 160, 130, 130, 130, 136, 130, 136, 192, 192, 192, 192, 192, 192, 192, 192, 192, 192, 192, 192, 192, 192, 192, 192, 192, 192, 192, 192, 192, 192, 192, 192, 192, 192, 130, 136, 130, 136, 1, 1, 1, 1, 1, 1, 1, 1, 1, 1, 1, 1, 1, 1, 1, 1, 1, 1, 1, 1, 1, 1, 1, 1, 1, 1, 1, 1, 1, 1, 1, 1, 1, 16, 130, 136, 136, 136, 136, 136, 130, 136, 136, 224, 130, 136, 0, 136, 136, 136, 136, 132, 132, 136, 192, 130, 130, 136, 132, 224, 130, 132, 132, 132, 130, 160, 160, 160, 160, 160, 160, 160, 160, 160, 160, 160, 160, 160, 160, 160, 160, 160, 160, 160, 160, 160, 160, 160, 136, 160, 160, 160, 160, 160, 160, 160, 192, 192, 192, 192, 192, 192, 192, 192, 192, 192, 192, 192, 192, 192, 192, 192, 192, 192, 192, 192, 192, 192, 192, 192, 136, 192, 192, 192, 192, 192, 192, 192, 192]
set_option maxRecDepth 100000 in
theorem data_is {H : Type} : (Rows.laid_unicode_properties : DataW H) = Lib.tabData .u8 zs := rfl
theorem gP : Tryd.prog.globalNamed "unicode.properties" = some 0 := by kernel_rfl
theorem tP : (Tryd.prog.globals[0]?).map (·.type) = some 79 := by kernel_rfl
theorem c5 : Tryd.prog.cellsOf 5 = 1 := by kernel_rfl
theorem c79 : Tryd.prog.cellsOf 79 = 256 := by kernel_rfl
set_option maxRecDepth 100000 in
theorem letters : ∀ i : Nat, i < 128 → (Go.bits .and .u8 (zs.getD i 0) 96 != 0) = letC i := by decide +kernel
set_option maxRecDepth 100000 in
theorem tab {W : World} (h : Lib.TabIs Tryd.prog W "unicode.properties" .u8 zs) : TabP W := fun i hi => by
  refine ⟨zs.getD i 0, h.cell gP i ?_, letters i hi⟩
  have : zs.length = 256 := rfl
  omega
/-- Where the table stands first. -/
theorem tab_first {W : World} {rest : List (String × DataW Unit)} (h : laidMet Tryd.prog (("unicode.properties", Rows.laid_unicode_properties) :: rest) W) : TabP W := by
  rw [data_is] at h
  exact tab (Lib.tabIs_of_head gP tP Tryd.underlying79 Tryd.underlying5 c5 c79 h)
end Go.Proofs.YtknldfighehplaaDoor.HTab
