/- The tables that FnTextBack's row lists: the table of properties and the table of white space; no conditions. -/
import Derived.Test.YtknldfighehplaaDoorHTab
import Derived.LaidSub
import Derived.Lib.Space
namespace Go.Proofs.YtknldfighehplaaDoor.HTabT
set_option linter.unusedSimpArgs false
set_option linter.unusedVariables false
open Go.RowKit Go.Proofs.YtknldfighehplaaDoor.HTabP Go.Proofs.YtknldfighehplaaDoor.HTab
theorem pick_props : Rows.fnTextBackRow.laid.filter (fun x => x.1 == "unicode.properties") = [("unicode.properties", Rows.laid_unicode_properties)] := rfl
theorem pick_spaces : Rows.fnTextBackRow.laid.filter (fun x => x.1 == "strings.asciiSpace") = [("strings.asciiSpace", Rows.laid_strings_asciiSpace)] := rfl
theorem props {W : World} (h : laidMet Tryd.prog Rows.fnTextBackRow.laid W) : TabP W := by
  have h2 := h.filter (fun x => x.1 == "unicode.properties")
  rw [pick_props] at h2
  exact tab_first h2
set_option maxRecDepth 100000 in
theorem data_s {H : Type} : (Rows.laid_strings_asciiSpace : DataW H) = Lib.tabData .u8 Lib.asciiSpaceTab := rfl
theorem gS : Tryd.prog.globalNamed "strings.asciiSpace" = some 3 := by kernel_rfl
theorem tS : (Tryd.prog.globals[3]?).map (·.type) = some 79 := by kernel_rfl
theorem spaces {W : World} (h : laidMet Tryd.prog Rows.fnTextBackRow.laid W) : Lib.TabIs Tryd.prog W "strings.asciiSpace" .u8 Lib.asciiSpaceTab := by
  have h2 := h.filter (fun x => x.1 == "strings.asciiSpace")
  rw [pick_spaces, data_s] at h2
  exact Lib.tabIs_of_head gS tS Tryd.underlying79 Tryd.underlying5 c5 c79 h2
end Go.Proofs.YtknldfighehplaaDoor.HTabT
