/-
  FnParseEmpty: the row's closed facts, one by one.
-/
import Derived.Test.YtnajekpckbfcdaaGreatDoorRows
import Derived.ProofKit
import Derived.JoinedOf
set_option linter.unusedVariables false
set_option linter.unusedSimpArgs false
namespace Go.Proofs.YtnajekpckbfcdaaGreatDoor
open Go.RowKit

theorem e_inPlace : (Rows.fnParseEmptyRow.inPlace == Tryz.prog.inPlace 4) = true := by kernel_rfl
theorem e_unfollowed : (Rows.fnParseEmptyRow.unfollowed == Tryz.prog.unfollowed 4) = true := by kernel_rfl
theorem e_recurses : (Rows.fnParseEmptyRow.recurses == Tryz.prog.recurses 4) = true := by kernel_rfl
theorem e_named : (Rows.fnParseEmptyRow.named == Tryz.prog.varsNamed 4) = true := by kernel_rfl

end Go.Proofs.YtnajekpckbfcdaaGreatDoor
