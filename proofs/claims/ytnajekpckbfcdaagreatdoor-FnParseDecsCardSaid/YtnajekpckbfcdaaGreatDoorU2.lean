/-
  FnParseDecs: the row's closed facts, one by one.
-/
import Derived.Test.YtnajekpckbfcdaaGreatDoorRows
import Derived.ProofKit
import Derived.JoinedOf
set_option linter.unusedVariables false
set_option linter.unusedSimpArgs false
namespace Go.Proofs.YtnajekpckbfcdaaGreatDoor
open Go.RowKit

theorem d_inPlace : (Rows.fnParseDecsRow.inPlace == Tryz.prog.inPlace 3) = true := by kernel_rfl
theorem d_unfollowed : (Rows.fnParseDecsRow.unfollowed == Tryz.prog.unfollowed 3) = true := by kernel_rfl
theorem d_recurses : (Rows.fnParseDecsRow.recurses == Tryz.prog.recurses 3) = true := by kernel_rfl
theorem d_named : (Rows.fnParseDecsRow.named == Tryz.prog.varsNamed 3) = true := by kernel_rfl

end Go.Proofs.YtnajekpckbfcdaaGreatDoor
