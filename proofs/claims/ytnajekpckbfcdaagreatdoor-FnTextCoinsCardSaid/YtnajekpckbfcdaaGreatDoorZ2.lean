/-
  FnTextCoins: the row's closed facts, one by one.
-/
import Derived.Test.YtnajekpckbfcdaaGreatDoorRows
import Derived.ProofKit
import Derived.JoinedOf
set_option linter.unusedVariables false
set_option linter.unusedSimpArgs false
namespace Go.Proofs.YtnajekpckbfcdaaGreatDoor
open Go.RowKit

theorem k_inPlace : (Rows.fnTextCoinsRow.inPlace == Tryz.prog.inPlace 6) = true := by kernel_rfl
theorem k_unfollowed : (Rows.fnTextCoinsRow.unfollowed == Tryz.prog.unfollowed 6) = true := by kernel_rfl
theorem k_recurses : (Rows.fnTextCoinsRow.recurses == Tryz.prog.recurses 6) = true := by kernel_rfl
theorem k_named : (Rows.fnTextCoinsRow.named == Tryz.prog.varsNamed 6) = true := by kernel_rfl

end Go.Proofs.YtnajekpckbfcdaaGreatDoor
