/-
  FnTextDecs: the row's closed facts, one by one.
-/
import Derived.Test.YtnajekpckbfcdaaGreatDoorRows
import Derived.ProofKit
import Derived.JoinedOf
set_option linter.unusedVariables false
set_option linter.unusedSimpArgs false
namespace Go.Proofs.YtnajekpckbfcdaaGreatDoor
open Go.RowKit

theorem t_inPlace : (Rows.fnTextDecsRow.inPlace == Tryz.prog.inPlace 5) = true := by kernel_rfl
theorem t_unfollowed : (Rows.fnTextDecsRow.unfollowed == Tryz.prog.unfollowed 5) = true := by kernel_rfl
theorem t_recurses : (Rows.fnTextDecsRow.recurses == Tryz.prog.recurses 5) = true := by kernel_rfl
theorem t_named : (Rows.fnTextDecsRow.named == Tryz.prog.varsNamed 5) = true := by kernel_rfl

end Go.Proofs.YtnajekpckbfcdaaGreatDoor
