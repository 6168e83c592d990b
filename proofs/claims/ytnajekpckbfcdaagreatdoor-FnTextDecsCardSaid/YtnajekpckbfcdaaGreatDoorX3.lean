/-
  FnTextDecs: the row's closed facts, joined.
-/
import Derived.Test.YtnajekpckbfcdaaGreatDoorX2
set_option linter.unusedVariables false
set_option linter.unusedSimpArgs false
namespace Go.Proofs.YtnajekpckbfcdaaGreatDoor
open Go.RowKit

set_option maxRecDepth 100000 in
set_option maxHeartbeats 4000000 in
theorem t_joined : joinedFacts Tryz.prog 5 Tryz.f5 Rows.fnTextDecsSpec Rows.fnTextDecsRow = true := by
  unfold joinedFacts
  rw [t_inPlace, t_unfollowed, t_recurses, t_named]
  kernel_rfl

end Go.Proofs.YtnajekpckbfcdaaGreatDoor
