/-
  FnTextCoins: the row's closed facts, joined.
-/
import Derived.Test.YtnajekpckbfcdaaGreatDoorZ2
set_option linter.unusedVariables false
set_option linter.unusedSimpArgs false
namespace Go.Proofs.YtnajekpckbfcdaaGreatDoor
open Go.RowKit

set_option maxRecDepth 100000 in
set_option maxHeartbeats 4000000 in
theorem k_joined : joinedFacts Tryz.prog 6 Tryz.f6 Rows.fnTextCoinsSpec Rows.fnTextCoinsRow = true := by
  unfold joinedFacts
  rw [k_inPlace, k_unfollowed, k_recurses, k_named]
  kernel_rfl

end Go.Proofs.YtnajekpckbfcdaaGreatDoor
