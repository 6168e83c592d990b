/-
  FnParseDecs: the row's closed facts, joined.
-/
import Derived.Test.YtnajekpckbfcdaaGreatDoorU2
set_option linter.unusedVariables false
set_option linter.unusedSimpArgs false
namespace Go.Proofs.YtnajekpckbfcdaaGreatDoor
open Go.RowKit

set_option maxRecDepth 100000 in
set_option maxHeartbeats 4000000 in
theorem d_joined : joinedFacts Tryz.prog 3 Tryz.f3 Rows.fnParseDecsSpec Rows.fnParseDecsRow = true := by
  unfold joinedFacts
  rw [d_inPlace, d_unfollowed, d_recurses, d_named]
  kernel_rfl

end Go.Proofs.YtnajekpckbfcdaaGreatDoor
