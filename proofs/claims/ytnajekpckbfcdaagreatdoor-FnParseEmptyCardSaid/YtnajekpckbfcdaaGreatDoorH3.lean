/-
  FnParseEmpty: the row's closed facts, joined.
-/
import Derived.Test.YtnajekpckbfcdaaGreatDoorH2
set_option linter.unusedVariables false
set_option linter.unusedSimpArgs false
namespace Go.Proofs.YtnajekpckbfcdaaGreatDoor
open Go.RowKit

set_option maxRecDepth 100000 in
set_option maxHeartbeats 4000000 in
theorem e_joined : joinedFacts Tryz.prog 4 Tryz.f4 Rows.fnParseEmptySpec Rows.fnParseEmptyRow = true := by
  unfold joinedFacts
  rw [e_inPlace, e_unfollowed, e_recurses, e_named]
  kernel_rfl

end Go.Proofs.YtnajekpckbfcdaaGreatDoor
