/-
  Quo, Truncate, TruncateDecimal.
-/
import Derived.Test.YtnajekpckbfcdaaGreatDoorM16
set_option linter.unusedVariables false
set_option linter.unusedSimpArgs false
namespace Go.Proofs.YtnajekpckbfcdaaGreatDoor
open Go.RowKit

end Go.Proofs.YtnajekpckbfcdaaGreatDoor

namespace Go.Proofs.YtnajekpckbfcdaaGreatDoor
open Go.RowKit

theorem n_ptr83_nil (w : World) (b : Nat) : (binOp .eql 83 (.pointer (some ⟨b, 0, none⟩)) (.pointer none)).run Tryz.prog w = .ok (.bool false) w := by kernel_rfl

end Go.Proofs.YtnajekpckbfcdaaGreatDoor

namespace Go.Proofs.YtnajekpckbfcdaaGreatDoor
open Go.RowKit

end Go.Proofs.YtnajekpckbfcdaaGreatDoor
