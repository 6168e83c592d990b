/-
  The specification: TextList.
-/
import Derived.Test.YtnajekpckbfcdaaGreatDoorN6
import Derived.Test.YtnajekpckbfcdaaGreatDoorN5
import Derived.Deep.RegionHeld3
set_option linter.unusedVariables false
set_option linter.unusedSimpArgs false
namespace Go.Proofs.YtnajekpckbfcdaaGreatDoor
open Go.RowKit Go.Proofs.YtnajekpckbfcdaaGreatDoorW.PrintWords Go.Proofs.YtnajekpckbfcdaaGreatDoor.PFnParseDecs

theorem info46 : (Tryz.prog.info? 46).map (fun i => (i.zero, i.size, i.bytes)) = some (some (.agg #[.string ⟨#[]⟩, .int .i64 0, .int .i64 0]), 3, 32) := by kernel_rfl

section
variable {P : Program} (w : World)
end

theorem Upd.grown {w w' w'' : World} {row : Option Nat} (hu : Upd [] w w') (hg : w'.grownBy w'' row) (hr : ∀ k, row = some k → w.heap.size ≤ k) : Upd [] w w'' :=
  ⟨hg.os.trans hu.os, hg.tape.trans hu.tape, hg.output.trans hu.output, Nat.le_trans hu.size hg.size, fun k hk hn => (hg.block k (Nat.lt_of_lt_of_le hk hu.size) (fun e => by have := hr k e.symm; omega)).trans (hu.block k hk hn)⟩

end Go.Proofs.YtnajekpckbfcdaaGreatDoor
