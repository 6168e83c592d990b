/-
  FnTextDecs: decimal coins that are right are written with all 18 digits behind the point, and read back as they were, for every input; no condition but that the package-level variables which the row lists read as the program's text lays them (the card ties them).
-/
import Derived.Test.YtnajekpckbfcdaaGreatDoorX3
import Derived.Test.YtnajekpckbfcdaaGreatDoorX4
import Derived.Test.YtnajekpckbfcdaaGreatDoorTie
import Derived.Test.YtnajekpckbfcdaaGreatDoorCards
import Derived.SevenTiedAt
set_option linter.unusedVariables false
set_option linter.unusedSimpArgs false
namespace Go.Proofs.YtnajekpckbfcdaaGreatDoor
open Go.RowKit

theorem fnTextDecs_said : Rows.FnTextDecsSaid :=
  OpenClaim.holds_of_wide 5 Tryz.f5 rfl rfl rfl rfl rfl rfl rfl ⟨rfl, rfl, rfl, rfl, rfl⟩ rfl rfl rfl rfl rfl (by kernel_rfl) Tryz.func5 t_joined
    (of_decide_eq_true (by kernel_rfl)) (by unfold Func.isWrapper; first | (rw [if_pos (by decide +kernel)]; kernel_rfl) | (rw [if_neg (by decide +kernel)]; exact ⟨rfl, rfl⟩))
    (fun os started H enc _ => textDecs_lifted os started H enc)

theorem fnTextDecs_card : Rows.FnTextDecsCardSaid :=
  Claim7.holds_tied_plain_at .later [] [.data, .data, .sentinel, .sentinel, .sentinel, .data, .data, .data, .data, .data, .sentinel, .sentinel, .sentinel] true (true, "529803a9cc0df5f65b77e8f4aa3765fb16e1c7ba67c527308cfc0e6a9c635b7d") true
    fnTextDecs_said (fun _ h => by cases h) (by kernel_rfl) (fun _ h => by cases h) fnTextDecs_row_tie rfl ⟨rfl, rfl⟩ (by kernel_rfl) rfl
    (fun f fn hf hfn => by
      obtain rfl : f = 5 := Option.some.inj ((show Tryz.prog.funcNamed "pub-doubloon/laws.FnTextDecs" = some 5 by kernel_rfl).symm.trans hf) |>.symm
      obtain rfl : fn = Tryz.f5 := (Option.some.inj (Tryz.func5.symm.trans hfn)).symm
      exact ⟨by kernel_rfl, fun j t ht => by
        rw [Tryz.params5] at ht
        have h5 : t = 28 := by
          rcases j with _ | j
          · simpa using ht.symm
          · simp at ht
        subst h5
        exact (show Tryz.prog.wantsStandIn 28 = false by kernel_rfl)⟩)
    (by kernel_rfl)
#print axioms fnTextDecs_card

end Go.Proofs.YtnajekpckbfcdaaGreatDoor
