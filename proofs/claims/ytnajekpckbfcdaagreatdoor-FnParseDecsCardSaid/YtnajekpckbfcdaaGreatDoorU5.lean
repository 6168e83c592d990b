/-
  FnParseDecs: a list of coins with commas between is read without those of 0, in the order of their denominations, or refused where one is not read or a denomination stands twice, for every input; no condition but that the package-level variables which the row lists read as the program's text lays them (the card ties them).
-/
import Derived.Test.YtnajekpckbfcdaaGreatDoorU3
import Derived.Test.YtnajekpckbfcdaaGreatDoorU4
import Derived.Test.YtnajekpckbfcdaaGreatDoorTie
import Derived.Test.YtnajekpckbfcdaaGreatDoorCards
import Derived.SevenTiedAt
set_option linter.unusedVariables false
set_option linter.unusedSimpArgs false
namespace Go.Proofs.YtnajekpckbfcdaaGreatDoor
open Go.RowKit

theorem fnParseDecs_said : Rows.FnParseDecsSaid :=
  OpenClaim.holds_of_wide 3 Tryz.f3 rfl rfl rfl rfl rfl rfl rfl ⟨rfl, rfl, rfl, rfl, rfl⟩ rfl rfl rfl rfl rfl (by kernel_rfl) Tryz.func3 d_joined
    (of_decide_eq_true (by kernel_rfl)) (by unfold Func.isWrapper; first | (rw [if_pos (by decide +kernel)]; kernel_rfl) | (rw [if_neg (by decide +kernel)]; exact ⟨rfl, rfl⟩))
    (fun os started H enc _ => decs_lifted os started H enc)

theorem fnParseDecs_card : Rows.FnParseDecsCardSaid :=
  Claim7.holds_tied_plain_at .later [] [.data, .data, .sentinel, .sentinel, .sentinel, .data, .data, .data, .data, .sentinel, .sentinel, .sentinel] true (true, "529803a9cc0df5f65b77e8f4aa3765fb16e1c7ba67c527308cfc0e6a9c635b7d") true
    fnParseDecs_said (fun _ h => by cases h) (by kernel_rfl) (fun _ h => by cases h) fnParseDecs_row_tie rfl ⟨rfl, rfl⟩ (by kernel_rfl) rfl
    (fun f fn hf hfn => by
      obtain rfl : f = 3 := Option.some.inj ((show Tryz.prog.funcNamed "pub-doubloon/laws.FnParseDecs" = some 3 by kernel_rfl).symm.trans hf) |>.symm
      obtain rfl : fn = Tryz.f3 := (Option.some.inj (Tryz.func3.symm.trans hfn)).symm
      exact ⟨by kernel_rfl, fun j t ht => by
        rw [Tryz.params3] at ht
        have h3 : t = 22 := by
          rcases j with _ | j
          · simpa using ht.symm
          · simp at ht
        subst h3
        exact (show Tryz.prog.wantsStandIn 22 = false by kernel_rfl)⟩)
    (by kernel_rfl)
#print axioms fnParseDecs_card

end Go.Proofs.YtnajekpckbfcdaaGreatDoor
