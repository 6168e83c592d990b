/-
  FnTextCoins: coins that are right are written with their amounts ahead and commas between, and read back as they were, for every input; no condition but that the package-level variables which the row lists read as the program's text lays them (the card ties them).
-/
import Derived.Test.YtnajekpckbfcdaaGreatDoorZ3
import Derived.Test.YtnajekpckbfcdaaGreatDoorZ4
import Derived.Test.YtnajekpckbfcdaaGreatDoorTie
import Derived.Test.YtnajekpckbfcdaaGreatDoorCards
import Derived.SevenTiedAt
set_option linter.unusedVariables false
set_option linter.unusedSimpArgs false
namespace Go.Proofs.YtnajekpckbfcdaaGreatDoor
open Go.RowKit

theorem fnTextCoins_said : Rows.FnTextCoinsSaid :=
  OpenClaim.holds_of_wide 6 Tryz.f6 rfl rfl rfl rfl rfl rfl rfl ⟨rfl, rfl, rfl, rfl, rfl⟩ rfl rfl rfl rfl rfl (by kernel_rfl) Tryz.func6 k_joined
    (of_decide_eq_true (by kernel_rfl)) (by unfold Func.isWrapper; first | (rw [if_pos (by decide +kernel)]; kernel_rfl) | (rw [if_neg (by decide +kernel)]; exact ⟨rfl, rfl⟩))
    (fun os started H enc _ => textCoins_lifted os started H enc)

theorem fnTextCoins_card : Rows.FnTextCoinsCardSaid :=
  Claim7.holds_tied_plain_at .later [] [.data, .data, .sentinel, .sentinel, .sentinel, .data, .data, .data, .data, .data, .sentinel, .sentinel, .sentinel] true (true, "529803a9cc0df5f65b77e8f4aa3765fb16e1c7ba67c527308cfc0e6a9c635b7d") true
    fnTextCoins_said (fun _ h => by cases h) (by kernel_rfl) (fun _ h => by cases h) fnTextCoins_row_tie rfl ⟨rfl, rfl⟩ (by kernel_rfl) rfl
    (fun f fn hf hfn => by
      obtain rfl : f = 6 := Option.some.inj ((show Tryz.prog.funcNamed "pub-doubloon/laws.FnTextCoins" = some 6 by kernel_rfl).symm.trans hf) |>.symm
      obtain rfl : fn = Tryz.f6 := (Option.some.inj (Tryz.func6.symm.trans hfn)).symm
      exact ⟨by kernel_rfl, fun j t ht => by
        rw [Tryz.params6] at ht
        have h6 : t = 31 := by
          rcases j with _ | j
          · simpa using ht.symm
          · simp at ht
        subst h6
        exact (show Tryz.prog.wantsStandIn 31 = false by kernel_rfl)⟩)
    (by kernel_rfl)
#print axioms fnTextCoins_card

end Go.Proofs.YtnajekpckbfcdaaGreatDoor
