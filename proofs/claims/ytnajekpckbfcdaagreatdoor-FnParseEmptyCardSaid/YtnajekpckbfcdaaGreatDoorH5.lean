/-
  FnParseEmpty: blanks alone are read as no coins, and a list with an empty part is refused, for every input; no condition but that the package-level variables which the row lists read as the program's text lays them (the card ties them).
-/
import Derived.Test.YtnajekpckbfcdaaGreatDoorH3
import Derived.Test.YtnajekpckbfcdaaGreatDoorH4
import Derived.Test.YtnajekpckbfcdaaGreatDoorTie
import Derived.Test.YtnajekpckbfcdaaGreatDoorCards
import Derived.SevenTiedAt
set_option linter.unusedVariables false
set_option linter.unusedSimpArgs false
namespace Go.Proofs.YtnajekpckbfcdaaGreatDoor
open Go.RowKit

theorem fnParseEmpty_said : Rows.FnParseEmptySaid :=
  OpenClaim.holds_of_wide 4 Tryz.f4 rfl rfl rfl rfl rfl rfl rfl ⟨rfl, rfl, rfl, rfl, rfl⟩ rfl rfl rfl rfl rfl (by kernel_rfl) Tryz.func4 e_joined
    (of_decide_eq_true (by kernel_rfl)) (by unfold Func.isWrapper; first | (rw [if_pos (by decide +kernel)]; kernel_rfl) | (rw [if_neg (by decide +kernel)]; exact ⟨rfl, rfl⟩))
    (fun os started H enc _ => empty_lifted os started H enc)

theorem fnParseEmpty_card : Rows.FnParseEmptyCardSaid :=
  Claim7.holds_tied_plain_at .later [] [.data, .data, .sentinel, .sentinel, .sentinel, .data, .data, .data, .data, .sentinel, .sentinel, .sentinel] true (true, "529803a9cc0df5f65b77e8f4aa3765fb16e1c7ba67c527308cfc0e6a9c635b7d") true
    fnParseEmpty_said (fun _ h => by cases h) (by kernel_rfl) (fun _ h => by cases h) fnParseEmpty_row_tie rfl ⟨rfl, rfl⟩ (by kernel_rfl) rfl
    (fun f fn hf hfn => by
      obtain rfl : f = 4 := Option.some.inj ((show Tryz.prog.funcNamed "pub-doubloon/laws.FnParseEmpty" = some 4 by kernel_rfl).symm.trans hf) |>.symm
      obtain rfl : fn = Tryz.f4 := (Option.some.inj (Tryz.func4.symm.trans hfn)).symm
      exact ⟨by kernel_rfl, fun j t ht => by
        rw [Tryz.params4] at ht
        have h3 : t = 22 ∨ t = 5 := by
          rcases j with _ | _ | _ | j
          · left; simpa using ht.symm
          · right; simpa using ht.symm
          · right; simpa using ht.symm
          · simp at ht
        rcases h3 with rfl | rfl
        · exact (show Tryz.prog.wantsStandIn 22 = false by kernel_rfl)
        · exact (show Tryz.prog.wantsStandIn 5 = false by kernel_rfl)⟩)
    (by kernel_rfl)
#print axioms fnParseEmpty_card

end Go.Proofs.YtnajekpckbfcdaaGreatDoor
