/-
  LegacyDec.String.
-/
import Derived.Test.YtnajekpckbfcdaaGreatDoorO2
import Derived.Laws.CopyOwn
import Derived.Laws.IdiomStrings
import Derived.Deep.RegionLaw
set_option linter.unusedVariables false
set_option linter.unusedSimpArgs false
namespace Go.Proofs.YtnajekpckbfcdaaGreatDoor
open Go.RowKit

theorem nd_div : ∀ (k n : Nat), nd (n / 10 ^ k) = nd n - k
  | 0, n => by simp
  | k + 1, n => by
    rw [Nat.pow_succ, Nat.mul_comm (10 ^ k) 10, ← Nat.div_div_eq_div_mul, nd_div k (n / 10)]
    by_cases h : n = 0
    · rw [h, Nat.zero_div, nd_zero]; omega
    · rw [nd_pos n h]; omega
/-- A number's text with at least so many digits. -/
def tn (n least : Nat) : List UInt8 := pd (max least (nd n)) n
theorem DigRow.row {w : World} {base n : Nat} {v : Value} (h : DigRow w base n v) (h0 : 0 < nd n) : ∃ g cap, v = .slice (some ⟨g, 0, none⟩) (nd n) cap ∧ base ≤ g ∧ nd n ≤ cap ∧ g < w.heap.size ∧ ∀ j u, (bvals (pd (nd n) n))[j]? = some u → w.cell? ⟨g, j, none⟩ = some u := by
  rcases h.2 with ⟨_, h1⟩ | ⟨g, cap, cur, rfl, hb, hg, hc, _⟩
  · omega
  · refine ⟨g, cap, rfl, hb, hc, (Array.getElem?_eq_some_iff.1 hg).1, ?_⟩
    intro j u hj
    have := h.cells (g := g) rfl j u hj
    rwa [addr_addo, Nat.zero_add] at this
theorem nd_one (n : Nat) (h : n ≠ 0) : 0 < nd n := by rw [nd_pos n h]; omega

end Go.Proofs.YtnajekpckbfcdaaGreatDoor
