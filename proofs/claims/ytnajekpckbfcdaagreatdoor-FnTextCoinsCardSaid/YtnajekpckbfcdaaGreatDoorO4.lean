/-
  decCoins, DecCoins.String, DecTextOf.
-/
import Derived.Test.YtnajekpckbfcdaaGreatDoorO3
import Derived.Test.YtnajekpckbfcdaaGreatDoorN3
import Derived.Test.YtnajekpckbfcdaaGreatDoorN6
import Derived.Test.YtnajekpckbfcdaaGreatDoorM16
set_option linter.unusedVariables false
set_option linter.unusedSimpArgs false
namespace Go.Proofs.YtnajekpckbfcdaaGreatDoor
open Go.RowKit

/-- What decCoin hands back. -/
def CoinRes (w : World) (d : List UInt8) (m : Nat) (e : Ending) (w' : World) : Prop :=
  ∃ p A, e = .returned (CV (bs d) p) ∧ IntV w' p A m ∧ Upd [] w w'
end Go.Proofs.YtnajekpckbfcdaaGreatDoor

namespace Go.Proofs.YtnajekpckbfcdaaGreatDoor
open Go.RowKit

theorem addr_field (ad : Addr) (m j : Nat) (hj : 0 < j) : ad.add (m + j) = ⟨(ad.add m).block, (ad.add m).off + j, none⟩ := by
  unfold Addr.add
  by_cases hm : m = 0
  · subst hm
    simp [Nat.ne_of_gt hj]
  · rw [if_neg (by omega), if_neg hm]
    simp; omega
/-- A slice that shows such cells. -/
def RdS (w : World) (A : Option Addr) (n : Nat) (xs : List Value) : Prop := 0 < n → ∃ a, A = some a ∧ ∀ j u, xs[j]? = some u → w.cell? (a.add j) = some u
theorem RdS.grow {w w' : World} {A : Option Addr} {n : Nat} {xs : List Value} (h : RdS w A n xs) (hu : Upd [] w w') : RdS w' A n xs := fun h0 => by
  obtain ⟨a, h1, h3⟩ := h h0
  exact ⟨a, h1, fun j u hj => (hu.cell (lt_of_cell (h3 j u hj)) (by simp)).trans (h3 j u hj)⟩
/-- Three cells that stand side by side. -/
theorem RdS.at3 {w : World} {A : Option Addr} {n : Nat} {xs : List Value} (h : RdS w A n xs) (h0 : 0 < n) {k : Nat} {u v x : Value} (e0 : xs[k * 3]? = some u) (e1 : xs[k * 3 + 1]? = some v) (e2 : xs[k * 3 + 2]? = some x) :
    ∃ a, A = some a ∧ w.cell? (a.add (k * 3)) = some u ∧ w.cell? ⟨(a.add (k * 3)).block, (a.add (k * 3)).off + 1, none⟩ = some v ∧ w.cell? ⟨(a.add (k * 3)).block, (a.add (k * 3)).off + 2, none⟩ = some x := by
  obtain ⟨a, h1, h3⟩ := h h0
  exact ⟨a, h1, h3 _ _ e0, by rw [← addr_field _ _ 1 (by omega)]; exact h3 _ _ e1, by rw [← addr_field _ _ 2 (by omega)]; exact h3 _ _ e2⟩

end Go.Proofs.YtnajekpckbfcdaaGreatDoor

namespace Go.Proofs.YtnajekpckbfcdaaGreatDoor
open Go.RowKit

/-- Texts, each with a comma behind it. -/
def ends : List (List UInt8) → List UInt8
  | [] => []
  | x :: r => x ++ 44 :: ends r
theorem ends_snoc (x : List UInt8) : ∀ l : List (List UInt8), ends (l ++ [x]) = ends l ++ (x ++ [44])
  | [] => by simp [ends]
  | y :: r => by
    show y ++ 44 :: ends (r ++ [x]) = (y ++ 44 :: ends r) ++ (x ++ [44])
    rw [ends_snoc x r]; simp
theorem ends_join : ∀ l : List (List UInt8), l ≠ [] → ends l = joinC 44 l ++ [44]
  | [], h => absurd rfl h
  | [x], _ => rfl
  | x :: y :: r, _ => by
    show x ++ 44 :: ends (y :: r) = (x ++ 44 :: joinC 44 (y :: r)) ++ [44]
    rw [ends_join (y :: r) (by simp)]; simp
theorem ends_len (m : Nat) : ∀ ls : List (List UInt8), (∀ l ∈ ls, l.length ≤ m) → (ends ls).length ≤ (m + 1) * ls.length
  | [], _ => by simp [ends]
  | x :: r, h => by
    have h1 := h x (by simp)
    have h2 := ends_len m r (fun l hl => h l (List.mem_cons_of_mem _ hl))
    show (x ++ 44 :: ends r).length ≤ _
    simp only [List.length_append, List.length_cons, Nat.mul_add, Nat.mul_one] at h2 ⊢
    omega
end Go.Proofs.YtnajekpckbfcdaaGreatDoor
