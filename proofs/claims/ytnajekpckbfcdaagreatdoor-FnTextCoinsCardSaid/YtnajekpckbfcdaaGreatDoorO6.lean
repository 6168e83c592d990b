/-
  FnTextDecs: the walk.
-/
import Derived.Test.YtnajekpckbfcdaaGreatDoorO4
import Derived.Test.YtnajekpckbfcdaaGreatDoorO5
import Derived.Test.YtnajekpckbfcdaaGreatDoorN7
import Derived.Test.YtnajekpckbfcdaaGreatDoorM16
set_option linter.unusedVariables false
set_option linter.unusedSimpArgs false
namespace Go.Proofs.YtnajekpckbfcdaaGreatDoor
open Go.RowKit

theorem isLe_range {c : UInt8} (h : isLe c = true) : (97 ≤ c.toNat ∧ c.toNat ≤ 122) ∨ (65 ≤ c.toNat ∧ c.toNat ≤ 90) := by
  unfold isLe at h
  simp only [Bool.or_eq_true, Bool.and_eq_true, decide_eq_true_eq] at h
  exact h
theorem isOt_range {c : UInt8} (h : isOt c = true) : 32 < c.toNat ∧ c.toNat ≤ 126 ∧ c ≠ 44 := by
  unfold isOt at h
  simp only [Bool.or_eq_true] at h
  rcases h with (((((h | h) | h) | h) | h) | h) | h
  · have := isLe_range h
    refine ⟨by omega, by omega, ?_⟩
    rintro rfl
    simp at this
  · have := (isDg_iff c).1 h
    refine ⟨by omega, by omega, ?_⟩
    rintro rfl
    simp at this
  all_goals (have := eq_of_beq h; subst this; decide)
theorem tn_dg (n m : Nat) : ∀ x ∈ tn n m, isDg x = true := pd_dg _ _
theorem tn_dv (n m : Nat) : dv (tn n m) = n := by
  unfold tn
  rw [pd_dv]
  exact Nat.mod_eq_of_lt (Nat.lt_of_lt_of_le (nd_lt n) (Nat.pow_le_pow_right (by decide) (by omega)))
theorem tn_len1 (n k : Nat) (h : n < 10 ^ k) (hk : 1 ≤ k) : 1 ≤ (tn n 1).length ∧ (tn n 1).length ≤ k := by
  have := nd_le k n h
  unfold tn
  rw [pd_len]
  omega
theorem den_parts {d : List UInt8} (h : isDen d = true) : d.length ≤ 128 ∧ (∀ x ∈ d, isOt x = true) ∧ ∃ c r, d = c :: r ∧ isLe c = true := by
  unfold isDen at h
  simp only [Bool.and_eq_true, decide_eq_true_eq] at h
  obtain ⟨⟨⟨h1, h2⟩, h3⟩, h4⟩ := h
  refine ⟨h2, List.all_eq_true.1 h4, ?_⟩
  cases d with
  | nil => simp at h1
  | cons c r => exact ⟨c, r, rfl, h3⟩
/-- A number, perhaps with parts behind a point, and a denomination: right as a part. -/
theorem plain_ok {W F d : List UInt8} {pt : Bool} (hd : isDen d = true) (hW : ∀ x ∈ W, isDg x = true) (hF : ∀ x ∈ F, isDg x = true) (hWl : W.length ≤ 25) (hFl : F.length ≤ 30) (hv : dv W < 1000000000000000000) (hp : pt = false → F = []) :
    Part.Ok ⟨[], W, pt, F, [], d, []⟩ := by
  obtain ⟨h1, h2, c, r, rfl, h3⟩ := den_parts hd
  refine ⟨by simp, by simp, by simp, by simp, by simp, by simp, hWl, hW, hv, hFl, hF, hp, (by show (c :: r).length ≤ 140; omega), fun x hx => isOt_range (h2 x hx), ?_⟩
  intro c' hc'
  simp at hc'
  subst hc'
  have := isLe_range h3
  constructor
  · cases hh : isDg c with
    | false => rfl
    | true => have := (isDg_iff c).1 hh; omega
  · rintro rfl
    simp at this

/-- Coins that are right, as they are read. -/
def toC (x : XC) : List UInt8 × Nat := (x.d, x.a.toNat * 1000000000000000000 + x.b.toNat)
theorem icells_toC : ∀ L : List XC, (∀ x ∈ L, x.Ok) → icells L = xcells (L.map toC)
  | [], _ => rfl
  | x :: r, h => by
    obtain ⟨_, h1, h2, h3, h4, _⟩ := h x (by simp)
    show _ :: _ :: _ :: icells r = _ :: _ :: _ :: xcells (r.map toC)
    rw [icells_toC r (fun y hy => h y (List.mem_cons_of_mem _ hy))]
    have e1 : ((((toC x).2 / 1000000000000000000 : Nat)) : Int) = x.a := by unfold toC; dsimp only; omega
    have e2 : ((((toC x).2 % 1000000000000000000 : Nat)) : Int) = x.b := by unfold toC; dsimp only; omega
    rw [e1, e2]
    rfl
theorem toC_ok {x : XC} (h : x.Ok) : isDen (toC x).1 = true ∧ (toC x).2 ≠ 0 ∧ (toC x).2 < 10 ^ 36 ∧ (toC x).2 / 1000000000000000000 = x.a.toNat ∧ (toC x).2 % 1000000000000000000 = x.b.toNat := by
  obtain ⟨h0, h1, h2, h3, h4, h5⟩ := h
  refine ⟨h0, ?_, ?_, ?_, ?_⟩
  · unfold toC; dsimp only; omega
  · have : (toC x).2 < 1000000000000000000 * 1000000000000000000 := by unfold toC; dsimp only; omega
    exact Nat.lt_of_lt_of_le this (by decide)
  · unfold toC; dsimp only; omega
  · unfold toC; dsimp only; omega
theorem strictC_of : ∀ L : List (List UInt8 × Nat), (∀ (k : Nat) (h : k + 1 < L.length), Op.bytesLess L[k].1 L[k + 1].1 = true) → StrictC L
  | [], _ => List.Pairwise.nil
  | [x], _ => List.pairwise_singleton _ _
  | x :: y :: r, h => by
    have ih : StrictC (y :: r) := strictC_of (y :: r) (fun k hk => h (k + 1) (by simpa using hk))
    have h0 := h 0 (by simp)
    refine List.Pairwise.cons ?_ ih
    intro z hz
    rcases List.mem_cons.1 hz with rfl | hz
    · exact h0
    · exact less_trans _ _ _ h0 (List.rel_of_pairwise_cons ih hz)
theorem XOk.strict {L : List XC} (h : XOk L) : StrictC (L.map toC) := strictC_of _ (fun k hk => by
  have := h.2 k (by simpa using hk)
  simpa [toC] using this)

end Go.Proofs.YtnajekpckbfcdaaGreatDoor

namespace Go.Proofs.YtnajekpckbfcdaaGreatDoor
open Go.RowKit

theorem RdS.of_own {w : World} {base n : Nat} {e : TypeId} {v : Value} {xs : List Value} (h : w.ownsRow base e 3 v n xs) : ∃ A c, v = .slice A n c ∧ n ≤ c ∧ RdS w A n xs := by
  rcases Nat.eq_zero_or_pos n with h0 | h0
  · obtain ⟨a, c, rfl, hc⟩ := own_slice h
    exact ⟨a, c, rfl, hc, fun h' => by omega⟩
  · obtain ⟨g, cap, rfl, _, hc, hcells⟩ := own_cells h h0
    exact ⟨_, _, rfl, hc, fun _ => ⟨_, rfl, fun j u hj => by rw [addr_add0]; exact hcells j u hj⟩⟩
theorem Leaf.grow {w w' : World} (h : Leaf w) (hu : Upd [] w w') : Leaf w' := (hu.cell (p := ⟨12, 0, none⟩) (lt_of_cell h) (by simp)).trans h

end Go.Proofs.YtnajekpckbfcdaaGreatDoor
