/-
  NormalizeCoins, backCoins, ParseCoins where each part is read.
-/
import Derived.Test.YtnajekpckbfcdaaGreatDoorN4
import Derived.Test.YtnajekpckbfcdaaGreatDoorN2
set_option linter.unusedVariables false
set_option linter.unusedSimpArgs false
namespace Go.Proofs.YtnajekpckbfcdaaGreatDoor
open Go.RowKit

/-- A coin cut to whole ones. -/
def whole (c : DC) : List UInt8 × Nat := (c.d, c.m / 1000000000000000000)
theorem DVals.append {w : World} {l l' : List DC} (h : DVals w l) (h' : DVals w l') : DVals w (l ++ l') := fun c hc => by
  rcases List.mem_append.1 hc with hc | hc
  · exact h c hc
  · exact h' c hc
theorem DVals.one {w : World} {d : List UInt8} {m p : Nat} {A : Option Addr} (h : IntV w p A m) : DVals w [⟨d, m, p⟩] := fun c hc => by
  rw [List.mem_singleton.1 hc]
  exact ⟨A, h⟩

/-- The numbers stay behind an append onto a row of coins. -/
theorem DVals.own {w w' : World} {l : List DC} {base s n : Nat} {v : Value} {xs : List Value} (h : DVals w l) (hown : w.ownsRow base 103 s v n xs) (hg : w.grownBy w' v.ownBlock) : DVals w' l := fun c hc => by
  obtain ⟨A, L, C, hb, hS⟩ := h c hc
  rcases hown.2 with ⟨rfl, _⟩ | ⟨g, cap, cur, rfl, _, hgb, _⟩
  · have hu : Upd [] w w' := ⟨hg.os, hg.tape, hg.output, hg.size, fun k hk _ => hg.block k hk (by simp [Value.ownBlock])⟩
    exact ⟨A, L, C, hb.upd hu (by simp), hS.upd hu (by simp)⟩
  · have hB : Blk w g 103 cur := hgb
    have hu : Upd [g] w w' := ⟨hg.os, hg.tape, hg.output, hg.size, fun k hk hn => hg.block k hk (by simp [Value.ownBlock]; rintro rfl; simp at hn)⟩
    have hne := hb.ne_ hB (by decide)
    refine ⟨A, L, C, hb.upd hu (by simpa using hne), hS.upd hu ?_⟩
    intro b hb' hm
    simp at hm
    subst hm
    exact hS.not_mem hB (by decide) hb'

end Go.Proofs.YtnajekpckbfcdaaGreatDoor

namespace Go.Proofs.YtnajekpckbfcdaaGreatDoor
open Go.RowKit

/-- Strictly ascending denominations. -/
def StrictC (L : List (List UInt8 × Nat)) : Prop := L.Pairwise fun x y => Op.bytesLess x.1 y.1 = true
/-- No denomination twice. -/
def Uniq (L : List (List UInt8 × Nat)) : Prop := L.Pairwise fun x y => x.1 ≠ y.1
theorem StrictC.uniq {L : List (List UInt8 × Nat)} (h : StrictC L) : Uniq L := by
  unfold StrictC at h
  unfold Uniq
  exact h.imp (fun {a b} hab e => by rw [e, less_irrefl] at hab; cases hab)
theorem Uniq.perm {L M : List (List UInt8 × Nat)} (h : L.Perm M) (hu : Uniq L) : Uniq M := by
  unfold Uniq at *
  exact (h.pairwise_iff (fun {a b} hab e => hab e.symm)).1 hu
theorem Strict.map {l : List DC} (h : Strict l) : StrictC (l.map dm) := by
  unfold StrictC
  rw [List.pairwise_map]
  exact h
theorem Asc.strict {l : List DC} (h : Asc l) (hu : Uniq (l.map dm)) : Strict l := by
  unfold Asc at h
  unfold Uniq at hu
  rw [List.pairwise_map] at hu
  unfold Strict
  refine (h.and hu).imp ?_
  rintro a b ⟨h1, h2⟩
  cases h3 : Op.bytesLess a.d b.d with
  | true => rfl
  | false => exact absurd (less_antisymm _ _ h3 h1) h2
/-- Two strictly ascending lists of the same coins are alike. -/
theorem StrictC.eq : ∀ {L M : List (List UInt8 × Nat)}, StrictC L → StrictC M → L.Perm M → L = M
  | [], M, _, _, h => by rw [List.nil_perm] at h; rw [h]
  | x :: L, [], _, _, h => by rw [List.perm_nil] at h; exact h
  | x :: L, y :: M, h1, h2, h => by
    have g1 := h1
    have g2 := h2
    unfold StrictC at h1 h2
    rw [List.pairwise_cons] at h1 h2
    have hxy : x = y := by
      have hx : x ∈ y :: M := h.mem_iff.1 (by simp)
      have hy : y ∈ x :: L := h.mem_iff.2 (by simp)
      rcases List.mem_cons.1 hx with hx | hx
      · exact hx
      rcases List.mem_cons.1 hy with hy | hy
      · exact hy.symm
      have a1 := h2.1 x hx
      have a2 := h1.1 y hy
      rw [less_asymm _ _ a1] at a2; cases a2
    subst hxy
    rw [StrictC.eq h1.2 h2.2 (List.Perm.cons_inv h)]
/-- A coin set in at its place. -/
theorem StrictC.insert {L : List (List UInt8 × Nat)} {c : List UInt8 × Nat} {k : Nat} (h : StrictC L) (hk : k ≤ L.length) (h1 : ∀ x ∈ L.take k, Op.bytesLess x.1 c.1 = true)
    (h2 : ∀ x, L[k]? = some x → Op.bytesLess x.1 c.1 = false ∧ x.1 ≠ c.1) : StrictC (L.take k ++ c :: L.drop k) := by
  have h0 := h
  rw [← List.take_append_drop k L] at h0
  unfold StrictC at h0 ⊢
  rw [List.pairwise_append] at h0 ⊢
  obtain ⟨a1, a2, a3⟩ := h0
  have hd : ∀ y ∈ L.drop k, Op.bytesLess c.1 y.1 = true := by
    intro y hy
    rcases Nat.lt_or_ge k L.length with hlt | hge
    · rw [List.drop_eq_getElem_cons hlt] at hy a2
      obtain ⟨b1, b2⟩ := h2 _ (List.getElem?_eq_getElem hlt)
      have b3 : Op.bytesLess c.1 (L[k]).1 = true := by
        cases h3 : Op.bytesLess c.1 (L[k]).1 with
        | true => rfl
        | false => exact absurd (less_antisymm _ _ b1 h3) b2
      rcases List.mem_cons.1 hy with rfl | hy
      · exact b3
      · exact less_trans _ _ _ b3 ((List.pairwise_cons.1 a2).1 y hy)
    · rw [List.drop_of_length_le hge] at hy; cases hy
  refine ⟨a1, List.pairwise_cons.2 ⟨hd, a2⟩, ?_⟩
  intro a ha b hb
  rcases List.mem_cons.1 hb with rfl | hb
  · exact h1 a ha
  · exact a3 a ha b hb
/-- What a part that is read holds. -/
theorem Part.Ok.rd_some {p : Part} (h : p.Ok) {x : List UInt8 × Nat} (hr : p.rd = some x) : p.expr = true ∧ p.amt = true ∧ x = (p.denom, dv p.digits) ∧ isDen x.1 = true ∧ x.1.length ≤ 140 ∧ x.2 < 1000000000000000000 * 1000000000000000000 := by
  unfold Part.rd at hr
  split at hr
  · rename_i hc
    rw [Bool.and_eq_true] at hc
    injection hr with hr
    subst hr
    have ha := h.amount hc.2
    have hw := h.wv
    refine ⟨hc.1, hc.2, rfl, ?_, h.d140, ?_⟩
    · have := hc.1
      unfold Part.expr at this
      rw [Bool.and_eq_true] at this
      exact this.2
    · show dv p.digits < _
      rw [ha.1]; omega
  · cases hr
/-- The parts' law: the sorted row that is strict, or a denomination twice. -/
theorem sorted_eq {l' : List DC} {N L : List (List UInt8 × Nat)} (hp : (l'.map dm).Perm N) (ha : Asc l') (hL : StrictC L) (hN : L.Perm N) : Strict l' ∧ l'.map dm = L := by
  have hu : Uniq (l'.map dm) := Uniq.perm (hN.trans hp.symm) hL.uniq
  have hs := Asc.strict ha hu
  exact ⟨hs, StrictC.eq hs.map hL (hp.trans hN.symm)⟩
end Go.Proofs.YtnajekpckbfcdaaGreatDoor

namespace Go.Proofs.YtnajekpckbfcdaaGreatDoor
open Go.RowKit

section
variable {P : Program} (w : World)
end
end Go.Proofs.YtnajekpckbfcdaaGreatDoor

namespace Go.Proofs.YtnajekpckbfcdaaGreatDoor
open Go.RowKit

theorem addr_add0 (g j : Nat) : (⟨g, 0, none⟩ : Addr).add j = ⟨g, j, none⟩ := by
  by_cases h : j = 0
  · subst h; simp [Addr.add]
  · simp [Addr.add, h]
end Go.Proofs.YtnajekpckbfcdaaGreatDoor
