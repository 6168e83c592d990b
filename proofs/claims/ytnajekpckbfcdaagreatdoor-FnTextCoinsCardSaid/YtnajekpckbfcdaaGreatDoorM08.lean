/-
  Int: Mul, Exp, QuoRem.
-/
import Derived.Test.YtnajekpckbfcdaaGreatDoorM01
import Derived.StillTailTactics
import Derived.Test.YtnajekpckbfcdaaGreatDoorM02
import Derived.Test.YtnajekpckbfcdaaGreatDoorM07
set_option linter.unusedVariables false
set_option linter.unusedSimpArgs false
namespace Go.Proofs.YtnajekpckbfcdaaGreatDoor
open Go

section
variable {P : Program} {ops : Array Oper} {md : Region.Mode} {w : World}

/-- Every operation from number m to n is waited for, by one behind it that lies no later than number n. -/
def sinkFrom (md : Region.Mode) (ops : Array Oper) (m n : Nat) : Bool :=
  (List.range n).all fun i => decide (i < m) || (List.range (n + 1)).any fun j => decide (i < j) && Region.waitsFor md ops j i
/-- Every operation behind number n waits for one that lies between. -/
def chainX (md : Region.Mode) (ops : Array Oper) (n : Nat) : Bool :=
  (List.range ops.size).all fun t => decide (t ≤ n) || (List.range t).any fun j => decide (n ≤ j) && Region.waitsFor md ops t j
/-- The first m operations are plain moves. -/
def movesB (ops : Array Oper) (m : Nat) : Bool :=
  (List.range m).all fun i => match ops[i]? with
    | some o => o.guard.isNone && (match o.op with | .move _ => true | _ => false)
    | none => false

theorem tail_kept {m n : Nat} {listed : Array Bool} (hs : sinkFrom md ops m n = true) (hc : chainX md ops n = true) (hn : n < ops.size) (inv : HeadInv md ops n listed) :
    ∀ (d i : Nat), n - i = d → m ≤ i → i < n → listed.getD i true = false → ∀ t, n ≤ t → t ∉ Region.ready md ops listed := by
  intro d
  induction d using Nat.strongRecOn with
  | _ d ih =>
    intro i hd hmi hi hun t ht hr
    obtain ⟨_, ot, hot, hall⟩ := mem_ready.1 hr
    have htlt : t < ops.size := (Array.getElem?_eq_some_iff.1 hot).1
    rcases Nat.lt_or_ge n t with htn | htn
    · have h1 := List.all_eq_true.1 hc t (List.mem_range.2 htlt)
      rw [decide_eq_false (by omega), Bool.false_or] at h1
      obtain ⟨j, hj, hj2⟩ := List.any_eq_true.1 h1
      rw [Bool.and_eq_true, decide_eq_true_eq] at hj2
      have hjt := List.mem_range.1 hj
      obtain ⟨o', ho', e, he, hb, hon⟩ := Region.waitsFor_spec hj2.2
      cases Option.some.inj (ho'.symm.trans hot)
      have h2 := hall e he hb
      rw [hon, getD_both (inv.tail j (by omega) (by omega))] at h2
      cases h2
    · obtain rfl : t = n := by omega
      have h1 := List.all_eq_true.1 hs i (List.mem_range.2 hi)
      rw [decide_eq_false (by omega), Bool.false_or] at h1
      obtain ⟨j, hj, hj2⟩ := List.any_eq_true.1 h1
      rw [Bool.and_eq_true, decide_eq_true_eq] at hj2
      have hjle := List.mem_range.1 hj
      obtain ⟨oj, hoj, e, he, hb, hon⟩ := Region.waitsFor_spec hj2.2
      by_cases hjt : j = t
      · subst hjt
        cases Option.some.inj (hoj.symm.trans hot)
        have h2 := hall e he hb
        rw [hon, getD_both hun] at h2
        cases h2
      · cases hl : listed.getD j false with
        | true =>
          have h2 := inv.closed j oj hoj hl e he hb
          rw [hon, getD_both hun] at h2
          cases h2
        | false => exact ih (t - j) (by omega) j rfl (by omega) (by omega) (getD_in (by rw [inv.size]; omega) hl) t (Nat.le_refl _) hr

/-- A tail: each operation comes alone, or it draws a limb out of a tuple and may be taken first. -/
def seqX (md : Region.Mode) (ops : Array Oper) : Nat → Nat → Array Bool → Bool
  | 0, _, listed => (Region.ready md ops listed).isEmpty
  | g + 1, k, listed => (decide (Region.ready md ops listed = [k]) ||
      ((Region.ready md ops listed).contains k && Region.free md ops listed k && (match ops[k]? with
        | some o => o.guard.isNone && (match o.op with | .extract _ _ => true | _ => false)
        | none => false))) && seqX md ops g (k + 1) (listed.setIfInBounds k true)
def headX (md : Region.Mode) (ops : Array Oper) (g : Nat) : Nat → Nat → Array Bool → Bool
  | 0, k, listed => (Region.ready md ops listed).all (fun j => decide (k ≤ j)) && seqX md ops g k listed
  | f + 1, k, listed => (Region.ready md ops listed).contains k && Region.free md ops listed k && headX md ops g f (k + 1) (listed.setIfInBounds k true)

theorem wpOp_extract {Q : Exit → Act → World → Prop} {K : Act → World → Prop} {o : Oper} {a : Act} {t : Operand} {ix : Nat} (hg : o.guard = none) (ho : o.op = .extract t ix) {w : World}
    (h : if Region.wanted o (yielded ops a.tmps) = true then o.wp P a w K Q ∨ (o.asks P a w ∧ LetsOut Q) else K (a.put o.dst undef) w) : ∃ v, Yields P ops o v a ∧ K (a.put o.dst v) w := by
  have hw : Region.wanted o (yielded ops a.tmps) = true := by simp [Region.wanted, hg]
  rw [if_pos hw] at h
  by_cases hv : ∃ vs v, a.eval t = .tuple vs ∧ vs[ix]? = some v
  · obtain ⟨vs, v, h1, h2⟩ := hv
    have hrun : ∀ w', (execOp a.eval o).run P w' = .ok (.value v) w' := fun w' => by simp [execOp, ho, Instr.extract, h1, h2]
    refine ⟨v, .inl ⟨hw, hrun⟩, ?_⟩
    rcases h with h | h
    · unfold Oper.wp at h
      rw [hrun w] at h
      exact h
    · exfalso
      have := h.1.1
      have hp : execOp a.eval o = pure (.value v) := by simp [execOp, ho, Instr.extract, h1, h2]
      rw [hp] at this
      exact absurd (show noRoomEvent ∈ (#[] : Array _) from this) (by simp)
  · exfalso
    have hst : ∃ s, execOp a.eval o = (do let x ← (stuck s : Sem Value); pure (.value x)) := by
      simp only [execOp, ho, Instr.extract]
      split
      · rename_i vs hvs
        split
        · rename_i v hv2
          exact absurd ⟨vs, v, hvs, hv2⟩ hv
        · exact ⟨_, rfl⟩
      · exact ⟨_, rfl⟩
    obtain ⟨s, hs⟩ := hst
    rcases h with h | h
    · unfold Oper.wp at h
      rw [hs] at h
      simp [Oper.upon] at h
    · have := h.1.1
      rw [hs] at this
      exact absurd (show noRoomEvent ∈ (#[] : Array _) from this) (by simp)

theorem wpAny_seqX {Q' : Exit → Act → World → Prop} (hQ : ∀ d v c a w, Q' (.panic c) (a.put d v) w → Q' (.panic c) a w) (hsel : Region.noSelect ops = true) :
    ∀ (l : List Oper) (k : Nat) (listed : Array Bool) (a : Act) (w : World), (∀ j, l[j]? = ops[k + j]?) →
    seqX md ops l.length k listed = true → wpList P ops Q' l a w → wpAny P md ops Q' l.length listed a w
  | [], _, _, _, _, _, hB, h => ⟨by simpa [seqX] using hB, h⟩
  | o :: l, k, listed, a, w, hl, hB, h => by
    have h0 : ops[k]? = some o := by simpa using (hl 0).symm
    have hl' : ∀ j, l[j]? = ops[k + 1 + j]? := fun j => by have := hl (j + 1); simpa [Nat.add_assoc, Nat.add_comm 1 j] using this
    simp only [List.length_cons, seqX, Bool.and_eq_true, Bool.or_eq_true, decide_eq_true_eq] at hB
    obtain ⟨hB1, hB2⟩ := hB
    rcases hB1 with hB1 | ⟨⟨hr, hf⟩, hx⟩
    · refine ⟨fun h1 => (by rw [hB1] at h1; cases h1), fun i hi => ?_⟩
      rw [hB1] at hi
      have hik : i = k := by simpa using hi
      subst hik
      have hw : wpOp P ops Q' i (wpList P ops Q' l) a w := by unfold wpOp; simp only [h0]; exact h
      exact wpOp_mono (fun a' w' h' => wpAny_seqX hQ hsel l (i + 1) _ a' w' hl' hB2 h') hw
    · simp only [h0, Bool.and_eq_true] at hx
      obtain ⟨hx1, hx2⟩ := hx
      have hg : o.guard = none := by simpa using hx1
      obtain ⟨t, ix, ho⟩ : ∃ t ix, o.op = .extract t ix := by
        revert hx2
        cases o.op <;> simp
      obtain ⟨v, hy, hK⟩ := wpOp_extract hg ho h
      exact wpAny_take h0 hsel hf hr (fun c a w hh => hQ _ _ _ _ _ hh) hy (wpAny_seqX hQ hsel l (k + 1) _ _ w hl' hB2 hK)

theorem wpAnyL_one {m n i : Nat} {oi : Oper} {v : Value} {L : Array Bool → Act → Prop} (hi : ops[i]? = some oi) (hsel : ∀ (j : Nat) (o : Oper) cs b, ops[j]? = some o → o.op ≠ .select cs b)
    (hs : sinkFrom md ops m n = true) (hc : chainX md ops n = true) (hn : n < ops.size) (hmi : m ≤ i) (hin : i < n)
    (hdone : ∀ listed a, L listed a → ∀ j ∈ Region.ready md ops listed, n ≤ j) :
    ∀ (f : Nat) (listed : Array Bool) (a : Act), HeadInv md ops n listed →
      (∀ j oj, ops[j]? = some oj → j ≠ i → listed.getD j true = false → (∀ e ∈ oj.after, Region.binds md e = true → e.on ≠ i) → oi.apart ops oj = true) →
      i ∈ Region.ready md ops listed → YieldsAt P ops w oi v a →
      wpAnyL P md ops w n L f (listed.setIfInBounds i true) (a.put oi.dst v) → wpAnyL P md ops w n L (f + 1) listed a := by
  intro f
  induction f with
  | zero =>
    intro listed a inv _ hr hy H
    refine ⟨fun h => (by rw [h] at hr; cases hr), fun j hj => ?_⟩
    have hjn : j < n := Nat.lt_of_not_le fun h => tail_kept hs hc hn inv _ i rfl hmi hin (mem_ready.1 hr).1 j h hj
    refine ⟨hjn, ?_⟩
    by_cases hji : j = i
    · subst hji; exact hy.stOp hi H
    · have := hdone _ _ H j (ready_mono hj hji)
      omega
  | succ f ih =>
    intro listed a inv hfree hr hy H
    have hun := (mem_ready.1 hr).1
    refine ⟨fun h => (by rw [h] at hr; cases hr), fun j hj => ?_⟩
    have hjn : j < n := Nat.lt_of_not_le fun h => tail_kept hs hc hn inv _ i rfl hmi hin hun j h hj
    refine ⟨hjn, ?_⟩
    by_cases hji : j = i
    · subst hji; exact hy.stOp hi H
    · obtain ⟨hjun, oj, hoj, hall⟩ := mem_ready.1 hj
      have hnot : ∀ e ∈ oj.after, Region.binds md e = true → e.on ≠ i := fun e he hb heq => by
        have h1 := hall e he hb
        rw [heq, getD_both hun] at h1
        cases h1
      have h2 := stOp_put hoj (hfree j oj hoj hji hjun hnot) (fun cs b => hsel i oi cs b hi) (fun cs b => hsel j oj cs b hoj) hy (H.2 j (ready_mono hj hji)).2
      refine stOp_mono (fun a' h3 => ih (listed.setIfInBounds j true) a' (inv.set hj hjn) (fun k ok hk hki hunk hno => hfree k ok hk hki ?_ hno) (ready_mono hr (Ne.symm hji)) h3.1 ?_) h2
      · by_cases hjk : j = k
        · subst hjk; exact hjun
        · rw [getD_set_ne true hjk] at hunk; exact hunk
      · rw [Array.setIfInBounds_comm _ _ hji]
        exact h3.2

theorem wpAnyL_on {m n g : Nat} {Lq : Act → Prop} (hsel : Region.noSelect ops = true) (hs : sinkFrom md ops m n = true) (hc : chainX md ops n = true) (hn : n < ops.size) :
    ∀ (l : List Oper) (k : Nat) (listed : Array Bool) (a : Act), m ≤ k → (∀ j, j < l.length → l[j]? = ops[k + j]?) → k + l.length = n → HeadInv md ops n listed →
    headX md ops g l.length k listed = true → wpStill P ops w Lq l a →
    wpAnyL P md ops w n (fun listed' a' => (Region.ready md ops listed').all (fun j => decide (n ≤ j)) = true ∧ seqX md ops g n listed' = true ∧ Lq a') l.length listed a
  | [], k, listed, a, _, _, hk, _, hB, h => by
    obtain rfl : k = n := by simpa using hk
    simp only [List.length_nil, headX, Bool.and_eq_true] at hB
    exact ⟨hB.1, hB.2, h⟩
  | o :: l, k, listed, a, hmk, hl, hk, inv, hB, h => by
    have h0 : ops[k]? = some o := by simpa using (hl 0 (by simp)).symm
    simp only [List.length_cons, headX, Bool.and_eq_true] at hB
    obtain ⟨⟨hr, hf⟩, hB'⟩ := hB
    have hkn : k < n := by simp only [List.length_cons] at hk; omega
    have hr' : k ∈ Region.ready md ops listed := by simpa using hr
    obtain ⟨v, hy, hK⟩ := yieldsAt_of_stOp (P := P) (w := w) (K := wpStill P ops w Lq l) h0 (by unfold stOp; simp only [h0]; exact h)
    exact wpAnyL_one h0 (Region.noSelect_spec hsel) hs hc hn hmk hkn (fun listed' a' hL j hj => by simpa using List.all_eq_true.1 hL.1 j hj) l.length listed a inv (Region.free_spec h0 hf) hr' hy
      (wpAnyL_on hsel hs hc hn l (k + 1) _ _ (by omega) (fun j hj => by have := hl (j + 1) (by simp; omega); simpa [Nat.add_assoc, Nat.add_comm 1 j] using this) (by simp only [List.length_cons] at hk; omega) (inv.set hr' hkn) hB' hK)

/-- The moves first, in whatever world. -/
theorem wpAny_moves {m n g : Nat} {Lq : Act → Prop} {Q : Exit → Act → World → Prop} (hQ : ∀ d v c a w, Q (.panic c) (a.put d v) w → Q (.panic c) a w)
    (hsel : Region.noSelect ops = true) (hs : sinkFrom md ops m n = true) (hc : chainX md ops n = true) (hn : n < ops.size) (hmv : movesB ops m = true) (hmn : m ≤ n)
    (hT : ∀ listed a, seqX md ops g n listed = true → Lq a → wpAny P md ops Q g listed a w) :
    ∀ (l : List Oper) (k : Nat) (listed : Array Bool) (a : Act), k ≤ m → (∀ j, j < l.length → l[j]? = ops[k + j]?) → k + l.length = n → HeadInv md ops n listed →
    headX md ops g l.length k listed = true → wpStill P ops w Lq l a → wpAny P md ops Q (l.length + g) listed a w
  | l, k, listed, a, hkm, hl, hk, inv, hB, h => by
    rcases Nat.lt_or_ge k m with hlt | hge
    · rcases l with _ | ⟨o, l⟩
      · simp only [List.length_nil] at hk; omega
      · have h0 : ops[k]? = some o := by simpa using (hl 0 (by simp)).symm
        simp only [List.length_cons, headX, Bool.and_eq_true] at hB
        obtain ⟨⟨hr, hf⟩, hB'⟩ := hB
        have hr' : k ∈ Region.ready md ops listed := by simpa using hr
        have h1 := List.all_eq_true.1 hmv k (List.mem_range.2 hlt)
        simp only [h0, Bool.and_eq_true] at h1
        obtain ⟨h2, h3⟩ := h1
        obtain ⟨x, hx⟩ : ∃ x, o.op = .move x := by
          revert h3
          cases o.op <;> simp
        have hg : o.guard = none := by simpa using h2
        have hw : Region.wanted o (yielded ops a.tmps) = true := by simp [Region.wanted, hg]
        have hrun : ∀ w', (execOp a.eval o).run P w' = .ok (.value (a.eval x)) w' := fun w' => by simp [execOp, hx]
        have hy : Yields P ops o (a.eval x) a := .inl ⟨hw, hrun⟩
        have hK : wpStill P ops w Lq l (a.put o.dst (a.eval x)) := by
          unfold wpStill at h
          rw [if_pos hw] at h
          unfold Oper.still at h
          rw [hrun w] at h
          simpa [Oper.stillUpon] using h
        have e : (o :: l).length + g = (l.length + g) + 1 := by simp only [List.length_cons]; omega
        rw [e]
        exact wpAny_take h0 hsel hf hr (fun c a w hh => hQ _ _ _ _ _ hh) hy
          (wpAny_moves hQ hsel hs hc hn hmv hmn hT l (k + 1) _ _ (by omega) (fun j hj => by have := hl (j + 1) (by simp; omega); simpa [Nat.add_assoc, Nat.add_comm 1 j] using this) (by simp only [List.length_cons] at hk; omega) (inv.set hr' (by omega)) hB' hK)
    · exact wpAny_of_head (fun listed a hL => hT listed a hL.2.1 hL.2.2) _ _ _ (wpAnyL_on hsel hs hc hn l k listed a hge hl hk inv hB h)
  termination_by l => l.length

/-- The check, for a computation: m moves, then up to n what only reads, then a tail in one forced order. -/
def tailOK (md : Region.Mode) (ops : Array Oper) (m n : Nat) : Bool :=
  Region.noSelect ops && decide (n < ops.size) && sinkFrom md ops m n && chainX md ops n && movesB ops m && decide (m ≤ n) && headX md ops (ops.size - n) n 0 (Array.replicate ops.size false)

theorem wp_region_tail {id : Nat} {Q : Exit → Act → World → Prop} {a : Act} {w : World} {l : List Oper} (m n : Nat) (hm : P.follows .mixedOrders = true) (hB : tailOK .any l.toArray m n = true)
    (hQ : ∀ d v c a w, Q (.panic c) (a.put d v) w → Q (.panic c) a w)
    (h : wpStill P l.toArray { w with drawn := w.drawn + 1 } (fun a' => wpList P l.toArray Q (l.drop n) a' { w with drawn := w.drawn + 1 }) (l.take n) a) : (Code.region id l.toArray true).wp P Q a w := by
  simp only [tailOK, Bool.and_eq_true, decide_eq_true_eq] at hB
  obtain ⟨⟨⟨⟨⟨⟨hsel, hn⟩, hs⟩, hc⟩, hmv⟩, hmn⟩, hlex⟩ := hB
  have hn' : n < l.length := by simpa using hn
  have htl : (l.take n).length = n := by simp; omega
  have hdl : (l.drop n).length = l.toArray.size - n := by simp
  have inv0 : HeadInv .any l.toArray n (Array.replicate l.toArray.size false) :=
    ⟨by simp, fun j oj _ hl => (by rw [getD_replicate_false] at hl; cases hl), fun t _ ht => getD_in (by simpa using ht) (getD_replicate_false _ _)⟩
  refine wp_region_any hm ?_
  have := wpAny_moves (P := P) (md := .any) (g := l.toArray.size - n) hQ hsel hs hc hn hmv hmn (fun listed a' hsq hL => by
    have := wpAny_seqX (md := .any) (Q' := Q) hQ hsel (l.drop n) n listed a' { w with drawn := w.drawn + 1 } (fun j => by simp [List.getElem?_drop]) (by rw [hdl]; exact hsq) hL
    rwa [hdl] at this) (l.take n) 0 _ a (Nat.zero_le _) (fun j hj => by
      have hj' : j < n := by rw [htl] at hj; exact hj
      simp [hj']) (by simpa using htl) inv0 (by rw [htl]; exact hlex) h
  rw [htl, show n + (l.toArray.size - n) = l.toArray.size by omega] at this
  exact this
end

end Go.Proofs.YtnajekpckbfcdaaGreatDoor

namespace Go.Proofs.YtnajekpckbfcdaaGreatDoor
open Go.RowKit

theorem Mul_any (w : World) (pz px py : Nat) (nz : Bool) (Z X Y : Option Addr) (Lz Cz : Nat) (wz : List Nat) (a b : Int) (hxy : px ≠ py) (hzx : pz ≠ px) (hzy : pz ≠ py) (hz : Blk w pz 133 #[.bool nz, .slice Z Lz Cz]) (hZ : NatS w Z Lz Cz wz)
    (hx : IntV w px X a) (hy : IntV w py Y b) (ha : Sm a) (hb : Sm b) (hone : a.natAbs < 18446744073709551616 ∨ b.natAbs < 18446744073709551616) :
    Calls Tryz.prog 71 #[.pointer (some ⟨pz, 0, none⟩), .pointer (some ⟨px, 0, none⟩), .pointer (some ⟨py, 0, none⟩)] w (IntRes w pz Z (a * b)) := by
  have hm := mul_int w pz px py nz Z X Y Lz Cz wz a b hxy hzx hzy hz hZ hx hy ha hb hone
  have HC := hide hm
  clear hm
  go_enter Tryz.func71, Tryz.ntmps71
  go_wp2_with fail
  refine HC.out.mono ?_
  rintro e w1 ⟨A, rfl, hI, hu, hA⟩
  clear HC
  go_wp2
  go_ret
  exact ⟨A, rfl, hI, hu, hA⟩

/-- exp, without a modulus, of a number that is not below 0: by what expNN answers. -/
theorem exp_nat (w : World) (pz px py : Nat) (X Y : Option Addr) (a ex m : Nat) (hzx : pz ≠ px) (hz : Blk w pz 133 #[.bool false, .slice none 0 0]) (hx : IntV w px X a) (hy : IntV w py Y ex)
    (hexp : ∀ Lx Cx Ly Cy, NatS w X Lx Cx (wo a) → NatS w Y Ly Cy (wo ex) → Calls Tryz.prog 252 #[.slice none 0 0, .pointer none, .slice X Lx Cx, .slice Y Ly Cy, .slice none 0 0, .bool false] w (NatRes w none m)) :
    Calls Tryz.prog 212 #[.pointer (some ⟨pz, 0, none⟩), .pointer (some ⟨px, 0, none⟩), .pointer (some ⟨py, 0, none⟩), .pointer none, .bool false] w (IntRes w pz none m) := by
  obtain ⟨Lx, Cx, hxb, hX⟩ := hx
  obtain ⟨Ly, Cy, hyb, hY⟩ := hy
  rw [decide_eq_false (by omega)] at hxb hyb
  rw [Int.natAbs_natCast] at hX hY
  have HC := hide (hexp Lx Cx Ly Cy hX hY)
  clear hexp
  have cz1 := hz.snd
  have cx1 := hxb.snd
  have cy0 := hyb.fst
  have cy1 := hyb.snd
  go_enter Tryz.func212, Tryz.ntmps212
  go_wp2_with fail
  refine HC.out.mono ?_
  rintro e w2 ⟨A, L, C, rfl, hS, hu, hA⟩
  have hz2 := hz.upd hu (by simp [bof])
  have hx2 := hxb.upd hu (by simp [bof])
  have cz2 := hz2.snd
  have fz2 := hz2.frozen 1
  have hz3 := hz2.put1 (.slice A L C)
  have hx3 := hx2.far (p := ⟨pz, 1, none⟩) (Ne.symm hzx) (.slice A L C)
  have hS3 := hS.setCell (p := ⟨pz, 1, none⟩) (hS.not_mem hz2 (by decide)) (.slice A L C)
  have hu3 : Upd (pz :: bof none) w (w2.setCell ⟨pz, 1, none⟩ (.slice A L C)) := (hu.mono (by simp [bof])).setCell (by simp) _
  clear HC cz1 cx1 cy0 cy1 hu hz2 hx2
  go_upto_region 16 with (fail)
  clear cz2 fz2
  generalize w2.setCell ⟨pz, 1, none⟩ (.slice A L C) = w3 at hz3 hx3 hS3 hu3 ⊢
  have cz4 := hz3.snd
  have cz5 := hz3.fst
  have fz3 := hz3.frozen 0
  have cx3 := hx3.fst
  by_cases hL : L = 0
  · subst hL
    have t1 : ¬ (0 : Int) < ((0 : Nat) : Int) := by omega
    go_wp2
    go_ret
    exact ⟨A, rfl, ⟨0, C, by rw [decide_eq_false (by omega)]; exact hz3.put0 _, by rw [Int.natAbs_natCast]; exact hS3.setCell (hS3.not_mem hz3 (by decide)) _⟩, hu3.setCell (by simp) _, hA⟩
  · have t1 : (0 : Int) < (L : Int) := by omega
    go_wp2
    go_ret
    exact ⟨A, rfl, ⟨L, C, by rw [decide_eq_false (by omega)]; exact hz3.put0 _, by rw [Int.natAbs_natCast]; exact hS3.setCell (hS3.not_mem hz3 (by decide)) _⟩, hu3.setCell (by simp) _, hA⟩

theorem Exp_nat (w : World) (pz px py : Nat) (X Y : Option Addr) (a ex m : Nat) (hzx : pz ≠ px) (hz : Blk w pz 133 #[.bool false, .slice none 0 0]) (hx : IntV w px X a) (hy : IntV w py Y ex)
    (hexp : ∀ Lx Cx Ly Cy, NatS w X Lx Cx (wo a) → NatS w Y Ly Cy (wo ex) → Calls Tryz.prog 252 #[.slice none 0 0, .pointer none, .slice X Lx Cx, .slice Y Ly Cy, .slice none 0 0, .bool false] w (NatRes w none m)) :
    Calls Tryz.prog 164 #[.pointer (some ⟨pz, 0, none⟩), .pointer (some ⟨px, 0, none⟩), .pointer (some ⟨py, 0, none⟩), .pointer none] w (IntRes w pz none m) := by
  have HC := hide (exp_nat w pz px py X Y a ex m hzx hz hx hy hexp)
  clear hexp
  go_enter Tryz.func164, Tryz.ntmps164
  go_wp2_with fail
  refine HC.out.mono ?_
  rintro e w1 ⟨A, rfl, hI, hu, hA⟩
  clear HC
  go_wp2
  go_ret
  exact ⟨A, rfl, hI, hu, hA⟩

theorem div_18 (w : World) (Z X Y : Option Addr) (Lz Cz Lx Cx Cy n : Nat) (wz : List Nat) (hZ : NatS w Z Lz Cz wz) (hX : NatS w X Lx Cx (wo n)) (hL : Lx ≤ 100) (hY : NatS w Y 1 Cy (wo 1000000000000000000)) :
    Calls Tryz.prog 131 #[.slice Z Lz Cz, .pointer none, .slice none 0 0, .slice X Lx Cx, .slice Y 1 Cy] w fun e w' =>
      ∃ A L C B M D, e = .returned (.tuple #[.slice A L C, .slice B M D]) ∧ NatS w' A L C (wo (n / 1000000000000000000)) ∧ NatS w' B M D (wo (n % 1000000000000000000)) ∧ Upd (bof Z) w w' ∧
        (∀ b ∈ bof A, b ∈ bof Z ∨ w.heap.size ≤ b) ∧ (∀ b ∈ bof B, w.heap.size ≤ b ∧ b ∉ bof A) := by
  obtain ⟨by', cy, rfl, hby, hcy, hwy⟩ := hY.row (by have := hY.2.2.1; omega)
  have ey : wo 1000000000000000000 = [1000000000000000000] := wo_one (by omega) (by omega)
  have cy0 := hY.cells 0 (by omega)
  rw [ey] at cy0
  simp only [List.getD_cons_zero] at cy0
  have HC := hide (divW_18 w Z X Lz Cz Lx Cx n wz hZ hX (by omega))
  clear ey
  obtain ⟨q, hq⟩ : ∃ q, n / 1000000000000000000 = q := ⟨_, rfl⟩
  obtain ⟨r, hr⟩ : ∃ r, n % 1000000000000000000 = r := ⟨_, rfl⟩
  have hrl : r < 18446744073709551616 := by omega
  rw [hq, hr] at HC
  rw [hq, hr]
  clear hq hr
  go_enter Tryz.func131, Tryz.ntmps131
  go_wp2_with fail
  refine HC.out.mono ?_
  rintro e w1 ⟨A, L, C, rfl, hS, hu, hA⟩
  clear HC
  go_wp2_with fail
  refine (setWord_any w1 none 0 0 r [] (NatS.nil _) hrl).mono ?_
  rintro e w2 ⟨B, M, D, rfl, hS2, hu2, hB⟩
  go_wp2
  go_ret2
  have hB' : ∀ b ∈ bof B, w1.heap.size ≤ b := fun b hb => by simpa [bof] using hB b hb
  refine ⟨A, L, C, B, M, D, rfl, hS.upd hu2 (by simp [bof]), hS2, hu.trans hu2 (by simp [bof]), hA, fun b hb => ⟨Nat.le_trans hu.size (hB' b hb), fun h => ?_⟩⟩
  have h1 := hS.lt b h
  have h2 := hB' b hb
  omega

end Go.Proofs.YtnajekpckbfcdaaGreatDoor

namespace Go.Proofs.YtnajekpckbfcdaaGreatDoor
open Go.RowKit

set_option maxRecDepth 20000 in
set_option maxHeartbeats 4000000 in
theorem QuoRem_nat (w : World) (pz px py pr : Nat) (X Y : Option Addr) (a : Nat) (hzx : pz ≠ px) (hzy : pz ≠ py) (hzr : pz ≠ pr) (hrx : pr ≠ px) (hry : pr ≠ py) (hz : Blk w pz 133 #[.bool false, .slice none 0 0]) (hr : Blk w pr 133 #[.bool false, .slice none 0 0])
    (hx : IntV w px X a) (hy : IntV w py Y (1000000000000000000 : Nat)) (ha : Sm a) :
    Calls Tryz.prog 96 #[.pointer (some ⟨pz, 0, none⟩), .pointer (some ⟨px, 0, none⟩), .pointer (some ⟨py, 0, none⟩), .pointer (some ⟨pr, 0, none⟩)] w fun e w' =>
      ∃ A B, e = .returned (.tuple #[.pointer (some ⟨pz, 0, none⟩), .pointer (some ⟨pr, 0, none⟩)]) ∧ IntV w' pz A (a / 1000000000000000000 : Nat) ∧ IntV w' pr B (a % 1000000000000000000 : Nat) ∧ Upd [pz, pr] w w' ∧
        (∀ b ∈ bof A, w.heap.size ≤ b) ∧ (∀ b ∈ bof B, w.heap.size ≤ b) := by
  obtain ⟨Lx, Cx, hxb, hX⟩ := hx
  obtain ⟨Ly, Cy, hyb, hY⟩ := hy
  have hLx := ha.len hX
  rw [decide_eq_false (by omega)] at hxb hyb
  rw [Int.natAbs_natCast] at hX hY
  have hLy : Ly = 1 := by rw [← hY.1, wo_one (by omega) (by omega)]; rfl
  subst hLy
  have hd := div_18 w.drew none X Y 0 0 Lx Cx Cy a [] (NatS.nil _) hX.drew hLx hY.drew
  obtain ⟨q, hq⟩ : ∃ q, a / 1000000000000000000 = q := ⟨_, rfl⟩
  obtain ⟨r, hrr⟩ : ∃ r, a % 1000000000000000000 = r := ⟨_, rfl⟩
  rw [hq, hrr] at hd
  rw [hq, hrr]
  have HC := hide hd
  clear hd hq hrr
  have cz1 := hz.snd
  have cr1 := hr.snd
  have cx1 := hxb.snd
  have cy1 := hyb.snd
  go_enter Tryz.func96, Tryz.ntmps96
  go_wp2_with fail
  refine wp_region_tail 2 18 (by kernel_rfl) (by kernel_rfl) ?_ ?_
  · intro d v c a w h; cases d <;> exact h
  simp only [List.take_succ_cons, List.take_zero, List.drop_succ_cons, List.drop_zero]
  repeat still_step
  refine wpStill_nil ?_
  change wpList _ _ _ _ _ w.drew
  go_wp2_with fail
  refine HC.out.mono ?_
  rintro e w2 ⟨A, L, C, B, M, D, rfl, hS, hS2, hu, hA, hB⟩
  clear HC
  have hu := hu.undrew
  have hz2 := hz.upd hu (by simp [bof])
  have hr2 := hr.upd hu (by simp [bof])
  have hx2 := hxb.upd hu (by simp [bof])
  have hy2 := hyb.upd hu (by simp [bof])
  have cz2 := hz2.snd
  have fz2 := hz2.frozen 1
  have cr2 := hr2.snd
  have fr2 := hr2.frozen 1
  have hz3 := (hz2.put1 (.slice A L C)).far (p := ⟨pr, 1, none⟩) hzr (.slice B M D)
  have hr3 := (hr2.far (p := ⟨pz, 1, none⟩) (Ne.symm hzr) (.slice A L C)).put1 (.slice B M D)
  have hx3 := (hx2.far (p := ⟨pz, 1, none⟩) (Ne.symm hzx) (.slice A L C)).far (p := ⟨pr, 1, none⟩) (Ne.symm hrx) (.slice B M D)
  have hy3 := (hy2.far (p := ⟨pz, 1, none⟩) (Ne.symm hzy) (.slice A L C)).far (p := ⟨pr, 1, none⟩) (Ne.symm hry) (.slice B M D)
  have hA3 := (hS.setCell (p := ⟨pz, 1, none⟩) (hS.not_mem hz2 (by decide)) (.slice A L C)).setCell (p := ⟨pr, 1, none⟩) (hS.not_mem hr2 (by decide)) (.slice B M D)
  have hB3 := (hS2.setCell (p := ⟨pz, 1, none⟩) (hS2.not_mem hz2 (by decide)) (.slice A L C)).setCell (p := ⟨pr, 1, none⟩) (hS2.not_mem hr2 (by decide)) (.slice B M D)
  have hu3 : Upd [pz, pr] w ((w2.setCell ⟨pz, 1, none⟩ (.slice A L C)).setCell ⟨pr, 1, none⟩ (.slice B M D)) := ((hu.mono (by simp [bof])).setCell (by simp) _).setCell (by simp) _
  have hA4 : ∀ b ∈ bof A, w.heap.size ≤ b := fun b hb => by simpa [bof] using hA b hb
  have hB4 : ∀ b ∈ bof B, w.heap.size ≤ b := fun b hb => (hB b hb).1
  have HA4 := hide hA4
  have HB4 := hide hB4
  clear hA hB hA4 hB4 hu hx2 hy2 cz1 cr1 cx1 cy1
  go_upto_region 2 with (fail)
  clear cz2 fz2 cr2 fr2
  generalize (w2.setCell ⟨pz, 1, none⟩ (.slice A L C)).setCell ⟨pr, 1, none⟩ (.slice B M D) = w3 at hz3 hr3 hx3 hy3 hA3 hB3 hu3 ⊢
  clear hz2 hr2
  have fz3 := hz3.frozen 0
  have fr3 := hr3.frozen 0
  have cz30 := hz3.fst
  have cz31 := hz3.snd
  have cr30 := hr3.fst
  have cr31 := hr3.snd
  have cx30 := hx3.fst
  have cy30 := hy3.fst
  have nzx : ¬ px = pz := Ne.symm hzx
  have nzy : ¬ py = pz := Ne.symm hzy
  have nzr : ¬ pr = pz := Ne.symm hzr
  have nrx : ¬ px = pr := Ne.symm hrx
  have nry : ¬ py = pr := Ne.symm hry
  rcases (by omega : L = 0 ∨ 0 < L) with hL | hL <;> rcases (by omega : M = 0 ∨ 0 < M) with hM | hM
  · have t1 : ¬ (0 : Int) < (L : Int) := by omega
    have t2 : ¬ (0 : Int) < (M : Int) := by omega
    go_region
    all_goals go_wp2
    all_goals go_ret2
    all_goals (
      first
        | refine ⟨rfl, A, ⟨L, C, ?_, ?_⟩, B, ⟨M, D, ?_, ?_⟩, ((hu3.setCell (by simp) _).setCell (by simp) _).drew, HA4.out, HB4.out⟩
        | refine ⟨A, B, rfl, ⟨L, C, ?_, ?_⟩, ⟨M, D, ?_, ?_⟩, ((hu3.setCell (by simp) _).setCell (by simp) _).drew, HA4.out, HB4.out⟩
      · rw [decide_eq_false (by omega)]; exact ((hz3.put0 _).far hzr _).drew
      · rw [Int.natAbs_natCast]; exact ((hA3.setCell (hA3.not_mem hz3 (by decide)) _).setCell (hA3.not_mem hr3 (by decide)) _).drew
      · rw [decide_eq_false (by omega)]; exact ((hr3.far (Ne.symm hzr) _).put0 _).drew
      · rw [Int.natAbs_natCast]; exact ((hB3.setCell (hB3.not_mem hz3 (by decide)) _).setCell (hB3.not_mem hr3 (by decide)) _).drew)
  · have t1 : ¬ (0 : Int) < (L : Int) := by omega
    have t2 : (0 : Int) < (M : Int) := by omega
    go_region
    all_goals go_wp2
    all_goals go_ret2
    all_goals (
      first
        | refine ⟨rfl, A, ⟨L, C, ?_, ?_⟩, B, ⟨M, D, ?_, ?_⟩, ((hu3.setCell (by simp) _).setCell (by simp) _).drew, HA4.out, HB4.out⟩
        | refine ⟨A, B, rfl, ⟨L, C, ?_, ?_⟩, ⟨M, D, ?_, ?_⟩, ((hu3.setCell (by simp) _).setCell (by simp) _).drew, HA4.out, HB4.out⟩
      · rw [decide_eq_false (by omega)]; exact ((hz3.put0 _).far hzr _).drew
      · rw [Int.natAbs_natCast]; exact ((hA3.setCell (hA3.not_mem hz3 (by decide)) _).setCell (hA3.not_mem hr3 (by decide)) _).drew
      · rw [decide_eq_false (by omega)]; exact ((hr3.far (Ne.symm hzr) _).put0 _).drew
      · rw [Int.natAbs_natCast]; exact ((hB3.setCell (hB3.not_mem hz3 (by decide)) _).setCell (hB3.not_mem hr3 (by decide)) _).drew)
  · have t1 : (0 : Int) < (L : Int) := by omega
    have t2 : ¬ (0 : Int) < (M : Int) := by omega
    go_region
    all_goals go_wp2
    all_goals go_ret2
    all_goals (
      first
        | refine ⟨rfl, A, ⟨L, C, ?_, ?_⟩, B, ⟨M, D, ?_, ?_⟩, ((hu3.setCell (by simp) _).setCell (by simp) _).drew, HA4.out, HB4.out⟩
        | refine ⟨A, B, rfl, ⟨L, C, ?_, ?_⟩, ⟨M, D, ?_, ?_⟩, ((hu3.setCell (by simp) _).setCell (by simp) _).drew, HA4.out, HB4.out⟩
      · rw [decide_eq_false (by omega)]; exact ((hz3.put0 _).far hzr _).drew
      · rw [Int.natAbs_natCast]; exact ((hA3.setCell (hA3.not_mem hz3 (by decide)) _).setCell (hA3.not_mem hr3 (by decide)) _).drew
      · rw [decide_eq_false (by omega)]; exact ((hr3.far (Ne.symm hzr) _).put0 _).drew
      · rw [Int.natAbs_natCast]; exact ((hB3.setCell (hB3.not_mem hz3 (by decide)) _).setCell (hB3.not_mem hr3 (by decide)) _).drew)
  · have t1 : (0 : Int) < (L : Int) := by omega
    have t2 : (0 : Int) < (M : Int) := by omega
    go_region
    all_goals go_wp2
    all_goals go_ret2
    all_goals (
      first
        | refine ⟨rfl, A, ⟨L, C, ?_, ?_⟩, B, ⟨M, D, ?_, ?_⟩, ((hu3.setCell (by simp) _).setCell (by simp) _).drew, HA4.out, HB4.out⟩
        | refine ⟨A, B, rfl, ⟨L, C, ?_, ?_⟩, ⟨M, D, ?_, ?_⟩, ((hu3.setCell (by simp) _).setCell (by simp) _).drew, HA4.out, HB4.out⟩
      · rw [decide_eq_false (by omega)]; exact ((hz3.put0 _).far hzr _).drew
      · rw [Int.natAbs_natCast]; exact ((hA3.setCell (hA3.not_mem hz3 (by decide)) _).setCell (hA3.not_mem hr3 (by decide)) _).drew
      · rw [decide_eq_false (by omega)]; exact ((hr3.far (Ne.symm hzr) _).put0 _).drew
      · rw [Int.natAbs_natCast]; exact ((hB3.setCell (hB3.not_mem hz3 (by decide)) _).setCell (hB3.not_mem hr3 (by decide)) _).drew)

end Go.Proofs.YtnajekpckbfcdaaGreatDoor
