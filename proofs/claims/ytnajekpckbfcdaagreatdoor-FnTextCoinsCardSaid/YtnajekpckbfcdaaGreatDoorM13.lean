/-
  What the printed functions answer; zzDecCoin.
-/
import Derived.Test.YtnajekpckbfcdaaGreatDoorM01
import Derived.Test.YtnajekpckbfcdaaGreatDoorPFnParseDecsx5
import Derived.Deep.Cut
import Derived.RegionTactic
import Derived.ChangeAlike
set_option linter.unusedVariables false
set_option linter.unusedSimpArgs false
namespace Go.Proofs.YtnajekpckbfcdaaGreatDoor
open Go.RowKit Go.Proofs.YtnajekpckbfcdaaGreatDoorW.PrintWords Go.Proofs.YtnajekpckbfcdaaGreatDoor.PFnParseDecs

theorem bt_bs (l : List UInt8) (i : Nat) (h : i < l.length) : bt (bs l) (i : Int) = (l[i].toNat : Int) := by
  have h1 : ((i : Int)).toNat < (bs l).size := by rw [bs_size]; simpa using h
  unfold bt
  rw [dif_pos h1, bs_get]
  simp
theorem wrap_pred (n : Nat) (h : n ≤ 1000000) : wrap64 (((n + 1 : Nat) : Int) - 1) = (n : Int) := by unfold wrap64; omega
theorem wrap_succ (n : Nat) (h : n ≤ 1000000) : wrap64 ((n : Int) + 1) = ((n + 1 : Nat) : Int) := by unfold wrap64; omega

theorem u8_eq (c : UInt8) (n : Nat) (hn : n < 256) : (c.toNat : Int) = n ↔ c = UInt8.ofNat n := by
  constructor
  · intro h
    have : c.toNat = n := by omega
    rw [← this]; simp
  · rintro rfl
    simp [UInt8.toNat_ofNat']; omega
theorem blank_f (c : UInt8) : types_zzBlank.f (c.toNat : Int) = some (bl c) := by
  unfold types_zzBlank.f bl
  have h := u8_eq c 32 (by omega)
  by_cases h1 : c = 32
  · subst h1; rfl
  · have h2 : ¬ (c.toNat : Int) = 32 := fun e => h1 (h.1 (by simpa using e))
    have h3 : (c == 32) = false := beq_eq_false_iff_ne.2 h1
    rw [if_neg h2, h3]
    by_cases h4 : (9 : Int) ≤ c.toNat
    · rw [if_pos h4]
      have : decide (9 ≤ c.toNat) = true := decide_eq_true (by omega)
      rw [this]
      have h5 : decide ((c.toNat : Int) ≤ 13) = decide (c.toNat ≤ 13) := by
        apply decide_eq_decide.2; omega
      rw [h5]; simp
    · rw [if_neg h4]
      have : decide (9 ≤ c.toNat) = false := decide_eq_false (by omega)
      rw [this]; simp
theorem letter_f (c : UInt8) : types_zzLetter.f (c.toNat : Int) = some (isLe c) := by
  unfold types_zzLetter.f isLe
  generalize c.toNat = n
  by_cases h1 : (97 : Int) ≤ n
  · have d1 : decide (97 ≤ n) = true := decide_eq_true (by omega)
    rw [if_pos h1, d1]
    by_cases h2 : (n : Int) ≤ 122
    · have d2 : decide (n ≤ 122) = true := decide_eq_true (by omega)
      rw [if_pos h2, d2]; simp
    · have d2 : decide (n ≤ 122) = false := decide_eq_false (by omega)
      have d3 : decide (65 ≤ n) = true := decide_eq_true (by omega)
      have d4 : decide (n ≤ 90) = false := decide_eq_false (by omega)
      have d5 : decide ((n : Int) ≤ 90) = false := decide_eq_false (by omega)
      rw [if_neg h2, if_pos (by omega), d2, d3, d4, d5]; simp
  · have d1 : decide (97 ≤ n) = false := decide_eq_false (by omega)
    rw [if_neg h1, d1]
    by_cases h2 : (65 : Int) ≤ n
    · have d2 : decide (65 ≤ n) = true := decide_eq_true (by omega)
      have d3 : decide ((n : Int) ≤ 90) = decide (n ≤ 90) := decide_eq_decide.2 (by omega)
      rw [if_pos h2, d2, d3]; simp
    · have d2 : decide (65 ≤ n) = false := decide_eq_false (by omega)
      rw [if_neg h2, d2]; simp

theorem trim_l1 : ∀ (k : Nat) (l : List UInt8), l.length < k → l.length ≤ 100000 → types_zzTrim.l1 k (bs l) = some (bs (trimR l))
  | 0, _, h, _ => by omega
  | k + 1, l, h, hn => by
    rcases List.eq_nil_or_concat l with rfl | ⟨m, x, rfl⟩
    · simp only [types_zzTrim.l1]
      rw [if_pos (by rw [bs_toList])]; rfl
    · rw [List.concat_eq_append] at *
      have hl : (m ++ [x]).length = m.length + 1 := by simp
      have hb := bt_bs (m ++ [x]) m.length (by omega)
      rw [List.getElem_concat_length rfl] at hb
      simp only [types_zzTrim.l1]
      rw [if_neg (by rw [bs_toList]; simp), bs_size, hl, wrap_pred _ (by omega), if_pos (by omega), if_pos (by omega), hb, blank_f, trimR_snoc]
      simp only [Option.bind_some]
      cases hx : bl x with
      | true =>
        rw [if_pos rfl, if_pos rfl, if_pos (by omega), Int.toNat_natCast, bs_extract]
        have e : ((m ++ [x]).take m.length).drop 0 = m := by simp
        rw [e]
        exact trim_l1 k m (by omega) (by omega)
      | false => simp
theorem trim_l0 : ∀ (k : Nat) (l : List UInt8), 2 * l.length + 2 < k → l.length ≤ 100000 → types_zzTrim.l0 k (bs l) = some (bs (trim l))
  | 0, _, h, _ => by omega
  | k + 1, l, h, hn => by
    have hj : ∀ m : List UInt8, m.length + 1 < k → m.length ≤ 100000 → types_zzTrim.j1 k (bs m) = some (bs (trimR m)) := by
      intro m hm hm2
      obtain ⟨k, rfl⟩ : ∃ j, k = j + 1 := ⟨k - 1, by omega⟩
      simp only [types_zzTrim.j1]
      exact trim_l1 k m (by omega) hm2
    cases l with
    | nil =>
      simp only [types_zzTrim.l0]
      rw [if_pos (by rw [bs_toList])]
      exact hj [] (by simp; omega) (by simp)
    | cons x r =>
      simp only [List.length_cons] at h hn
      have hb := bt_bs (x :: r) 0 (by simp)
      simp only [types_zzTrim.l0]
      rw [if_neg (by rw [bs_toList]; simp), bs_size, List.length_cons, if_pos (by omega)]
      rw [show ((0 : Nat) : Int) = 0 from rfl] at hb
      rw [hb, List.getElem_cons_zero, blank_f]
      simp only [Option.bind_some]
      unfold trim trimL
      rw [List.dropWhile_cons]
      cases hx : bl x with
      | true =>
        rw [if_pos rfl, if_pos rfl, if_pos (by omega), bs_extract]
        have e : ((x :: r).take (r.length + 1)).drop 1 = r := by rw [List.take_of_length_le (by simp)]; rfl
        rw [e]
        exact trim_l0 k r (by omega) (by omega)
      | false =>
        rw [if_neg (by simp), if_neg (by simp)]
        exact hj (x :: r) (by simp; omega) (by simp; omega)
theorem trim_f (l : List UInt8) (h : l.length ≤ 100000) : types_zzTrim.f 300000 (bs l) = some (bs (trim l)) := trim_l0 _ l (by omega) h

/-- zzTrim. -/
theorem zzTrim_42 (l : List UInt8) (h : l.length ≤ 100000) (w : World) : Calls Tryz.prog 42 #[.string (bs l)] w fun e w' => e = .returned (.string (bs (trim l))) ∧ ∃ n, w' = w.drewN n :=
  (types_zzTrim.calls 300000 (bs l) (bs (trim l)) w (trim_f l h)).mono fun e w' ⟨h1, h2⟩ => ⟨h1, h2.out⟩

/-- zzDigits: over digits to what is no digit. -/
theorem digits_l0 (a : List UInt8) : ∀ (d : List UInt8) (b : List UInt8) (k : Nat), (∀ x ∈ d, isDg x = true) → (∀ c, b.head? = some c → isDg c = false) → d.length < k → a.length + d.length + b.length ≤ 100000 →
    types_zzDigits.l0 k (bs (a ++ d ++ b)) (a.length : Int) = some ((a.length + d.length : Nat) : Int) := by
  intro d
  induction d generalizing a with
  | nil =>
    intro b k hd hb hk hn
    obtain ⟨k, rfl⟩ : ∃ j, k = j + 1 := ⟨k - 1, by omega⟩
    simp only [types_zzDigits.l0, List.append_nil, List.length_nil, Nat.add_zero]
    cases b with
    | nil => rw [if_neg (by rw [bs_size]; simp)]
    | cons c r =>
      have hc := hb c rfl
      have hbt := bt_bs (a ++ c :: r) a.length (by simp)
      rw [List.getElem_append_right (Nat.le_refl _)] at hbt
      simp only [Nat.sub_self, List.getElem_cons_zero] at hbt
      have h1 : ¬ (48 ≤ c.toNat ∧ c.toNat ≤ 57) := fun h => by rw [(isDg_iff c).2 h] at hc; cases hc
      rw [if_pos (by rw [bs_size]; simp; omega), if_pos (by omega), hbt]
      by_cases h2 : (48 : Int) ≤ c.toNat
      · rw [if_pos h2, if_neg (by omega)]
      · rw [if_neg h2]
  | cons x d ih =>
    intro b k hd hb hk hn
    obtain ⟨k, rfl⟩ : ∃ j, k = j + 1 := ⟨k - 1, by omega⟩
    simp only [List.length_cons] at hk hn
    have hx := (isDg_iff x).1 (hd x (by simp))
    have e : a ++ x :: d ++ b = (a ++ [x]) ++ d ++ b := by simp
    have hbt := bt_bs (a ++ x :: d ++ b) a.length (by simp)
    have hg : (a ++ x :: d ++ b)[a.length]'(by simp) = x := by simp
    rw [hg] at hbt
    simp only [types_zzDigits.l0]
    rw [if_pos (by rw [bs_size]; simp; omega), if_pos (by omega), hbt, if_pos (by omega), if_pos (by omega), wrap_succ _ (by omega), e]
    have := ih (a ++ [x]) b k (fun y hy => hd y (List.mem_cons_of_mem _ hy)) hb (by omega) (by simp; omega)
    simp only [List.length_append, List.length_cons, List.length_nil, Nat.zero_add] at this ⊢
    rw [this, show a.length + (d.length + 1) = a.length + 1 + d.length by omega]
theorem zzDigits_87 (a d b : List UInt8) (hd : ∀ x ∈ d, isDg x = true) (hb : ∀ c, b.head? = some c → isDg c = false) (hn : a.length + d.length + b.length ≤ 100000) (w : World) :
    Calls Tryz.prog 87 #[.string (bs (a ++ d ++ b)), .int .i64 a.length] w fun e w' => e = .returned (.int .i64 ((a.length + d.length : Nat) : Int)) ∧ ∃ n, w' = w.drewN n :=
  (types_zzDigits.calls 200000 _ _ _ w (digits_l0 a d b 200000 hd hb (by omega) hn)).mono fun e w' ⟨h1, h2⟩ => ⟨h1, h2.out⟩

/-- zzDenom. -/
theorem isOt_if (c : UInt8) {α : Type} (A B : α) :
    (if 48 ≤ (c.toNat : Int) then (if ((c.toNat : Int) ≤ 57) then A else (if (c.toNat : Int) = 47 then A else (if (c.toNat : Int) = 58 then A else (if (c.toNat : Int) = 46 then A else (if (c.toNat : Int) = 95 then A else (if (c.toNat : Int) = 45 then A else B)))))) else (if (c.toNat : Int) = 47 then A else (if (c.toNat : Int) = 58 then A else (if (c.toNat : Int) = 46 then A else (if (c.toNat : Int) = 95 then A else (if (c.toNat : Int) = 45 then A else B)))))) =
      if (isDg c || c == 47 || c == 58 || c == 46 || c == 95 || c == 45) = true then A else B := by
  have e : (isDg c || c == 47 || c == 58 || c == 46 || c == 95 || c == 45) = decide ((48 ≤ c.toNat ∧ c.toNat ≤ 57) ∨ c.toNat = 47 ∨ c.toNat = 58 ∨ c.toNat = 46 ∨ c.toNat = 95 ∨ c.toNat = 45) := by
    have h : ∀ n : Nat, n < 256 → (c == UInt8.ofNat n) = decide (c.toNat = n) := by
      intro n hn
      rw [Bool.eq_iff_iff, beq_iff_eq, decide_eq_true_iff, ← u8_eq c n hn]
      omega
    have h47 := h 47 (by omega)
    have h58 := h 58 (by omega)
    have h46 := h 46 (by omega)
    have h95 := h 95 (by omega)
    have h45 := h 45 (by omega)
    simp only [show UInt8.ofNat 47 = 47 from rfl, show UInt8.ofNat 58 = 58 from rfl, show UInt8.ofNat 46 = 46 from rfl, show UInt8.ofNat 95 = 95 from rfl, show UInt8.ofNat 45 = 45 from rfl] at h47 h58 h46 h95 h45
    rw [h47, h58, h46, h95, h45, isDg]
    simp [Bool.or_assoc]
  rw [e]
  generalize c.toNat = n
  by_cases hh : (48 ≤ n ∧ n ≤ 57) ∨ n = 47 ∨ n = 58 ∨ n = 46 ∨ n = 95 ∨ n = 45
  · rw [decide_eq_true hh]
    simp only [if_true]
    repeat' split
    all_goals first | rfl | omega
  · rw [decide_eq_false hh]
    simp only [Bool.false_eq_true, if_false]
    repeat' split
    all_goals first | rfl | omega

theorem denom_l0 (l : List UInt8) (hn : l.length ≤ 100000) : ∀ (d i k : Nat), l.length - i = d → i ≤ l.length → d < k → types_zzDenom.l0 k (bs l) (i : Int) = some ((l.drop i).all isOt) := by
  intro d
  induction d with
  | zero =>
    intro i k h0 h1 hk
    obtain ⟨k, rfl⟩ : ∃ j, k = j + 1 := ⟨k - 1, by omega⟩
    simp only [types_zzDenom.l0]
    rw [if_neg (by rw [bs_size]; omega), List.drop_of_length_le (by omega)]; rfl
  | succ d ih =>
    intro i k h0 h1 hk
    obtain ⟨k, rfl⟩ : ∃ j, k = j + 1 := ⟨k - 1, by omega⟩
    have hi : i < l.length := by omega
    have hr := ih (i + 1) k (by omega) (by omega) (by omega)
    simp only [types_zzDenom.l0]
    rw [if_pos (by rw [bs_size]; omega), if_pos (by omega), bt_bs l i hi, letter_f, wrap_succ _ (by omega), hr, List.drop_eq_getElem_cons hi, List.all_cons]
    simp only [Option.bind_some]
    generalize l[i] = c
    generalize (l.drop (i + 1)).all isOt = b
    rw [isOt_if]
    unfold isOt
    cases isLe c with
    | true => simp
    | false =>
      rw [if_neg (by simp), Bool.false_or]
      generalize (isDg c || c == 47 || c == 58 || c == 46 || c == 95 || c == 45) = q
      cases q <;> simp
theorem denom_f (l : List UInt8) (hn : l.length ≤ 100000) : types_zzDenom.f 200000 (bs l) = some (isDen l) := by
  have hj : ∀ b, types_zzDenom.j0 200000 (bs l) b = if b = true then some false else types_zzDenom.l0 199999 (bs l) 1 := by
    intro b
    simp only [types_zzDenom.j0]
  unfold types_zzDenom.f isDen
  rw [bs_size]
  by_cases h1 : l.length < 3
  · rw [if_pos (by omega), hj, if_pos rfl, decide_eq_false (by omega)]; simp
  · rw [if_neg (by omega)]
    by_cases h2 : l.length > 128
    · rw [if_pos (by omega), hj, if_pos rfl, decide_eq_false (p := l.length ≤ 128) (by omega)]; simp
    · rw [if_neg (by omega), if_pos (by omega), decide_eq_true (by omega), decide_eq_true (by omega)]
      cases l with
      | nil => simp at h1
      | cons c r =>
        have hb := bt_bs (c :: r) 0 (by simp)
        rw [show ((0 : Nat) : Int) = 0 from rfl] at hb
        rw [hb, List.getElem_cons_zero, letter_f]
        simp only [Option.bind_some]
        have hl := denom_l0 (c :: r) hn r.length 1 199999 (by simp) (by simp) (by simp at hn; omega)
        rw [show ((1 : Nat) : Int) = 1 from rfl] at hl
        rw [hj, hl]
        cases hc : isLe c with
        | true => simp [isOt, hc]
        | false => simp [hc]
theorem zzDenom_88 (l : List UInt8) (hn : l.length ≤ 100000) (w : World) : Calls Tryz.prog 88 #[.string (bs l)] w fun e w' => e = .returned (.bool (isDen l)) ∧ ∃ n, w' = w.drewN n :=
  (types_zzDenom.calls 200000 _ _ w (denom_f l hn)).mono fun e w' ⟨h1, h2⟩ => ⟨h1, h2.out⟩
theorem zzBlank_66 (c : UInt8) (w : World) : Calls Tryz.prog 66 #[.int .u8 (c.toNat : Nat)] w fun e w' => e = .returned (.bool (bl c)) ∧ ∃ n, w' = w.drewN n :=
  (types_zzBlank.calls _ _ w (blank_f c)).mono fun e w' ⟨h1, h2⟩ => ⟨h1, h2.out⟩

end Go.Proofs.YtnajekpckbfcdaaGreatDoor

namespace Go.Proofs.YtnajekpckbfcdaaGreatDoor
open Go.RowKit Go.Proofs.YtnajekpckbfcdaaGreatDoorW.PrintWords Go.Proofs.YtnajekpckbfcdaaGreatDoor.PFnParseDecs

section
variable (a0 a1 : List UInt8) (b : Bool) (a3 a4 a5 a6 : List UInt8)
end
end Go.Proofs.YtnajekpckbfcdaaGreatDoor

namespace Go.Proofs.YtnajekpckbfcdaaGreatDoor
open Go.RowKit

def Match3 (s a b : List UInt8) (w : World) (e : Ending) (w' : World) : Prop :=
  ∃ g, e = .returned (.slice (some ⟨g, 0, none⟩) 3 3) ∧ Blk w' g 9 #[.string (bs s), .string (bs a), .string (bs b)] ∧ Upd [] w w' ∧ w.heap.size ≤ g

set_option maxHeartbeats 1000000 in
theorem zzDecCoin_plain_yes (l N  M D : List UInt8) (n : Nat) (hW : ∀ x ∈ N, isDg x = true) (hn : 0 < n) (hR : ∀ c, (M ++ D).head? = some c → isDg c = false ∧ c ≠ 46) (hN : N.length = n) (hl0 : l = N ++ (M ++ D)) (hM : ∀ x ∈ M, bl x = true) (hD : isDen D = true) (hne : ∃ c r, D = c :: r ∧ bl c = false) (hl : l.length ≤ 100000) (w : World) :
    Calls Tryz.prog 60 #[.string (bs l)] w (Match3 l N D w) := by
  have z1 : (bs l).size = l.length := bs_size l
  have zl : l.length = n + (M.length + D.length) := by rw [hl0]; simp [hN]
  have hle : n + M.length ≤ l.length := by omega
  have HB := hide (fun (i : Nat) (h1 : n ≤ i) (h2 : i < n + M.length) (h : i < (bs l).size) => (show bl ((bs l)[i]'h) = true from by
    rw [bs_get l i h]
    have e : l[i]'(by omega) = M[i - n]'(by omega) := by
      simp only [hl0]
      rw [List.getElem_append_right (by omega), List.getElem_append_left (by omega)]
      congr 1; omega
    rw [e]; exact hM _ (List.getElem_mem _)))
  have HE := hide (fun (i : Nat) (h1 : i = n + M.length) (h : i < (bs l).size) => (show bl ((bs l)[i]'h) = false from by
    obtain ⟨c, r, rfl, hc⟩ := hne
    rw [bs_get l i h]
    have e : l[i]'(by omega) = c := by
      simp only [hl0]
      rw [List.getElem_append_right (by omega), List.getElem_append_right (by omega)]
      simp only [h1, hN, Nat.add_sub_cancel_left, Nat.sub_self, List.getElem_cons_zero]
    rw [e]; exact hc))
  have hdl : 0 < D.length := by obtain ⟨c, r, rfl, _⟩ := hne; simp
  have HX := hide (show (bs l).extract (n + M.length) l.length = bs D by
    rw [bs_extract, List.take_of_length_le (Nat.le_refl _), hl0, ← List.append_assoc, List.drop_left' (by simp [hN])])
  have HN := hide (show (bs l).extract 0 n = bs N by
    rw [bs_extract, hl0, List.take_left' hN]; rfl)
  have HV := hide (fun w => zzDenom_88 D (by omega) w)
  rw [hD] at HV
  have HD := hide (fun w => zzDigits_87 [] N (M ++ D) hW (fun c hc => (hR c hc).1) (by simp only [List.length_append, List.length_nil]; omega) w)
  simp only [List.nil_append, List.length_nil, Nat.zero_add, ← hl0, hN] at HD
  have n0 : ((0 : Nat) : Int) = 0 := rfl
  have hn0 : ¬ (n : Int) = 0 := by omega
  have hn1 : ((n : Int) == 0) = false := beq_eq_false_iff_ne.2 hn0
  have hcase : l.length = n ∨ ∃ h : n < (bs l).size, (((((bs l)[n]'h).toNat : Nat) : Int) == 46) = false := by
    cases hmd : M ++ D with
    | nil => left; rw [hl0, hmd]; simp [hN]
    | cons c r =>
      right
      have hlt : n < (bs l).size := by rw [bs_size, hl0, hmd]; simp [hN]
      refine ⟨hlt, ?_⟩
      have e : (bs l)[n]'hlt = c := by
        rw [bs_get l n hlt]
        simp only [hl0, hmd]
        rw [List.getElem_append_right (by omega)]
        simp [hN]
      rw [e, beq_eq_false_iff_ne]
      intro h
      exact (hR c (by rw [hmd]; rfl)).2 ((u8_eq _ 46 (by omega)).1 (by simpa using h))
  have ZL := hide zl
  have HDL := hide hdl
  clear hW hR hM hl0 hN n0 hne hD zl hdl
  rcases hcase with hc | ⟨hlt, hc⟩
  · exfalso; have := ZL.out; have := HDL.out; omega
  · have hlt' : n < l.length := by omega
    have t0 : decide ((n : Int) < (l.length : Int)) = true := decide_eq_true (by omega)
    go_enter Tryz.func60, Tryz.ntmps60
    go_wp2_with fail
    refine (HD.out _).mono ?_
    rintro e w2 ⟨rfl, q0, rfl⟩
    clear HD
    go_wp2
    clear hc t0
    go_loopw [5] (fun v wr => ∃ i : Nat, n ≤ i ∧ i ≤ n + M.length ∧ v = .int .i64 i ∧ Upd [] w wr) (fun v _ => l.length - (intOf v).toNat)
    case atStart => exact ⟨n, Nat.le_refl _, by omega, rfl, by first | exact (Upd.refl _ _).drewN _ | exact ((Upd.refl _ _).drewN _).drewN _⟩
    case round =>
      obtain ⟨i, hi1, hi2, rfl, hu⟩ := hrel
      rcases (by omega : i < n + M.length ∨ i = n + M.length) with hlt | heq0
      · have hil : i < (bs l).size := by omega
        have hb := HB.out i hi1 hlt hil
        have HZ := hide (fun w => zzBlank_66 ((bs l)[i]'hil) w)
        rw [hb] at HZ
        clear hb
        have t1 : decide ((i : Int) < (l.length : Int)) = true := decide_eq_true (by omega)
        have u1 : wrap64 ((i : Int) + 1) = ((i + 1 : Nat) : Int) := by unfold wrap64; omega
        go_wp2_with fail
        refine (HZ.out _).mono ?_
        rintro e w3 ⟨rfl, q, rfl⟩
        clear HZ
        go_wp2
        go_roundw
        case rel => exact ⟨i + 1, by omega, by omega, by first | rfl | (rw [u1]) | go_num, hu.drewN _⟩
        case measure => simp [intOf]; omega
      · have heq := hide heq0
        have hge : n + M.length ≤ i := by omega
        clear heq0
        have hil : i < (bs l).size := by have := ZL.out; have := heq.out; have := HDL.out; omega
        have hb := HE.out i heq.out hil
        have HZ := hide (fun w => zzBlank_66 ((bs l)[i]'hil) w)
        rw [hb] at HZ
        clear hb
        have hx : (bs l).extract i l.length = bs D := by rw [heq.out]; exact HX.out
        have t1 : decide ((i : Int) < (l.length : Int)) = true := decide_eq_true (by omega)
        go_wp2_with fail
        refine (HZ.out _).mono ?_
        rintro e w3 ⟨rfl, q, rfl⟩
        have hu3 := hu.drewN q
        clear HZ hu
        generalize wr.drewN q = w4 at hu3 ⊢
        go_wp2_with fail
        refine (HV.out _).mono ?_
        rintro e w5 ⟨rfl, q5, rfl⟩
        have hu5 := hu3.drewN q5
        clear hu3
        generalize w4.drewN q5 = w6 at hu5 ⊢
        have hx2 : (bs l).extract 0 n = bs N := HN.out
        have t3 : (n : Int) ≤ (l.length : Int) := by omega
        have t4 : (i : Int) ≤ (l.length : Int) := by omega
        go_wp2_with fail
        go_region
        all_goals (
          go_wp2
          go_ret
          exact ⟨w6.heap.size, by simp, Blk.new _ _ _, (hu5.alloc _).drew, hu5.size⟩)

set_option maxHeartbeats 1000000 in
theorem zzDecCoin_point_yes (l N W F M D : List UInt8) (n : Nat) (m : Nat) (hm : m = W.length) (hNN : N = W ++ 46 :: F) (hW : ∀ x ∈ W, isDg x = true) (hF : ∀ x ∈ F, isDg x = true) (hFne : F ≠ []) (hR : ∀ c, (M ++ D).head? = some c → isDg c = false) (hN : N.length = n) (hl0 : l = N ++ (M ++ D)) (hM : ∀ x ∈ M, bl x = true) (hD : isDen D = true) (hne : ∃ c r, D = c :: r ∧ bl c = false) (hl : l.length ≤ 100000) (w : World) :
    Calls Tryz.prog 60 #[.string (bs l)] w (Match3 l N D w) := by
  have z1 : (bs l).size = l.length := bs_size l
  have zl : l.length = n + (M.length + D.length) := by rw [hl0]; simp [hN]
  have hle : n + M.length ≤ l.length := by omega
  have HB := hide (fun (i : Nat) (h1 : n ≤ i) (h2 : i < n + M.length) (h : i < (bs l).size) => (show bl ((bs l)[i]'h) = true from by
    rw [bs_get l i h]
    have e : l[i]'(by omega) = M[i - n]'(by omega) := by
      simp only [hl0]
      rw [List.getElem_append_right (by omega), List.getElem_append_left (by omega)]
      congr 1; omega
    rw [e]; exact hM _ (List.getElem_mem _)))
  have HE := hide (fun (i : Nat) (h1 : i = n + M.length) (h : i < (bs l).size) => (show bl ((bs l)[i]'h) = false from by
    obtain ⟨c, r, rfl, hc⟩ := hne
    rw [bs_get l i h]
    have e : l[i]'(by omega) = c := by
      simp only [hl0]
      rw [List.getElem_append_right (by omega), List.getElem_append_right (by omega)]
      simp only [h1, hN, Nat.add_sub_cancel_left, Nat.sub_self, List.getElem_cons_zero]
    rw [e]; exact hc))
  have hdl : 0 < D.length := by obtain ⟨c, r, rfl, _⟩ := hne; simp
  have HX := hide (show (bs l).extract (n + M.length) l.length = bs D by
    rw [bs_extract, List.take_of_length_le (Nat.le_refl _), hl0, ← List.append_assoc, List.drop_left' (by simp [hN])])
  have HN := hide (show (bs l).extract 0 n = bs N by
    rw [bs_extract, hl0, List.take_left' hN]; rfl)
  have HV := hide (fun w => zzDenom_88 D (by omega) w)
  rw [hD] at HV
  have hW0 : m = W.length := hm
  have HD := hide (fun w => zzDigits_87 [] W (46 :: (F ++ (M ++ D))) hW (fun c hc => by simp at hc; subst hc; rfl) (by have := congrArg List.length hl0; simp [hNN] at this; simp; omega) w)
  have HF := hide (fun w => zzDigits_87 (W ++ [46]) F (M ++ D) hF hR (by have := congrArg List.length hl0; simp [hNN] at this; simp; omega) w)
  have e1 : W ++ 46 :: (F ++ (M ++ D)) = l := by rw [hl0, hNN]; simp
  have e2 : W ++ [46] ++ F ++ (M ++ D) = l := by rw [hl0, hNN]; simp
  have e3 : (W ++ [46]).length = m + 1 := by simp [hm]
  have e4 : n = m + 1 + F.length := by rw [← hN, hNN]; simp [hm]; omega
  simp only [List.nil_append, List.length_nil, Nat.zero_add, e1, ← hm] at HD
  rw [e2, e3, ← e4] at HF
  have n0 : ((0 : Nat) : Int) = 0 := rfl
  have hml : m < (bs l).size := by omega
  have hc46 : (((((bs l)[m]'hml).toNat : Nat) : Int) == 46) = true := by
    have e : (bs l)[m]'hml = 46 := by
      rw [bs_get l m hml]
      simp only [← e1]
      rw [List.getElem_append_right (by omega)]
      simp [hm]
    rw [e]; rfl
  have hfl : 0 < F.length := by cases F with
    | nil => exact absurd rfl hFne
    | cons a r => simp
  have hmn : m + 1 < n := by omega
  have t1 : ((n : Int) == (m : Int) + 1) = false := beq_eq_false_iff_ne.2 (by omega)
  have t1' : ((n : Int) == ((m + 1 : Nat) : Int)) = false := beq_eq_false_iff_ne.2 (by omega)
  have hn0 : ¬ (n : Int) = 0 := by omega
  have hn1 : ((n : Int) == 0) = false := beq_eq_false_iff_ne.2 hn0
  have u0 : wrap64 ((m : Int) + 1) = ((m + 1 : Nat) : Int) := by unfold wrap64; omega
  have t0 : decide ((m : Int) < (l.length : Int)) = true := decide_eq_true (by omega)
  have hmm : m < l.length := by omega
  have ZL := hide zl
  have HDL := hide hdl
  clear hW hR hM hl0 hN n0 hNN hFne hF e1 e2 e3 e4 hm hW0 hfl hne hD zl hdl
  go_enter Tryz.func60, Tryz.ntmps60
  go_wp2_with fail
  refine (HD.out _).mono ?_
  rintro e w2 ⟨rfl, q0, rfl⟩
  clear HD
  go_wp2_with fail
  refine (HF.out _).mono ?_
  rintro e w3 ⟨rfl, q1, rfl⟩
  clear HF hc46
  go_wp2
  · skip
    go_loopw [5] (fun v wr => ∃ i : Nat, n ≤ i ∧ i ≤ n + M.length ∧ v = .int .i64 i ∧ Upd [] w wr) (fun v _ => l.length - (intOf v).toNat)
    case atStart => exact ⟨n, Nat.le_refl _, by omega, rfl, by first | exact (Upd.refl _ _).drewN _ | exact ((Upd.refl _ _).drewN _).drewN _⟩
    case round =>
      obtain ⟨i, hi1, hi2, rfl, hu⟩ := hrel
      rcases (by omega : i < n + M.length ∨ i = n + M.length) with hlt | heq0
      · have hil : i < (bs l).size := by omega
        have hb := HB.out i hi1 hlt hil
        have HZ := hide (fun w => zzBlank_66 ((bs l)[i]'hil) w)
        rw [hb] at HZ
        clear hb
        have t1 : decide ((i : Int) < (l.length : Int)) = true := decide_eq_true (by omega)
        have u1 : wrap64 ((i : Int) + 1) = ((i + 1 : Nat) : Int) := by unfold wrap64; omega
        go_wp2_with fail
        refine (HZ.out _).mono ?_
        rintro e w3 ⟨rfl, q, rfl⟩
        clear HZ
        go_wp2
        go_roundw
        case rel => exact ⟨i + 1, by omega, by omega, by first | rfl | (rw [u1]) | go_num, hu.drewN _⟩
        case measure => simp [intOf]; omega
      · have heq := hide heq0
        have hge : n + M.length ≤ i := by omega
        clear heq0
        have hil : i < (bs l).size := by have := ZL.out; have := heq.out; have := HDL.out; omega
        have hb := HE.out i heq.out hil
        have HZ := hide (fun w => zzBlank_66 ((bs l)[i]'hil) w)
        rw [hb] at HZ
        clear hb
        have hx : (bs l).extract i l.length = bs D := by rw [heq.out]; exact HX.out
        have t1 : decide ((i : Int) < (l.length : Int)) = true := decide_eq_true (by omega)
        go_wp2_with fail
        refine (HZ.out _).mono ?_
        rintro e w3 ⟨rfl, q, rfl⟩
        have hu3 := hu.drewN q
        clear HZ hu
        generalize wr.drewN q = w4 at hu3 ⊢
        go_wp2_with fail
        refine (HV.out _).mono ?_
        rintro e w5 ⟨rfl, q5, rfl⟩
        have hu5 := hu3.drewN q5
        clear hu3
        generalize w4.drewN q5 = w6 at hu5 ⊢
        have hx2 : (bs l).extract 0 n = bs N := HN.out
        have t3 : (n : Int) ≤ (l.length : Int) := by omega
        have t4 : (i : Int) ≤ (l.length : Int) := by omega
        go_wp2_with fail
        go_region
        all_goals (
          go_wp2
          go_ret
          exact ⟨w6.heap.size, by simp, Blk.new _ _ _, (hu5.alloc _).drew, hu5.size⟩)

end Go.Proofs.YtnajekpckbfcdaaGreatDoor
