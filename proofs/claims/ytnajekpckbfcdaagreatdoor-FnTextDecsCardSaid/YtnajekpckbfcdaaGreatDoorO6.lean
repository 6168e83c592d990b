/-
  FnTextDecs: the walk.
-/
import Derived.Test.YtnajekpckbfcdaaGreatDoorO4
import Derived.Test.YtnajekpckbfcdaaGreatDoorO5
import Derived.Test.YtnajekpckbfcdaaGreatDoorN7
import Derived.Test.YtnajekpckbfcdaaGreatDoorM16
set_option linter.unusedVariables false
set_option linter.unusedSimpArgs false
namespace Go.Proofs.YtnajekpckbfcdaaGreatDoor
open Go.RowKit

theorem isLe_range {c : UInt8} (h : isLe c = true) : (97 ≤ c.toNat ∧ c.toNat ≤ 122) ∨ (65 ≤ c.toNat ∧ c.toNat ≤ 90) := by
  unfold isLe at h
  simp only [Bool.or_eq_true, Bool.and_eq_true, decide_eq_true_eq] at h
  exact h
theorem isOt_range {c : UInt8} (h : isOt c = true) : 32 < c.toNat ∧ c.toNat ≤ 126 ∧ c ≠ 44 := by
  unfold isOt at h
  simp only [Bool.or_eq_true] at h
  rcases h with (((((h | h) | h) | h) | h) | h) | h
  · have := isLe_range h
    refine ⟨by omega, by omega, ?_⟩
    rintro rfl
    simp at this
  · have := (isDg_iff c).1 h
    refine ⟨by omega, by omega, ?_⟩
    rintro rfl
    simp at this
  all_goals (have := eq_of_beq h; subst this; decide)
theorem tn_dg (n m : Nat) : ∀ x ∈ tn n m, isDg x = true := pd_dg _ _
theorem tn_dv (n m : Nat) : dv (tn n m) = n := by
  unfold tn
  rw [pd_dv]
  exact Nat.mod_eq_of_lt (Nat.lt_of_lt_of_le (nd_lt n) (Nat.pow_le_pow_right (by decide) (by omega)))
theorem tn_len1 (n k : Nat) (h : n < 10 ^ k) (hk : 1 ≤ k) : 1 ≤ (tn n 1).length ∧ (tn n 1).length ≤ k := by
  have := nd_le k n h
  unfold tn
  rw [pd_len]
  omega
theorem tn_len18 (n : Nat) (h : n < 1000000000000000000) : (tn n 18).length = 18 := by
  have := nd_le 18 n h
  unfold tn
  rw [pd_len]
  omega
theorem den_parts {d : List UInt8} (h : isDen d = true) : d.length ≤ 128 ∧ (∀ x ∈ d, isOt x = true) ∧ ∃ c r, d = c :: r ∧ isLe c = true := by
  unfold isDen at h
  simp only [Bool.and_eq_true, decide_eq_true_eq] at h
  obtain ⟨⟨⟨h1, h2⟩, h3⟩, h4⟩ := h
  refine ⟨h2, List.all_eq_true.1 h4, ?_⟩
  cases d with
  | nil => simp at h1
  | cons c r => exact ⟨c, r, rfl, h3⟩
/-- A number, perhaps with parts behind a point, and a denomination: right as a part. -/
theorem plain_ok {W F d : List UInt8} {pt : Bool} (hd : isDen d = true) (hW : ∀ x ∈ W, isDg x = true) (hF : ∀ x ∈ F, isDg x = true) (hWl : W.length ≤ 25) (hFl : F.length ≤ 30) (hv : dv W < 1000000000000000000) (hp : pt = false → F = []) :
    Part.Ok ⟨[], W, pt, F, [], d, []⟩ := by
  obtain ⟨h1, h2, c, r, rfl, h3⟩ := den_parts hd
  refine ⟨by simp, by simp, by simp, by simp, by simp, by simp, hWl, hW, hv, hFl, hF, hp, (by show (c :: r).length ≤ 140; omega), fun x hx => isOt_range (h2 x hx), ?_⟩
  intro c' hc'
  simp at hc'
  subst hc'
  have := isLe_range h3
  constructor
  · cases hh : isDg c with
    | false => rfl
    | true => have := (isDg_iff c).1 hh; omega
  · rintro rfl
    simp at this

/-- A decimal coin's text as a part. -/
def decPart (x : List UInt8 × Nat) : Part := ⟨[], tn (x.2 / 1000000000000000000) 1, true, tn (x.2 % 1000000000000000000) 18, [], x.1, []⟩
theorem decPart_text (x : List UInt8 × Nat) : (decPart x).text = dText x := by
  unfold decPart Part.text Part.num dText decText
  simp
theorem decPart_ok {x : List UInt8 × Nat} (hd : isDen x.1 = true) (hx : x.2 < 10 ^ 36) : (decPart x).Ok := by
  have h1 : x.2 / 1000000000000000000 < 10 ^ 18 := Nat.div_lt_of_lt_mul (by rw [show 1000000000000000000 * 10 ^ 18 = 10 ^ 36 by decide]; exact hx)
  have h2 := tn_len1 _ 18 h1 (by omega)
  have h3 := tn_len18 (x.2 % 1000000000000000000) (Nat.mod_lt _ (by decide))
  exact plain_ok hd (tn_dg _ _) (tn_dg _ _) (by omega) (by omega) (by rw [tn_dv]; exact h1) (fun h => by cases h)
theorem decPart_rd {x : List UInt8 × Nat} (hd : isDen x.1 = true) (hx : x.2 < 10 ^ 36) : (decPart x).rd = some x := by
  have h1 : x.2 / 1000000000000000000 < 10 ^ 18 := Nat.div_lt_of_lt_mul (by rw [show 1000000000000000000 * 10 ^ 18 = 10 ^ 36 by decide]; exact hx)
  have h2 := tn_len1 _ 18 h1 (by omega)
  have h3 := tn_len18 (x.2 % 1000000000000000000) (Nat.mod_lt _ (by decide))
  have hw : (tn (x.2 / 1000000000000000000) 1).isEmpty = false := by
    cases h : tn (x.2 / 1000000000000000000) 1 with
    | nil => rw [h] at h2; simp at h2
    | cons a r => rfl
  have hf : (tn (x.2 % 1000000000000000000) 18).isEmpty = false := by
    cases h : tn (x.2 % 1000000000000000000) 18 with
    | nil => rw [h] at h3; simp at h3
    | cons a r => rfl
  have he : (decPart x).expr = true := by
    unfold Part.expr decPart
    simp only [hw, hf, hd]
    rfl
  have ha : (decPart x).amt = true := by
    unfold Part.amt decPart
    simp only [hw, h3]
    decide
  unfold Part.rd
  rw [he, ha]
  have hdv : dv (decPart x).digits = x.2 := by
    unfold Part.digits decPart
    simp only [h3, Nat.sub_self, List.replicate_zero, List.append_nil]
    rw [dv_append, h3, tn_dv, tn_dv]
    have := Nat.div_add_mod x.2 1000000000000000000
    rw [show (10 : Nat) ^ 18 = 1000000000000000000 by decide]
    omega
  simp only [Bool.and_self, if_true, hdv]
  rfl

/-- Coins that are right, as they are read. -/
def toC (x : XC) : List UInt8 × Nat := (x.d, x.a.toNat * 1000000000000000000 + x.b.toNat)
theorem icells_toC : ∀ L : List XC, (∀ x ∈ L, x.Ok) → icells L = xcells (L.map toC)
  | [], _ => rfl
  | x :: r, h => by
    obtain ⟨_, h1, h2, h3, h4, _⟩ := h x (by simp)
    show _ :: _ :: _ :: icells r = _ :: _ :: _ :: xcells (r.map toC)
    rw [icells_toC r (fun y hy => h y (List.mem_cons_of_mem _ hy))]
    have e1 : ((((toC x).2 / 1000000000000000000 : Nat)) : Int) = x.a := by unfold toC; dsimp only; omega
    have e2 : ((((toC x).2 % 1000000000000000000 : Nat)) : Int) = x.b := by unfold toC; dsimp only; omega
    rw [e1, e2]
    rfl
theorem toC_ok {x : XC} (h : x.Ok) : isDen (toC x).1 = true ∧ (toC x).2 ≠ 0 ∧ (toC x).2 < 10 ^ 36 ∧ (toC x).2 / 1000000000000000000 = x.a.toNat ∧ (toC x).2 % 1000000000000000000 = x.b.toNat := by
  obtain ⟨h0, h1, h2, h3, h4, h5⟩ := h
  refine ⟨h0, ?_, ?_, ?_, ?_⟩
  · unfold toC; dsimp only; omega
  · have : (toC x).2 < 1000000000000000000 * 1000000000000000000 := by unfold toC; dsimp only; omega
    exact Nat.lt_of_lt_of_le this (by decide)
  · unfold toC; dsimp only; omega
  · unfold toC; dsimp only; omega
theorem strictC_of : ∀ L : List (List UInt8 × Nat), (∀ (k : Nat) (h : k + 1 < L.length), Op.bytesLess L[k].1 L[k + 1].1 = true) → StrictC L
  | [], _ => List.Pairwise.nil
  | [x], _ => List.pairwise_singleton _ _
  | x :: y :: r, h => by
    have ih : StrictC (y :: r) := strictC_of (y :: r) (fun k hk => h (k + 1) (by simpa using hk))
    have h0 := h 0 (by simp)
    refine List.Pairwise.cons ?_ ih
    intro z hz
    rcases List.mem_cons.1 hz with rfl | hz
    · exact h0
    · exact less_trans _ _ _ h0 (List.rel_of_pairwise_cons ih hz)
theorem XOk.strict {L : List XC} (h : XOk L) : StrictC (L.map toC) := strictC_of _ (fun k hk => by
  have := h.2 k (by simpa using hk)
  simpa [toC] using this)

/-- ParseDecs of the text of coins that are right. -/
theorem ParseDecs_back (cs : List (List UInt8 × Nat)) (hok : ∀ x ∈ cs, isDen x.1 = true ∧ x.2 ≠ 0 ∧ x.2 < 10 ^ 36) (hs : StrictC cs) (h12 : cs.length ≤ 12) (w : World) (hG : Gl w) :
    Calls Tryz.prog 11 #[.string (bs (joinC 44 (cs.map dText)))] w fun e w' => ∃ v, e = .returned (.tuple #[v, .string ⟨#[]⟩]) ∧ w'.ownsRow w.heap.size 44 3 v cs.length (xcells cs) ∧ Upd [] w w' := by
  by_cases hne : cs = []
  · subst hne
    refine (ParseDecs_blank [] trim_nil (by simp) w).mono ?_
    rintro e w' ⟨rfl, hu⟩
    exact ⟨_, rfl, World.ownsRow_nil _ _ _ _, hu⟩
  · have hps : ∀ p ∈ cs.map decPart, p.Ok := by
      intro p hp
      obtain ⟨x, hx, rfl⟩ := List.mem_map.1 hp
      exact decPart_ok (hok x hx).1 (hok x hx).2.2
    have htx : cs.map dText = (cs.map decPart).map Part.text := by
      rw [List.map_map]
      exact List.map_congr_left (fun x _ => (decPart_text x).symm)
    have hpn : cs.map decPart ≠ [] := by simpa using hne
    have hJ : (spl 44 (joinC 44 (cs.map dText))).map trim = (cs.map decPart).map Part.core := by
      rw [htx]; exact pieces_text _ hps hpn
    have hll : (joinC 44 (cs.map dText)).length ≤ 10000 := by
      have h1 := joinC_len 44 214 (cs.map dText) (by
        rw [htx]
        intro l hl
        obtain ⟨p, hp, rfl⟩ := List.mem_map.1 hl
        exact (hps p hp).text_len)
      rw [List.length_map] at h1
      omega
    have htn : trim (joinC 44 (cs.map dText)) ≠ [] := by
      match cs, hne, hps with
      | [x], _, hps =>
        show trim (dText x) ≠ []
        rw [← decPart_text, (hps (decPart x) (by simp)).trim_text]
        intro e
        have hd : (decPart x).denom ≠ [] := isDen_ne (hok x (by simp)).1
        unfold Part.core at e
        rw [if_neg hd] at e
        split at e
        · exact hd e
        · rename_i hn
          exact hn (List.append_eq_nil_iff.1 e).1
      | x :: y :: r, _, _ =>
        apply trim_comma
        apply joinC_comma
        simp
    have hnz : nzr cs = cs := by
      unfold nzr
      rw [List.filter_eq_self]
      intro x hx
      exact decide_eq_true (hok x hx).2.1
    refine (ParseDecs_good (cs.map decPart) cs hps _ hJ hll htn (by simp) (by
      intro k hk
      have hk' : k < cs.length := by simpa using hk
      refine ⟨cs[k], List.getElem?_eq_getElem hk', ?_⟩
      rw [List.getElem_map]
      exact decPart_rd (hok _ (List.getElem_mem _)).1 (hok _ (List.getElem_mem _)).2.2) (by simpa using h12)
      (fun x hx => ⟨(hok x hx).1, Nat.le_trans (den_parts (hok x hx).1).1 (by omega)⟩) (fun x hx => Nat.lt_trans (hok x hx).2.2 (by decide)) w hG).mono ?_
    rintro e w' ⟨l', hp, hasc, hu, hres⟩
    rw [hnz] at hp
    obtain ⟨hst, heq⟩ := sorted_eq hp hasc hs (List.Perm.refl _)
    rcases hres with ⟨_, v, rfl, hown⟩ | ⟨hno, _⟩
    · have hl : l'.length = cs.length := by rw [← heq, List.length_map]
      rw [heq, hl] at hown
      exact ⟨v, rfl, hown, hu⟩
    · exact absurd hst hno

end Go.Proofs.YtnajekpckbfcdaaGreatDoor

namespace Go.Proofs.YtnajekpckbfcdaaGreatDoor
open Go.RowKit

/-- The text of the first j coins, and of one more. -/
theorem dtx_len (cs : List (List UInt8 × Nat)) (j : Nat) (h12 : cs.length ≤ 12) (h : ∀ x ∈ cs, x.2 < 10 ^ 36 ∧ x.1.length ≤ 128) : (joinC 44 ((cs.map dText).take j)).length ≤ 10000 := by
  have h1 := joinC_len 44 200 ((cs.map dText).take j) (by
    intro l hl
    obtain ⟨x, hx, rfl⟩ := List.mem_map.1 (List.mem_of_mem_take hl)
    have h2 := decText_len x.2 (h x hx).1
    have h3 := (h x hx).2
    unfold dText
    rw [List.length_append]; omega)
  have h2 : ((cs.map dText).take j).length ≤ 12 := by rw [List.length_take, List.length_map]; omega
  omega

theorem RdS.of_own {w : World} {base n : Nat} {e : TypeId} {v : Value} {xs : List Value} (h : w.ownsRow base e 3 v n xs) : ∃ A c, v = .slice A n c ∧ n ≤ c ∧ RdS w A n xs := by
  rcases Nat.eq_zero_or_pos n with h0 | h0
  · obtain ⟨a, c, rfl, hc⟩ := own_slice h
    exact ⟨a, c, rfl, hc, fun h' => by omega⟩
  · obtain ⟨g, cap, rfl, _, hc, hcells⟩ := own_cells h h0
    exact ⟨_, _, rfl, hc, fun _ => ⟨_, rfl, fun j u hj => by rw [addr_add0]; exact hcells j u hj⟩⟩
theorem Leaf.grow {w w' : World} (h : Leaf w) (hu : Upd [] w w') : Leaf w' := (hu.cell (p := ⟨12, 0, none⟩) (lt_of_cell h) (by simp)).trans h

set_option maxRecDepth 20000 in
set_option maxHeartbeats 8000000 in
theorem FnTextDecs_any (L : List XC) (A : Option Addr) (c : Nat) (w : World) (hA : RdS w A L.length (icells L)) (hG : Gl w) (hl : Leaf w) :
    Calls Tryz.prog 5 #[.slice A L.length c] w fun e w' => e = .returned (.bool true) ∧ Upd [] w w' := by
  have H1 := hide (zzFits3_16 L A c w hA)
  have TA := hide (fun w hG => textAwake_9 w hG)
  obtain ⟨n, hne⟩ : ∃ n, L.length = n := ⟨_, rfl⟩
  have HN := hide hne
  have HA := hide hA
  have HG := hide hG
  have HL := hide hl
  rw [hne] at HA H1 ⊢
  obtain ⟨i0, hi, hz0, hz1, hz2⟩ := info_parts info46
  clear hne hA hG hl
  go_enter Tryz.func5, Tryz.ntmps5
  go_wp2_with fail
  refine H1.out.mono ?_
  rintro e w2 ⟨r, rfl, hr, hu⟩
  cases r with
  | false =>
    clear H1 hr
    go_wp2
    go_ret
    exact ⟨rfl, hu⟩
  | true =>
    have hr2 := hr rfl
    have hn : n ≤ 2147483647 := by have := hr2.1; have := HN.out; omega
    have HD := hide hr2.2
    clear H1 hr hr2
    have hs2 := hu.size
    go_wp2_with fail
    go_loopw [3, 16] (fun v i wr => ∃ k : Nat, k ≤ n ∧ i = .int .i64 k ∧ wr.ownsRow w.heap.size 46 3 v k (icells (L.take k)) ∧ Upd [] w wr) (fun _ i _ => n - (intOf i).toNat)
    case atStart => exact ⟨0, by omega, rfl, World.ownsRow_nil _ _ _ _, hu⟩
    case round =>
      clear hu hs2
      obtain ⟨k, hk, rfl, hown, hu⟩ := hrel
      have HOWN := hide hown
      clear hown
      rcases (by omega : k < n ∨ k = n) with hlt | rfl
      · have hkl : k < L.length := by have := HN.out; omega
        obtain ⟨e0, e1, e2⟩ := icells_get L k hkl
        obtain ⟨ad, rfl, c0, c1, c2⟩ := (HA.out.grow hu).at3 (by omega) e0 e1 e2
        have htk : L.take (k + 1) = L.take k ++ [L[k]] := List.take_succ_eq_append_getElem hkl
        have HTK := hide htk
        have s1 : (k : Int) < (n : Int) := by omega
        clear htk e0 e1 e2
        generalize L[k] = x at *
        obtain ⟨d, a, b⟩ := x
        dsimp only at c0 c1 c2
        have u2 := hu.alloc (.cells #[.string (bs d), .int .i64 a, .int .i64 b] 44)
        have hT2 := Blk.new wr 44 #[.string (bs d), .int .i64 a, .int .i64 b]
        have HO2 := hide (HOWN.out.alloc (.cells #[.string (bs d), .int .i64 a, .int .i64 b] 44))
        clear HOWN hu
        go_upto_region 7 with (fail)
        clear c0 c1 c2
        obtain ⟨Y, hY⟩ : ∃ Y, wr.heap.size = Y := ⟨_, rfl⟩
        rw [hY] at hT2 ⊢
        generalize wr.alloc (.cells #[.string (bs d), .int .i64 a, .int .i64 b] 44) = w4 at *
        clear hY
        have y0 := hT2.c3a
        have y1 := hT2.c3b
        have y2 := hT2.c3
        have hwb := u2.size
        go_wp2_with (first
          | (at_builtin; refine wpList_append_own _ rfl _ _ 34 rfl w.heap.size 46 i0 (.agg #[.string ⟨#[]⟩, .int .i64 0, .int .i64 0]) 3 32 Tryz.underlying34 hi hz0 hz1 hz2 rfl (by decide) _ _ _ rfl (HO2.out.alloc _) ⟨w4.heap.size, 0, none⟩ 1 1 [.string (bs d), .int .i64 a, .int .i64 b] rfl rfl ?d1 ?d2 ?d3 ?d4 ?d5 ?_)
          | fail)
        case d1 =>
          intro j u hj
          match j, hj with
          | 0, hj => simp at hj; subst hj; simp [Addr.add]
          | 1, hj => simp at hj; subst hj; simp [Addr.add]
          | 2, hj => simp at hj; subst hj; simp [Addr.add]
          | j + 3, hj => simp at hj
        case d2 =>
          intro u hu
          simp at hu
          rcases hu with rfl | rfl | rfl <;> rfl
        case d3 => unfold maxLen; omega
        case d4 => omega
        case d5 => simp; omega
        intro v' w5 hown' hgrow _
        have u5 : Upd [] w w5 := Upd.of_below ((Below.alloc (u2.below (Nat.le_refl _) (by simp)) hwb _).grown hgrow (by simp; omega) (fun k hk => (World.ownsRow.lt HO2.out k hk).1)) []
        have ho5 : w5.ownsRow w.heap.size 46 3 v' (k + 1) (icells (L.take (k + 1))) := by
          rw [HTK.out, icells_append]; exact hown'
        have HO5 := hide ho5
        clear ho5 hown' hgrow HO2 u2
        go_wp2
        go_roundw
        case rel => exact ⟨k + 1, by omega, by go_num, HO5.out, u5⟩
        case measure => first | (simp [intOf]; done) | (simp [intOf]; omega)
      · have s1 : ¬ (k : Int) < (k : Int) := by omega
        have hlk : L.take k = L := List.take_of_length_le (by have := HN.out; omega)
        rw [hlk] at HOWN
        obtain ⟨A2, c2, rfl, hc2, hR2⟩ := RdS.of_own HOWN.out
        have HTV := hide (fun (w' : World) (hu' : Upd [] wr w') => HN.out ▸ TextValid_17 L A2 c2 w' (by rw [HN.out]; exact hn) HD.out (HN.out.symm ▸ (hR2.grow hu')))
        have HR2 := hide hR2
        clear hlk hR2 HD
        go_wp2_with fail
        refine (HTV.out _ (Upd.refl _ _)).mono ?_
        rintro e w6 ⟨r, rfl, hr, hu6⟩
        have u6 := hu.on0 hu6
        clear HTV
        cases r with
        | false =>
          clear hr
          go_wp2_with fail
          refine (TA.out _ (HG.out.grow u6)).mono ?_
          rintro e w7 ⟨rfl, hu7⟩
          go_wp2
          go_ret
          exact ⟨rfl, u6.on0 hu7⟩
        | true =>
          obtain ⟨hk12, hok⟩ := hr rfl
          obtain ⟨cs, hcs⟩ : ∃ cs, L.map toC = cs := ⟨_, rfl⟩
          have hcl : cs.length = k := by rw [← hcs, List.length_map]; exact HN.out
          have hX : icells L = xcells cs := by rw [← hcs]; exact icells_toC L hok.1
          have hst : StrictC cs := by rw [← hcs]; exact hok.strict
          have hco : ∀ x ∈ cs, isDen x.1 = true ∧ x.2 ≠ 0 ∧ x.2 < 10 ^ 36 ∧ x.2 / 1000000000000000000 < 9223372036854775808 ∧ x.1.length ≤ 128 := by
            intro x hx
            rw [← hcs] at hx
            obtain ⟨y, hy, rfl⟩ := List.mem_map.1 hx
            obtain ⟨a1, a2, a3, a4, a5⟩ := toC_ok (hok.1 y hy)
            have := (hok.1 y hy).2.2.1
            exact ⟨a1, a2, a3, by omega, (den_parts a1).1⟩
          rw [hX] at HA HOWN HR2
          have hk12' : k ≤ 12 := by have := HN.out; omega
          have HO6 := hide (own_grow HOWN.out hu6)
          have HR6 := hide (HR2.out.grow hu6)
          have HCL := hide hcl
          have HST := hide hst
          have HCO := hide hco
          clear hcs hcl hX hst hco hok hr hk12 HOWN HR2 HN hu hu6
          obtain ⟨tx, htx⟩ : ∃ tx, cs.map dText = tx := ⟨_, rfl⟩
          have HTX := hide htx
          have hlen : ∀ j, (joinC 44 (tx.take j)).length ≤ 10000 := fun j => by
            rw [← htx]
            exact dtx_len cs j (by rw [HCL.out]; exact hk12') (fun x hx => ⟨(HCO.out x hx).2.2.1, (HCO.out x hx).2.2.2.2⟩)
          have HLEN := hide hlen
          have htl : tx.length = k := by rw [← htx, List.length_map]; exact HCL.out
          have HTL := hide htl
          clear htx hlen htl
          go_wp2_with fail
          obtain ⟨wo, rfl⟩ : ∃ wo, wo = wr := ⟨_, rfl⟩
          go_loopw [6, 39] (fun s i wr2 => ∃ j : Nat, j ≤ k ∧ i = .int .i64 j ∧ s = .string (bs (joinC 44 (tx.take j))) ∧ Upd [] w6 wr2) (fun _ i _ => k - (intOf i).toNat)
          case atStart => exact ⟨0, by omega, rfl, by simp [joinC, bs], Upd.refl _ _⟩
          case round =>
            obtain ⟨j, hj, rfl, rfl, hu⟩ := hrel
            rcases (by omega : j < k ∨ j = k) with hlt | rfl
            · have hjl : j < cs.length := by have := HCL.out; omega
              have hjt : j < tx.length := by have := HTL.out; omega
              obtain ⟨e0, e1, e2⟩ := xcells_get cs j hjl
              obtain ⟨ad, rfl, c0, c1, c2⟩ := (HR6.out.grow hu).at3 (by omega) e0 e1 e2
              obtain ⟨hd, _, hm36, hq63, hdl⟩ := HCO.out cs[j] (List.getElem_mem _)
              have htj : tx[j] = decText cs[j].2 ++ cs[j].1 := by
                have h := HTX.out
                subst h
                simp [dText]
              have hdt := decText_len cs[j].2 hm36
              have hstep : 0 < j → joinC 44 (tx.take (j + 1)) = joinC 44 (tx.take j) ++ 44 :: (decText cs[j].2 ++ cs[j].1) := fun h0 => by
                rw [joinC_take 44 _ j hjt h0, htj]
              have hstep0 : j = 0 → joinC 44 (tx.take (j + 1)) = decText cs[j].2 ++ cs[j].1 := by
                rintro rfl
                rw [List.take_succ_eq_append_getElem hjt, htj]; rfl
              have hjlen := HLEN.out j
              have s1 : (j : Int) < (k : Int) := by omega
              have hr18 : cs[j].2 % 1000000000000000000 < 9223372036854775808 := by omega
              clear e0 e1 e2 htj hd hm36
              unfold decText at hstep hstep0 hdt
              generalize cs[j] = x at *
              obtain ⟨d, m⟩ := x
              dsimp only at c0 c1 c2 hq63 hdl hdt hstep hstep0 hr18
              generalize m / 1000000000000000000 = q at *
              generalize m % 1000000000000000000 = r at *
              have HW : Hid (∀ w, Calls Tryz.prog 18 #[.int .i64 q, .int .i64 1] w fun e w' => e = .returned (.string (bs (tn q 1))) ∧ Upd [] w w') := fun w => TextNumber_18 q 1 hq63 (by omega) w
              have HF : Hid (∀ w, Calls Tryz.prog 18 #[.int .i64 r, .int .i64 18] w fun e w' => e = .returned (.string (bs (tn r 18))) ∧ Upd [] w w') := fun w => TextNumber_18 r 18 hr18 (by omega) w
              obtain ⟨J1, hJ1⟩ : ∃ J1, joinC 44 (tx.take (j + 1)) = J1 := ⟨_, rfl⟩
              obtain ⟨J0, hJ0e⟩ : ∃ J0, joinC 44 (tx.take j) = J0 := ⟨_, rfl⟩
              have HJ1 := hide hJ1
              have HJ0 := hide hJ0e
              rw [hJ1, hJ0e] at hstep
              rw [hJ1] at hstep0
              rw [hJ0e] at hjlen ⊢
              generalize tn q 1 = W at *
              generalize tn r 18 = F at *
              rw [List.length_append, List.length_cons] at hdt
              have zW := bs_size W
              have zF := bs_size F
              have zD := bs_size d
              have zJ := bs_size J0
              have hst0 : j = 0 → bs J0 ++ (bs W ++ (⟨#[46]⟩ : ByteArray) ++ bs F ++ bs d) = bs J1 := fun h => by
                rw [hstep0 h, show (⟨#[46]⟩ : ByteArray) = bs [46] from rfl, bs_append, bs_append, bs_append, bs_append]
                have : J0 = [] := by rw [← hJ0e, h]; rfl
                rw [this]
                simp
              have hst1 : 0 < j → bs J0 ++ (⟨#[44]⟩ : ByteArray) ++ (bs W ++ (⟨#[46]⟩ : ByteArray) ++ bs F ++ bs d) = bs J1 := fun h => by
                rw [hstep h, show (⟨#[46]⟩ : ByteArray) = bs [46] from rfl, show (⟨#[44]⟩ : ByteArray) = bs [44] from rfl, bs_append, bs_append, bs_append, bs_append, bs_append]
                simp
              have HS0 := hide hst0
              have HS1 := hide hst1
              have w1 : (bs W).size ≤ 8388608 := by omega
              have w2 : (bs F).size ≤ 8388608 := by omega
              have w3 : (bs d).size ≤ 8388608 := by omega
              have w4 : (bs J0).size ≤ 8388608 := by omega
              clear hJ1 hJ0e hstep hstep0 hst0 hst1 hq63 hr18 zW zF zD zJ hdl hdt hjlen
              generalize bs W = BW at *
              generalize bs F = BF at *
              generalize bs d = D at *
              generalize bs J0 = BJ at *
              have u2 := hu.alloc (.cells #[.string D, .int .i64 q, .int .i64 r] 46)
              have hT2 := Blk.new wr 46 #[.string D, .int .i64 q, .int .i64 r]
              have s2 := hu.size
              clear hu
              go_upto_region 15 with (fail)
              clear c0 c1 c2
              obtain ⟨Y, hY⟩ : ∃ Y, wr.heap.size = Y := ⟨_, rfl⟩
              rw [hY] at hT2 s2 ⊢
              generalize wr.alloc (.cells #[.string D, .int .i64 q, .int .i64 r] 46) = w4' at *
              clear hY
              have z1 : ¬ 9223372036854775807 < BW.size + 1 := by omega
              have z2 : ¬ 9223372036854775807 < BW.size + 1 + BF.size := by omega
              have z3 : ¬ 9223372036854775807 < BW.size + 1 + BF.size + D.size := by omega
              have z4 : ¬ 9223372036854775807 < BJ.size + (BW.size + 1 + BF.size + D.size) := by omega
              rcases Nat.eq_zero_or_pos j with h0 | h0
              · have hcat := hide (HS0.out h0)
                have k0 : ¬ (0 : Int) < (j : Int) := by omega
                clear HS0 HS1
                go_upto_region 17 with (fail)
                have u3 := u2.drew
                have hT3 := hT2.drew
                have y0 := hT3.c3a
                have y1 := hT3.c3b
                have y2 := hT3.c3
                clear u2 hT2
                go_region_held3 (fun w' => w'.cell? ⟨Y, 0, none⟩ = some (.string D) ∧ w'.cell? ⟨Y, 1, none⟩ = some (.int .i64 q) ∧ w'.cell? ⟨Y, 2, none⟩ = some (.int .i64 r))
                  (first | exact ⟨f0, f1, f2⟩ | exact ⟨d0, d1, d2⟩ | exact ⟨y0, y1, y2⟩)
                  (first
                    | (go_at_call 18; (with_reducible refine (HW.out _).mono ?_); rintro e w7 ⟨rfl, hu7⟩; have u7 := u3.on0 hu7; have hT7 := hT3.grow hu7; have d0 := hT7.c3a; have d1 := hT7.c3b; have d2 := hT7.c3)
                    | (go_at_call 18; (with_reducible refine (HF.out _).mono ?_); rintro e w8 ⟨rfl, hu8⟩; have u8 := u7.on0 hu8; have hT8 := hT7.grow hu8; have f0 := hT8.c3a; have f1 := hT8.c3b; have f2 := hT8.c3))
                clear HW HF u3 hT3 y0 y1 y2 hu7 u7 hT7 d0 d1 d2 hu8 hT8 f0 f1 f2
                go_wp2
                go_roundw
                case rel => exact ⟨j + 1, by omega, by go_num, by rw [HJ1.out, ← hcat.out], u8⟩
                case measure => first | (simp [intOf]; done) | (simp [intOf]; omega)
              · have hcat := hide (HS1.out h0)
                have k0 : (0 : Int) < (j : Int) := by omega
                have z0 : ¬ 9223372036854775807 < BJ.size + 1 := by omega
                have z5 : ¬ 9223372036854775807 < BJ.size + 1 + (BW.size + 1 + BF.size + D.size) := by omega
                have zj : (BJ.size : Int) ≤ 8388608 := by omega
                clear HS0 HS1
                go_upto_region 17 with (fail)
                have u3 := u2.drew
                have hT3 := hT2.drew
                have y0 := hT3.c3a
                have y1 := hT3.c3b
                have y2 := hT3.c3
                clear u2 hT2
                go_region_held3 (fun w' => w'.cell? ⟨Y, 0, none⟩ = some (.string D) ∧ w'.cell? ⟨Y, 1, none⟩ = some (.int .i64 q) ∧ w'.cell? ⟨Y, 2, none⟩ = some (.int .i64 r))
                  (first | exact ⟨f0, f1, f2⟩ | exact ⟨d0, d1, d2⟩ | exact ⟨y0, y1, y2⟩)
                  (first
                    | (go_at_call 18; (with_reducible refine (HW.out _).mono ?_); rintro e w7 ⟨rfl, hu7⟩; have u7 := u3.on0 hu7; have hT7 := hT3.grow hu7; have d0 := hT7.c3a; have d1 := hT7.c3b; have d2 := hT7.c3)
                    | (go_at_call 18; (with_reducible refine (HF.out _).mono ?_); rintro e w8 ⟨rfl, hu8⟩; have u8 := u7.on0 hu8; have hT8 := hT7.grow hu8; have f0 := hT8.c3a; have f1 := hT8.c3b; have f2 := hT8.c3))
                clear HW HF u3 hT3 y0 y1 y2 hu7 u7 hT7 d0 d1 d2 hu8 hT8 f0 f1 f2
                go_wp2
                go_roundw
                case rel => exact ⟨j + 1, by omega, by go_num, by rw [HJ1.out, ← hcat.out], u8⟩
                case measure => first | (simp [intOf]; done) | (simp [intOf]; omega)
            · have s1 : ¬ (j : Int) < (j : Int) := by omega
              have hlk : tx.take j = tx := List.take_of_length_le (by have := HTL.out; omega)
              have u7 := u6.on0 hu
              rw [hlk]
              have hpd := fun w' hG => ParseDecs_back cs (fun x hx => ⟨(HCO.out x hx).1, (HCO.out x hx).2.1, (HCO.out x hx).2.2.1⟩) HST.out (by rw [HCL.out]; exact hk12') w' hG
              rw [HTX.out, HCL.out] at hpd
              have HPD := hide hpd
              have hdt : ∀ w', Upd [] wr w' → Calls Tryz.prog 19 #[.slice A j c] w' fun e w'' => e = .returned (.string (bs (joinC 44 tx))) ∧ Upd [] w' w'' := fun w' hu' => by
                have h := DecTextOf_19 cs A c (by rw [HCL.out]; omega) (fun x hx => ⟨(HCO.out x hx).2.1, (HCO.out x hx).2.2.1, Nat.le_trans (HCO.out x hx).2.2.2.2 (by omega)⟩) w' (HCL.out.symm ▸ (HA.out.grow (u7.on0 hu'))) (HL.out.grow (u7.on0 hu'))
                rw [HTX.out, HCL.out] at h
                exact h
              have HDT := hide hdt
              have HO7 := hide (own_grow HO6.out hu)
              have HSA := hide (fun (w' : World) (hu' : Upd [] wr w') (v : Value) (b : Nat) (hv : w'.ownsRow b 44 3 v j (xcells cs)) => textSame_14 cs v (.slice A2 j c2) b w.heap.size (by rw [HCL.out]; omega) w' (by rw [HCL.out]; exact hv) (by rw [HCL.out]; exact own_grow HO7.out hu'))
              clear hpd hdt HO6 HO7 HR6 HA HLEN HTL HTX HCO HST HCL hlk
              generalize bs (joinC 44 tx) = T at *
              have q1 : (T.toList == T.toList) = true := by simp
              go_wp2_with fail
              refine (HPD.out _ (HG.out.grow u7)).mono ?_
              rintro e w8 ⟨v, rfl, hv, hu8⟩
              have u8 := u7.on0 hu8
              have HV := hide hv
              clear HPD hv
              go_wp2_with fail
              refine (HDT.out _ hu8).mono ?_
              rintro e w9 ⟨rfl, hu9⟩
              have u9 := u8.on0 hu9
              have U9 := hu8.on0 hu9
              have HV9 := hide (own_grow HV.out hu9)
              clear HDT HV hu8 hu9
              go_wp2_with fail
              refine (HSA.out _ U9 _ _ HV9.out).mono ?_
              rintro e w10 ⟨rfl, hu10⟩
              have u10 := u9.on0 hu10
              clear HSA HV9 U9 hu10
              go_wp2_with fail
              refine (TA.out _ (HG.out.grow u10)).mono ?_
              rintro e w11 ⟨rfl, hu11⟩
              go_wp2
              go_ret
              exact ⟨rfl, u10.on0 hu11⟩

end Go.Proofs.YtnajekpckbfcdaaGreatDoor
