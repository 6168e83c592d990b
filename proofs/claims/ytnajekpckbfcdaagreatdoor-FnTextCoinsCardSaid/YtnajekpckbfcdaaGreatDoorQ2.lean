/-
  FnTextCoins: the walk.
-/
import Derived.Test.YtnajekpckbfcdaaGreatDoorQ1
import Derived.Test.YtnajekpckbfcdaaGreatDoorO6
set_option linter.unusedVariables false
set_option linter.unusedSimpArgs false
namespace Go.Proofs.YtnajekpckbfcdaaGreatDoor
open Go.RowKit

theorem Blk.own {w w' : World} {g base s n : Nat} {t e : TypeId} {cs : Array Value} {v : Value} {xs : List Value} (h : Blk w g t cs) (hown : w.ownsRow base e s v n xs) (hg : w.grownBy w' v.ownBlock) (ht : t ≠ e) : Blk w' g t cs := by
  rcases hown.2 with ⟨rfl, _⟩ | ⟨g', cap, cur, rfl, _, hgb, _⟩
  · exact (hg.block g h.lt (by simp [Value.ownBlock])).trans h
  · have hB : Blk w g' e cur := hgb
    have hne := h.ne_ hB ht
    exact (hg.block g h.lt (by simp [Value.ownBlock]; exact hne)).trans h
/-- A coin as it is wanted. -/
def toX (c : CC) : XC := ⟨c.d, c.a, 0⟩
/-- A coin's text: none where it is not above 0. -/
def jText (c : CC) : List UInt8 := if 0 < c.a then tn c.a.toNat 1 ++ c.d else []
theorem jText_len (c : CC) (h : c.a < 9223372036854775808) (hd : c.d.length ≤ 2147483647) : (jText c).length ≤ 2147483677 := by
  unfold jText
  split
  · have := tn_len1 c.a.toNat 19 (by have : c.a.toNat < 9223372036854775808 := by omega
                                     exact Nat.lt_trans this (by decide)) (by omega)
    rw [List.length_append]; omega
  · simp

/-- Coins that are right. -/
theorem wh_toX (c : CC) : wh (toC (toX c)) = (c.d, c.a.toNat) := by
  unfold wh toC toX
  dsimp only
  rw [Int.toNat_zero, Nat.add_zero, Nat.mul_div_cancel _ (by decide)]
theorem toX_pos {c : CC} (h : (toX c).Ok) : 0 < c.a ∧ c.a ≤ 100000000000000000 := by
  obtain ⟨_, h1, h2, _, _, h5⟩ := h
  have e1 : (toX c).a = c.a := rfl
  have e2 : (toX c).b = 0 := rfl
  rw [e1] at h1 h2 h5
  rw [e2] at h5
  omega
theorem toX_one {c : CC} (ho : (toX c).Ok) : isDen (toC (toX c)).1 = true ∧ (toC (toX c)).2 ≠ 0 ∧ (toC (toX c)).2 < 10 ^ 36 ∧ (toC (toX c)).2 % 1000000000000000000 = 0 ∧ (wh (toC (toX c))).2 ≠ 0 ∧ (wh (toC (toX c))).2 < 10 ^ 18 ∧ (wh (toC (toX c))).1.length ≤ 128 := by
  obtain ⟨a1, a2, a3, a4, a5⟩ := toC_ok ho
  obtain ⟨h1, h2⟩ := toX_pos ho
  have e2 : (toX c).b.toNat = 0 := rfl
  rw [e2] at a5
  refine ⟨a1, a2, a3, a5, ?_⟩
  rw [wh_toX]
  refine ⟨?_, ?_, (den_parts ho.1).1⟩
  · show c.a.toNat ≠ 0
    omega
  · rw [show (10 : Nat) ^ 18 = 1000000000000000000 by decide]
    show c.a.toNat < 1000000000000000000
    omega
theorem jText_eq {c : CC} (ho : (toX c).Ok) : jText c = cText (wh (toC (toX c))) := by
  rw [wh_toX]
  unfold jText cText
  rw [if_pos (toX_pos ho).1]
theorem jcells_eq : ∀ M : List CC, (∀ c ∈ M, (toX c).Ok) → jcells M = wcells (((M.map toX).map toC).map wh)
  | [], _ => rfl
  | c :: r, hM => by
    have ho := hM c (by simp)
    have ih := jcells_eq r (fun y hy => hM y (List.mem_cons_of_mem _ hy))
    rw [List.map_cons, List.map_cons, List.map_cons, wh_toX]
    show Value.string (bs c.d) :: Value.int .i64 c.a :: jcells r = Value.string (bs c.d) :: Value.int .i64 ((c.a.toNat : Nat) : Int) :: wcells (((r.map toX).map toC).map wh)
    rw [ih, Int.toNat_of_nonneg (by have := (toX_pos ho).1; omega)]
theorem jtexts_eq : ∀ M : List CC, (∀ c ∈ M, (toX c).Ok) → M.map jText = (((M.map toX).map toC).map wh).map cText
  | [], _ => rfl
  | c :: r, hM => by
    have ho := hM c (by simp)
    have ih := jtexts_eq r (fun y hy => hM y (List.mem_cons_of_mem _ hy))
    rw [List.map_cons, List.map_cons, List.map_cons, List.map_cons, List.map_cons, jText_eq ho, ih]
theorem coins_ok {L : List CC} (h : XOk (L.map toX)) : (∀ x ∈ (L.map toX).map toC, isDen x.1 = true ∧ x.2 ≠ 0 ∧ x.2 < 10 ^ 36 ∧ x.2 % 1000000000000000000 = 0 ∧ (wh x).2 ≠ 0 ∧ (wh x).2 < 10 ^ 18 ∧ (wh x).1.length ≤ 128) ∧
    L.map jText = (((L.map toX).map toC).map wh).map cText ∧ jcells L = wcells (((L.map toX).map toC).map wh) := by
  have hx : ∀ c ∈ L, (toX c).Ok := fun c hc => h.1 (toX c) (List.mem_map.2 ⟨c, hc, rfl⟩)
  refine ⟨?_, jtexts_eq L hx, jcells_eq L hx⟩
  intro x hx'
  obtain ⟨y, hy, rfl⟩ := List.mem_map.1 hx'
  obtain ⟨c, hc, rfl⟩ := List.mem_map.1 hy
  exact toX_one (hx c hc)

set_option maxRecDepth 20000 in
set_option maxHeartbeats 8000000 in
theorem FnTextCoins_any (L : List CC) (A : Option Addr) (c : Nat) (w : World) (hA : RdS w A L.length (jcells L)) (hR : ∀ x ∈ L, x.a < 9223372036854775808) (hG : Gl w) (hl : Leaf w) :
    Calls Tryz.prog 6 #[.slice A L.length c] w fun e w' => e = .returned (.bool true) ∧ Upd [] w w' := by
  have H1 := hide (zzFits5_20 L A c w hA)
  have TA := hide (fun w hG => textAwake_9 w hG)
  obtain ⟨n, hne⟩ : ∃ n, L.length = n := ⟨_, rfl⟩
  have HN := hide hne
  have HA := hide hA
  have HG := hide hG
  have HL := hide hl
  have HR := hide hR
  rw [hne] at HA H1 ⊢
  obtain ⟨i0, hi, hz0, hz1, hz2⟩ := info_parts info46
  clear hne hA hG hl hR
  go_enter Tryz.func6, Tryz.ntmps6
  go_wp2_with fail
  refine H1.out.mono ?_
  rintro e w2 ⟨r, rfl, hr, hu⟩
  cases r with
  | false =>
    clear H1 hr
    go_wp2
    go_ret
    exact ⟨rfl, hu⟩
  | true =>
    have hr2 := hr rfl
    have hn : n ≤ 2147483647 := by have := hr2.1; have := HN.out; omega
    have HD := hide hr2.2
    clear H1 hr hr2
    have hs2 := hu.size
    obtain ⟨tx, htx⟩ : ∃ tx, L.map jText = tx := ⟨_, rfl⟩
    have hjl : ∀ x ∈ L, (jText x).length ≤ 2147483677 := fun x hx => jText_len x (HR.out x hx) (HD.out x hx)
    have HJL := hide hjl
    have hlen : ∀ k, (joinC 44 (tx.take k)).length ≤ 2147483678 * 2147483647 := fun k => by
      have h1 := joinC_len 44 2147483677 (tx.take k) (by
        intro u hu
        have := List.mem_of_mem_take hu
        rw [← htx] at this
        obtain ⟨x, hx, rfl⟩ := List.mem_map.1 this
        exact hjl x hx)
      have h2 : (tx.take k).length ≤ 2147483647 := by rw [List.length_take, ← htx, List.length_map, HN.out]; omega
      exact Nat.le_trans h1 (Nat.mul_le_mul_left _ h2)
    have HLEN := hide hlen
    have htl : tx.length = n := by rw [← htx, List.length_map]; exact HN.out
    have HTL := hide htl
    have HTX := hide htx
    clear htx hjl hlen htl
    go_wp2_with fail
    go_loopw [3, 4, 14] (fun v s i wr => ∃ k : Nat, k ≤ n ∧ i = .int .i64 k ∧ s = .string (bs (joinC 44 (tx.take k))) ∧ wr.ownsRow w.heap.size 46 3 v k (icells ((L.map toX).take k)) ∧ Upd [] w wr) (fun _ _ i _ => n - (intOf i).toNat)
    case atStart => exact ⟨0, by omega, rfl, by simp [joinC, bs], World.ownsRow_nil _ _ _ _, hu⟩
    case round =>
      clear hu hs2
      obtain ⟨k, hk, rfl, rfl, hown, hu⟩ := hrel
      have HOWN := hide hown
      clear hown
      rcases (by omega : k < n ∨ k = n) with hlt | rfl
      · have hkl : k < L.length := by have := HN.out; omega
        have hkt : k < tx.length := by have := HTL.out; omega
        obtain ⟨e0, e1⟩ := jcells_get L k hkl
        obtain ⟨ad, rfl, c0, c1⟩ := (HA.out.grow hu).at2 (by omega) e0 e1
        have htk : L.take (k + 1) = L.take k ++ [L[k]] := List.take_succ_eq_append_getElem hkl
        have HTK := hide htk
        have htj : tx[k] = jText L[k] := by
          have h := HTX.out
          subst h
          simp
        have hstep : 0 < k → joinC 44 (tx.take (k + 1)) = joinC 44 (tx.take k) ++ 44 :: jText L[k] := fun h0 => by
          rw [joinC_take 44 _ k hkt h0, htj]
        have hstep0 : k = 0 → joinC 44 (tx.take (k + 1)) = jText L[k] := by
          rintro rfl
          rw [List.take_succ_eq_append_getElem hkt, htj]; rfl
        have hjlen := HLEN.out k
        have hjl := HJL.out L[k] (List.getElem_mem _)
        have hra := HR.out L[k] (List.getElem_mem _)
        have s1 : (k : Int) < (n : Int) := by omega
        clear htk e0 e1 htj
        generalize L[k] = x at *
        obtain ⟨d, a⟩ := x
        dsimp only at c0 c1 hra
        obtain ⟨J1, hJ1⟩ : ∃ J1, joinC 44 (tx.take (k + 1)) = J1 := ⟨_, rfl⟩
        obtain ⟨J0, hJ0e⟩ : ∃ J0, joinC 44 (tx.take k) = J0 := ⟨_, rfl⟩
        have HJ1 := hide hJ1
        have HJ0 := hide hJ0e
        rw [hJ1, hJ0e] at hstep
        rw [hJ1] at hstep0
        rw [hJ0e] at hjlen ⊢
        have hst0 : k = 0 → J0 = [] := fun h => by rw [← hJ0e, h]; rfl
        have HS0 := hide (fun h => And.intro (hst0 h) (hstep0 h))
        have HS1 := hide hstep
        have zJ : (bs J0).size ≤ 2147483678 * 2147483647 := by rw [bs_size]; exact hjlen
        clear hJ1 hJ0e hstep hstep0 hst0 hjlen
        have u2 := hu.alloc (.cells #[.string (bs d), .int .i64 a] 52)
        have hT2 := Blk.new wr 52 #[.string (bs d), .int .i64 a]
        have HO2 := hide (HOWN.out.alloc (.cells #[.string (bs d), .int .i64 a] 52))
        clear HOWN hu
        go_upto_region 8 with (fail)
        clear c0 c1
        obtain ⟨Y, hY⟩ : ∃ Y, wr.heap.size = Y := ⟨_, rfl⟩
        rw [hY] at hT2 ⊢
        generalize wr.alloc (.cells #[.string (bs d), .int .i64 a] 52) = w4 at *
        clear hY
        have y0 := hT2.fst
        have y1 := hT2.snd
        have hwb := u2.size
        go_upto_region 9 with (first
          | (at_builtin; refine wpList_append_own _ rfl _ _ 34 rfl w.heap.size 46 i0 (.agg #[.string ⟨#[]⟩, .int .i64 0, .int .i64 0]) 3 32 Tryz.underlying34 hi hz0 hz1 hz2 rfl (by decide) _ _ _ rfl (HO2.out.alloc _) ⟨w4.heap.size, 0, none⟩ 1 1 [.string (bs d), .int .i64 a, .int .i64 0] rfl rfl ?d1 ?d2 ?d3 ?d4 ?d5 ?_)
          | fail)
        case d1 =>
          intro j u hj
          match j, hj with
          | 0, hj => simp at hj; subst hj; simp [Addr.add]
          | 1, hj => simp at hj; subst hj; simp [Addr.add]
          | 2, hj => simp at hj; subst hj; simp [Addr.add]
          | j + 3, hj => simp at hj
        case d2 =>
          intro u hu
          simp at hu
          rcases hu with rfl | rfl | rfl <;> rfl
        case d3 => unfold maxLen; omega
        case d4 => omega
        case d5 => simp; omega
        intro v' w5 hown' hgrow _
        have u5 : Upd [] w w5 := Upd.of_below ((Below.alloc (u2.below (Nat.le_refl _) (by simp)) hwb _).grown hgrow (by simp; omega) (fun k hk => (World.ownsRow.lt HO2.out k hk).1)) []
        have hT5 : Blk w5 Y 52 #[.string (bs d), .int .i64 a] := (hT2.alloc _).own (HO2.out.alloc _) hgrow (by decide)
        have ho5 : w5.ownsRow w.heap.size 46 3 v' (k + 1) (icells ((L.map toX).take (k + 1))) := by
          rw [← List.map_take, HTK.out, List.map_append, icells_append, List.map_take]; exact hown'
        have HO5 := hide ho5
        clear ho5 hown' hgrow HO2 u2 hT2 y0 y1
        have y0 := hT5.fst
        have y1 := hT5.snd
        have hcs : 0 < a ∨ ¬ 0 < a := by omega
        have hJx : jText ⟨d, a⟩ = if 0 < a then tn a.toNat 1 ++ d else [] := rfl
        rw [hJx] at hjl HS0 HS1
        clear hJx
        have m0 : ¬ 9223372036854775807 < (bs J0).size + 1 := by omega
        rcases hcs with ha | ha
        · rw [if_pos ha] at hjl HS0 HS1
          obtain ⟨q, hq⟩ : ∃ q : Nat, a = (q : Int) := ⟨a.toNat, by omega⟩
          subst hq
          rw [Int.toNat_natCast] at hjl HS0 HS1
          have HW : Hid (∀ w, Calls Tryz.prog 18 #[.int .i64 q, .int .i64 1] w fun e w' => e = .returned (.string (bs (tn q 1))) ∧ Upd [] w w') := fun w => TextNumber_18 q 1 (by omega) (by omega) w
          generalize tn q 1 = W at *
          rw [List.length_append] at hjl
          have zW := bs_size W
          have zD := bs_size d
          have hst0 : k = 0 → bs J0 ++ (bs W ++ bs d) = bs J1 := fun h => by
            rw [(HS0.out h).2, (HS0.out h).1, bs_append, bs_append]; simp
          have hst1 : 0 < k → bs J0 ++ (⟨#[44]⟩ : ByteArray) ++ (bs W ++ bs d) = bs J1 := fun h => by
            rw [HS1.out h, show (⟨#[44]⟩ : ByteArray) = bs [44] from rfl, bs_append, bs_append, bs_append]; simp
          have H0 := hide hst0
          have H1 := hide hst1
          have m1 : ¬ 9223372036854775807 < (bs W).size + (bs d).size := by omega
          have m2 : ¬ 9223372036854775807 < (bs J0).size + ((bs W).size + (bs d).size) := by omega
          have m3 : ¬ 9223372036854775807 < (bs J0).size + 1 + ((bs W).size + (bs d).size) := by omega
          clear hst0 hst1 HS0 HS1 zW zD hjl zJ hra
          generalize bs W = BW at *
          generalize bs d = D at *
          generalize bs J0 = BJ at *
          have ha' : (0 : Int) < (q : Int) := by omega
          rcases Nat.eq_zero_or_pos k with h0 | h0
          · have hcat := hide (H0.out h0)
            have k0 : ¬ (0 : Int) < (k : Int) := by omega
            clear H0 H1
            go_upto_region 12 with (fail)
            have u6 := u5.drew
            have hT6 := hT5.drew
            have y0 := hT6.fst
            have y1 := hT6.snd
            go_region_held3 (fun w' => w'.cell? ⟨Y, 0, none⟩ = some (.string D) ∧ w'.cell? ⟨Y, 1, none⟩ = some (.int .i64 q))
              (first | exact ⟨d0, d1⟩ | exact ⟨y0, y1⟩)
              (first
                | (go_at_call 18; (with_reducible refine (HW.out _).mono ?_); rintro e w7 ⟨rfl, hu7⟩; have u7 := u6.on0 hu7; have hT7 := hT6.grow hu7; have d0 := hT7.fst; have d1 := hT7.snd))
            have HO7 := hide (own_grow HO5.out ((Upd.refl [] w5).drew.on0 hu7))
            clear HW u6 hT6 y0 y1 hT7 d0 d1 hu7 HO5 hT5 u5
            go_wp2
            go_roundw
            case rel => exact ⟨k + 1, by omega, by go_num, by rw [HJ1.out, ← hcat.out], HO7.out, u7⟩
            case measure => first | (simp [intOf]; done) | (simp [intOf]; omega)
          · have hcat := hide (H1.out h0)
            have k0 : (0 : Int) < (k : Int) := by omega
            clear H0 H1
            go_upto_region 12 with (fail)
            have u6 := u5.drew
            have hT6 := hT5.drew
            have y0 := hT6.fst
            have y1 := hT6.snd
            go_region_held3 (fun w' => w'.cell? ⟨Y, 0, none⟩ = some (.string D) ∧ w'.cell? ⟨Y, 1, none⟩ = some (.int .i64 q))
              (first | exact ⟨d0, d1⟩ | exact ⟨y0, y1⟩)
              (first
                | (go_at_call 18; (with_reducible refine (HW.out _).mono ?_); rintro e w7 ⟨rfl, hu7⟩; have u7 := u6.on0 hu7; have hT7 := hT6.grow hu7; have d0 := hT7.fst; have d1 := hT7.snd))
            have HO7 := hide (own_grow HO5.out ((Upd.refl [] w5).drew.on0 hu7))
            clear HW u6 hT6 y0 y1 hT7 d0 d1 hu7 HO5 hT5 u5
            go_wp2
            go_roundw
            case rel => exact ⟨k + 1, by omega, by go_num, by rw [HJ1.out, ← hcat.out], HO7.out, u7⟩
            case measure => first | (simp [intOf]; done) | (simp [intOf]; omega)
        · rw [if_neg ha] at hjl HS0 HS1
          have zD := bs_size d
          have hst0 : k = 0 → bs J0 = bs J1 := fun h => by rw [(HS0.out h).2, (HS0.out h).1]
          have hst1 : 0 < k → bs J0 ++ (⟨#[44]⟩ : ByteArray) = bs J1 := fun h => by
            rw [HS1.out h, show (⟨#[44]⟩ : ByteArray) = bs [44] from rfl, bs_append]
          have H0 := hide hst0
          have H1 := hide hst1
          clear hst0 hst1 HS0 HS1 zD hjl zJ hra
          generalize bs d = D at *
          generalize bs J0 = BJ at *
          rcases Nat.eq_zero_or_pos k with h0 | h0
          · have hcat := hide (H0.out h0)
            have k0 : ¬ (0 : Int) < (k : Int) := by omega
            clear H0 H1
            go_wp2
            go_roundw
            case rel => exact ⟨k + 1, by omega, by go_num, by rw [HJ1.out, ← hcat.out], HO5.out, u5⟩
            case measure => first | (simp [intOf]; done) | (simp [intOf]; omega)
          · have hcat := hide (H1.out h0)
            have k0 : (0 : Int) < (k : Int) := by omega
            clear H0 H1
            go_wp2
            go_roundw
            case rel => exact ⟨k + 1, by omega, by go_num, by rw [HJ1.out, ← hcat.out], HO5.out, u5⟩
            case measure => first | (simp [intOf]; done) | (simp [intOf]; omega)
      · have s1 : ¬ (k : Int) < (k : Int) := by omega
        have hlk : (L.map toX).take k = L.map toX := List.take_of_length_le (by rw [List.length_map]; have := HN.out; omega)
        have hlt : tx.take k = tx := List.take_of_length_le (by have := HTL.out; omega)
        rw [hlk] at HOWN
        rw [hlt]
        obtain ⟨A2, c2, rfl, hc2, hR2⟩ := RdS.of_own HOWN.out
        have hxl : (L.map toX).length = k := by rw [List.length_map]; exact HN.out
        have hdx : ∀ x ∈ L.map toX, x.d.length ≤ 2147483647 := fun x hx => by
          obtain ⟨c, hc, rfl⟩ := List.mem_map.1 hx
          exact HD.out c hc
        have htv : ∀ (w' : World), Upd [] wr w' → Calls Tryz.prog 17 #[.slice A2 k c2] w' (BoolRes w' (k ≤ 12 ∧ XOk (L.map toX))) := fun w' hu' => by
          have h := TextValid_17 (L.map toX) A2 c2 w' (by rw [hxl]; exact hn) hdx (by rw [hxl]; exact hR2.grow hu')
          rw [hxl] at h
          exact h
        have HTV := hide htv
        clear hlk hlt hR2 HD hdx htv hxl HJL HLEN HR
        obtain ⟨wo, rfl⟩ : ∃ wo, wo = wr := ⟨_, rfl⟩
        go_wp2_with fail
        refine (HTV.out _ (Upd.refl _ _)).mono ?_
        rintro e w6 ⟨r, rfl, hr, hu6⟩
        have u6 := hu.on0 hu6
        clear HTV
        cases r with
        | false =>
          clear hr
          go_wp2_with fail
          refine (TA.out _ (HG.out.grow u6)).mono ?_
          rintro e w7 ⟨rfl, hu7⟩
          go_wp2
          go_ret
          exact ⟨rfl, u6.on0 hu7⟩
        | true =>
          obtain ⟨hk12, hok⟩ := hr rfl
          obtain ⟨hco, htxe, hje⟩ := coins_ok hok
          have hst := hok.strict
          have hX := icells_toC (L.map toX) hok.1
          have hcl : ((L.map toX).map toC).length = k := by rw [List.length_map, List.length_map]; exact HN.out
          rw [HTX.out] at htxe
          obtain ⟨cs, hcs⟩ : ∃ cs, (L.map toX).map toC = cs := ⟨_, rfl⟩
          rw [hcs] at hco htxe hje hst hX hcl
          rw [hje] at HA
          rw [hX] at HOWN
          have hpc := fun w' hG => ParseCoins_back cs (fun x hx => ⟨(hco x hx).1, (hco x hx).2.1, (hco x hx).2.2.1, (hco x hx).2.2.2.1⟩) hst (by rw [hcl]; exact hk12) w' hG
          rw [← htxe, hcl] at hpc
          have hwl : (cs.map wh).length = k := by rw [List.length_map]; exact hcl
          have hto : ∀ w', Upd [] w6 w' → Calls Tryz.prog 21 #[.slice A k c] w' fun e w'' => e = .returned (.string (bs (joinC 44 tx))) ∧ Upd [] w' w'' := fun w' hu' => by
            have h := TextOf_21 (cs.map wh) A c (by rw [hwl]; omega) (fun x hx => by
              obtain ⟨y, hy, rfl⟩ := List.mem_map.1 hx
              obtain ⟨_, _, _, _, b1, b2, b3⟩ := hco y hy
              exact ⟨b1, b2, by omega⟩) w' (by rw [hwl]; exact HA.out.grow (u6.on0 hu')) (HL.out.grow (u6.on0 hu'))
            rw [← htxe, hwl] at h
            exact h
          have HPC := hide hpc
          have HTO := hide hto
          have HO6 := hide (own_grow HOWN.out hu6)
          have HCL := hide hcl
          have HSA := hide (fun (w' : World) (hu' : Upd [] w6 w') (v : Value) (b : Nat) (hv : w'.ownsRow b 52 2 v k (wcells (cs.map wh))) => textWhole_15 cs v (.slice A2 k c2) b w.heap.size (by rw [HCL.out]; omega) w' (by rw [HCL.out]; exact hv) (by rw [HCL.out]; exact own_grow HO6.out hu'))
          clear hcs hcl hX hst hco hok hr hk12 HOWN HN hu hu6 htxe hje hpc hwl hto HO6 HCL HTX HTL HA
          generalize bs (joinC 44 tx) = T at *
          have q1 : (T.toList == T.toList) = true := by simp
          go_wp2_with fail
          refine (HPC.out _ (HG.out.grow u6)).mono ?_
          rintro e w8 ⟨v, rfl, hv, hu8⟩
          have u8 := u6.on0 hu8
          have HV := hide hv
          clear HPC hv
          go_wp2_with fail
          refine (HTO.out _ hu8).mono ?_
          rintro e w9 ⟨rfl, hu9⟩
          have u9 := u8.on0 hu9
          have U9 := hu8.on0 hu9
          have HV9 := hide (own_grow HV.out hu9)
          clear HTO HV hu8 hu9
          go_wp2_with fail
          refine (HSA.out _ U9 _ _ HV9.out).mono ?_
          rintro e w10 ⟨rfl, hu10⟩
          have u10 := u9.on0 hu10
          clear HSA HV9 U9 hu10
          go_wp2_with fail
          refine (TA.out _ (HG.out.grow u10)).mono ?_
          rintro e w11 ⟨rfl, hu11⟩
          go_wp2
          go_ret
          exact ⟨rfl, u10.on0 hu11⟩

end Go.Proofs.YtnajekpckbfcdaaGreatDoor
