/-
  FnParseDecs: the walk.
-/
import Derived.Test.YtnajekpckbfcdaaGreatDoorN7
import Derived.Test.YtnajekpckbfcdaaGreatDoorN5
set_option linter.unusedVariables false
set_option linter.unusedSimpArgs false
namespace Go.Proofs.YtnajekpckbfcdaaGreatDoor
open Go.RowKit Go.Proofs.YtnajekpckbfcdaaGreatDoorW.PrintWords Go.Proofs.YtnajekpckbfcdaaGreatDoor.PFnParseDecs

theorem txs_parts (xs : List S26) : txs xs = (xs.map toPart).map Part.text := by simp [txs]
theorem tb (b : ByteArray) : (b = ⟨#[]⟩ ∧ b.data.toList = []) ∨ (b.data.toList ≠ [] ∧ ¬ b.toList = [] ∧ (b.toList.isEmpty) = false ∧ (b.toList == []) = false) := by
  have h := te b.data.toList
  rw [bs_data] at h
  rcases h with ⟨h1, h2⟩ | h
  · exact .inl ⟨h2, h1⟩
  · exact .inr h
/-- A part that is not of blanks alone leaves something. -/
theorem core_ne {p : Part} (h : p.whole ≠ [] ∨ p.point = true ∨ p.denom ≠ []) : p.core ≠ [] := by
  unfold Part.core
  by_cases hd : p.denom = []
  · rw [if_pos hd]
    unfold Part.num
    rcases h with h | h | h
    · intro e
      exact h (List.append_eq_nil_iff.1 e).1
    · rw [if_pos h]; simp
    · exact absurd hd h
  · rw [if_neg hd]
    split
    · exact hd
    · rename_i hn
      intro e
      exact hn (List.append_eq_nil_iff.1 e).1
theorem text_ne (xs : List S26) (hok : ∀ x ∈ xs, (toPart x).Ok) (h0 : 0 < xs.length) (h : 2 ≤ xs.length ∨ ((toPart xs[0]).whole ≠ [] ∨ (toPart xs[0]).point = true ∨ (toPart xs[0]).denom ≠ [])) : trim (joinC 44 (txs xs)) ≠ [] := by
  match xs, h0, hok, h with
  | [x], _, hok, h =>
    have h' : (toPart x).whole ≠ [] ∨ (toPart x).point = true ∨ (toPart x).denom ≠ [] := h.resolve_left (by simp)
    show trim (toPart x).text ≠ []
    rw [(hok x (by simp)).trim_text]
    exact core_ne h'
  | x :: y :: r, _, hok, h =>
    apply trim_comma
    apply joinC_comma
    simp [txs]

/-- What stands behind the guards, as facts on the calls. -/
def AllCalls (xs : List S26) (n : Nat) (A : Option Addr) (c : Nat) (w : World) (text : List UInt8) : Prop :=
  ((∀ w', Upd [] w w' → Calls Tryz.prog 10 #[.slice A n c] w' fun e w'' => e = .returned (.string (bs text)) ∧ Upd [] w' w'') ∧
   (∀ w', Upd [] w w' → Calls Tryz.prog 13 #[.slice A n c] w' (ListRes w' (xs.map toPart)))) ∧
  (((∃ p ∈ xs.map toPart, p.rd = none) ∧ (∀ w', Gl w' → Calls Tryz.prog 11 #[.string (bs text)] w' (TextErr w')) ∧ (∀ w', Gl w' → Calls Tryz.prog 12 #[.slice none 0 0, .string (bs text)] w' (TextErr w'))) ∨
   ((∀ p ∈ xs.map toPart, p.rd ≠ none) ∧ (nzr (rds (xs.map toPart))).length ≤ 1000 ∧ (∀ w', Gl w' → Calls Tryz.prog 11 #[.string (bs text)] w' (PDsRes w' (rds (xs.map toPart)))) ∧ (∀ w', Gl w' → Calls Tryz.prog 12 #[.slice none 0 0, .string (bs text)] w' (PCsRes w' (rds (xs.map toPart))))))
theorem all_calls (xs : List S26) (A : Option Addr) (c : Nat) (w : World) (hC : Kd.C k26 w A xs.length xs) (hc : xs.length ≤ c) (hok : ∀ x ∈ xs, (toPart x).Ok) (h1 : 1 ≤ xs.length) (h8 : xs.length ≤ 8)
    (h : 2 ≤ xs.length ∨ ((toPart (xs[0]'h1)).whole ≠ [] ∨ (toPart (xs[0]'h1)).point = true ∨ (toPart (xs[0]'h1)).denom ≠ [])) : AllCalls xs xs.length A c w (joinC 44 (txs xs)) := by
  have hokp : ∀ p ∈ xs.map toPart, p.Ok := by
    intro p hp
    obtain ⟨x, hx, rfl⟩ := List.mem_map.1 hp
    exact hok x hx
  have hJ : (spl 44 (joinC 44 (txs xs))).map trim = (xs.map toPart).map Part.core := by
    rw [txs_parts]
    exact pieces_text _ hokp (ne_of_len (by rw [List.length_map]; omega))
  have hll : (joinC 44 (txs xs)).length ≤ 10000 := Nat.le_trans (tj_len xs hok h8) (by omega)
  have hne := text_ne xs hok h1 h
  refine ⟨⟨fun w' hu => textJoined_10 xs A c w' (Kd.C_below hC hu.nil) hc (by omega) hok, fun w' hu => TextList_13 xs A c w' (Kd.C_below hC hu.nil) hc h8 hok⟩, ?_⟩
  by_cases hb : ∃ p ∈ xs.map toPart, p.rd = none
  · exact .inl ⟨hb, fun w' hG => ParseDecs_err _ hokp hb _ hJ hll hne w' hG, fun w' hG => ParseCoins_err _ hokp hb _ hJ hll hne w' hG⟩
  · have hall : ∀ p ∈ xs.map toPart, p.rd ≠ none := fun p hp e => hb ⟨p, hp, e⟩
    obtain ⟨r1, r2⟩ := rds_all _ hall
    have hin : ∀ x ∈ rds (xs.map toPart), isDen x.1 = true ∧ x.1.length ≤ 140 ∧ x.2 < 1000000000000000 * 1000000000000000000 := by
      intro x hx
      obtain ⟨p, hp, hpr⟩ := rds_mem hx
      exact ((hokp p hp).rd_some hpr).2.2.2
    have hden : ∀ x ∈ rds (xs.map toPart), isDen x.1 = true ∧ x.1.length ≤ 1000 := fun x hx => ⟨(hin x hx).1, Nat.le_trans (hin x hx).2.1 (by omega)⟩
    have hsm : ∀ x ∈ rds (xs.map toPart), x.2 < 9223372036854775808 * 1000000000000000000 := fun x hx => Nat.lt_trans (hin x hx).2.2 (by decide)
    have h12 : (xs.map toPart).length ≤ 12 := by rw [List.length_map]; omega
    have hlen : (nzr (rds (xs.map toPart))).length ≤ 1000 := by
      refine Nat.le_trans (List.length_filter_le _ _) ?_
      rw [r1, List.length_map]; omega
    exact .inr ⟨hall, hlen, fun w' hG => ParseDecs_good _ _ hokp _ hJ hll hne r1 r2 h12 hden hsm w' hG, fun w' hG => ParseCoins_good _ _ hokp _ hJ hll hne r1 r2 h12 hden hsm w' hG⟩

set_option maxRecDepth 20000 in
set_option maxHeartbeats 8000000 in
theorem FnParseDecs_any (xs : List S26) (A : Option Addr) (c : Nat) (w : World) (hC : Kd.C k26 w A xs.length xs) (hc : xs.length ≤ c) (hG : Gl w) :
    Calls Tryz.prog 3 #[.slice A xs.length c] w fun e w' => e = .returned (.bool true) ∧ Upd [] w w' := by
  obtain ⟨k1, r1, hf1, hp1⟩ := fits10_f xs
  have H1 := hide (laws_zzFits10.calls k1 A c xs r1 w hC hc hf1)
  have TA := hide (fun w hG => textAwake_9 w hG)
  clear hf1
  cases r1 with
  | false =>
    clear hp1
    go_enter Tryz.func3, Tryz.ntmps3
    go_wp2_with fail
    refine H1.out.mono ?_
    rintro e w2 ⟨rfl, hu⟩
    go_wp2
    go_ret
    exact ⟨rfl, Upd.of_below hu []⟩
  | true =>
    obtain ⟨hn, hsm⟩ := hp1 rfl
    obtain ⟨k2, r2, hf2, hp2⟩ := parts_f xs hn hsm
    have H2 := hide (fun (w' : World) (h : Upd [] w w') => laws_textParts.calls k2 A c xs r2 w' (Kd.C_below hC h.nil) hc hf2)
    clear hf2 hsm hp1
    cases r2 with
    | false =>
      clear hp2
      go_enter Tryz.func3, Tryz.ntmps3
      go_wp2_with fail
      refine H1.out.mono ?_
      rintro e w2 ⟨rfl, hu⟩
      have u2 := Upd.of_below hu []
      clear H1 hu
      go_wp2_with fail
      refine (H2.out _ u2).mono ?_
      rintro e w3 ⟨rfl, hu⟩
      have u3 := u2.on0 (Upd.of_below hu [])
      go_wp2_with fail
      refine (TA.out _ (hG.grow u3)).mono ?_
      rintro e w4 ⟨rfl, hu4⟩
      go_wp2
      go_ret
      exact ⟨rfl, u3.on0 hu4⟩
    | true =>
      obtain ⟨hok, hx1, hx8⟩ := hp2 rfl
      clear hp2
      have hall := fun h => all_calls xs A c w hC hc hok hx1 hx8 h
      have hC0 := fun (w' : World) (h : Upd [] w w') => at_T26 (Kd.C_below hC h.nil) (0 : Int) (by omega) (by omega)
      have hr0 : rd_T26 xs (0 : Int) = xs[0] := rd_at xs 0 hx1
      rw [hr0] at hC0
      have hA : ∃ ad, A = some ad := by
        obtain ⟨ad, h, _⟩ := hC0 w (Upd.refl _ _)
        exact ⟨ad, h⟩
      obtain ⟨ad, rfl⟩ := hA
      obtain ⟨T, hT⟩ : ∃ T, joinC 44 (txs xs) = T := ⟨_, rfl⟩
      rw [hT] at hall
      clear hr0 hT
      generalize xs[0] = x at *
      have HC0 := hide hC0
      obtain ⟨n, hn0⟩ : ∃ n, xs.length = n := ⟨_, rfl⟩
      rw [hn0] at hall H1 H2 hx1 hx8 ⊢
      have HALL := hide hall
      clear hC0 hall hok hn hC hc hn0
      go_enter Tryz.func3, Tryz.ntmps3
      go_wp2_with fail
      refine H1.out.mono ?_
      rintro e w2 ⟨rfl, hu⟩
      have u2 := Upd.of_below hu []
      clear H1 hu
      go_wp2_with fail
      refine (H2.out _ u2).mono ?_
      rintro e w3 ⟨rfl, hu⟩
      have u3 := u2.on0 (Upd.of_below hu [])
      clear H2 u2 hu
      obtain ⟨ad', he, x0, x1, x2, x3, x4, x5, x6⟩ := HC0.out w3 u3
      injection he with he
      subst he
      have ez : ad.add (Int.toNat 0 * 7) = ad := by simp [Addr.add]
      rw [ez] at x0 x1 x2 x3 x4 x5 x6
      clear ez HC0
      have s0 : (0 : Int) < (n : Int) := by omega
      have hT4 := Blk.new w3 26 #[.string x.f0, .string x.f1, .bool x.f2, .string x.f3, .string x.f4, .string x.f5, .string x.f6]
      have u4 := u3.alloc (.cells #[.string x.f0, .string x.f1, .bool x.f2, .string x.f3, .string x.f4, .string x.f5, .string x.f6] 26)
      go_upto_region 6 with (fail)
      generalize w3.alloc (.cells #[.string x.f0, .string x.f1, .bool x.f2, .string x.f3, .string x.f4, .string x.f5, .string x.f6] 26) = w4 at hT4 u4 ⊢
      generalize w3.heap.size = Y at hT4 ⊢
      have c1 := hT4.at_ (i := 1) (v := .string x.f1) rfl
      have c2 := hT4.at_ (i := 2) (v := .bool x.f2) rfl
      have c5 := hT4.at_ (i := 5) (v := .string x.f5) rfl
      have hcs : (2 ≤ n ∧ AllCalls xs n (some ad) c w T) ∨
          (n = 1 ∧ (¬ x.f1.toList = [] ∧ x.f1.toList.isEmpty = false ∧ (x.f1.toList == []) = false) ∧ AllCalls xs n (some ad) c w T) ∨
          (n = 1 ∧ x.f1 = ⟨#[]⟩ ∧ x.f2 = true ∧ AllCalls xs n (some ad) c w T) ∨
          (n = 1 ∧ x.f1 = ⟨#[]⟩ ∧ x.f2 = false ∧ (¬ x.f5.toList = [] ∧ x.f5.toList.isEmpty = false ∧ (x.f5.toList == []) = false) ∧ AllCalls xs n (some ad) c w T) ∨
          (n = 1 ∧ x.f1 = ⟨#[]⟩ ∧ x.f2 = false ∧ x.f5 = ⟨#[]⟩) := by
        rcases (by omega : 2 ≤ n ∨ n = 1) with h2 | h2
        · exact .inl ⟨h2, HALL.out (.inl h2)⟩
        rcases tb x.f1 with ⟨e1, _⟩ | ⟨e1, e2⟩
        · cases hp : x.f2 with
          | true => exact .inr (.inr (.inl ⟨h2, e1, rfl, HALL.out (.inr (.inr (.inl hp)))⟩))
          | false =>
            rcases tb x.f5 with ⟨g1, _⟩ | ⟨g1, g2⟩
            · exact .inr (.inr (.inr (.inr ⟨h2, e1, rfl, g1⟩)))
            · exact .inr (.inr (.inr (.inl ⟨h2, e1, rfl, g2, HALL.out (.inr (.inr (.inr g1)))⟩)))
        · exact .inr (.inl ⟨h2, e2, HALL.out (.inr (.inl e1))⟩)
      have HG := hide hG
      clear HALL x0 x1 x2 x3 x4 x5 x6 s0 u3 hT4 hG hx8
      rcases hcs with ⟨h2, AC⟩ | ⟨h2, ⟨q1, q2, q3⟩, AC⟩ | ⟨h2, e1, e2, AC⟩ | ⟨h2, e1, e2, ⟨q1, q2, q3⟩, AC⟩ | ⟨h2, e1, e2, e5⟩
      focus (
        have HAC := hide AC
        have t1 : ¬ (n : Int) = 1 := by omega
        have t2 : ((n : Int) == 1) = false := beq_eq_false_iff_ne.2 t1
        clear AC c1 c2 c5
        go_upto_region 8 with (fail)
        obtain ⟨⟨hJ, hTL⟩, hres⟩ := HAC.out
        have HJ := hide hJ
        have HTL := hide hTL
        clear hJ hTL HAC
        go_wp2_with fail
        refine (HJ.out _ u4).mono ?_
        rintro e w5 ⟨rfl, hu5⟩
        have u5 := u4.on0 hu5
        clear HJ hu5 u4
        rcases hres with ⟨hbad, hD, hW⟩ | ⟨hall, hlen, hD, hW⟩
        · have HB := hide hbad
          have HD := hide hD
          have HW := hide hW
          clear hbad hD hW
          go_wp2_with fail
          refine (HD.out _ (HG.out.grow u5)).mono ?_
          rintro e w6 ⟨s1, rfl, hs1, hu6⟩
          have u6 := u5.on0 hu6
          clear HD hu6
          go_wp2_with fail
          refine (HW.out _ (HG.out.grow u6)).mono ?_
          rintro e w7 ⟨s2, rfl, hs2, hu7⟩
          have u7 := u6.on0 hu7
          clear HW hu7
          go_wp2_with fail
          refine (HTL.out _ u7).mono ?_
          rintro e w8 ⟨hl, hu8⟩
          have u8 := u7.on0 hu8
          have he : e = .returned (.tuple #[.slice none 0 0, .bool false]) := by
            rcases hl with ⟨ha, _⟩ | ⟨_, h⟩
            · obtain ⟨p, hp, hr⟩ := HB.out
              exact absurd hr (ha p hp)
            · exact h
          subst he
          clear HTL hl hu8 HB
          obtain ⟨a1, a2, a3⟩ := str_ne hs1
          obtain ⟨b1, b2, b3⟩ := str_ne hs2
          clear hs1 hs2
          go_wp2_with fail
          refine (TA.out _ (HG.out.grow u8)).mono ?_
          rintro e w9 ⟨rfl, hu9⟩
          go_wp2
          go_ret
          exact ⟨rfl, u8.on0 hu9⟩
        · have HALL := hide hall
          have HLEN := hide hlen
          have HD := hide hD
          have HW := hide hW
          clear hall hlen hD hW
          by_cases hU : Uniq (nzr (rds (xs.map toPart)))
          · have HU := hide hU
            clear hU
            go_wp2_with fail
            refine (HD.out _ (HG.out.grow u5)).mono ?_
            rintro e w6 ⟨l1, hp1, ha1, hu6, hr1⟩
            have u6 := u5.on0 hu6
            have hst1 := Asc.strict ha1 (Uniq.perm hp1.symm HU.out)
            rcases hr1 with ⟨_, v1, rfl, ho1⟩ | ⟨hno, _⟩
            case inr => exact absurd hst1 hno
            have HO1 := hide ho1
            have HP1 := hide hp1
            have HA1 := hide ha1
            clear HD hu6 ho1 hp1 ha1 hst1
            go_wp2_with fail
            refine (HW.out _ (HG.out.grow u6)).mono ?_
            rintro e w7 ⟨l2, hp2, ha2, hu7, hr2⟩
            have u7 := u6.on0 hu7
            have hst2 := Asc.strict ha2 (Uniq.perm hp2.symm HU.out)
            rcases hr2 with ⟨_, v2, rfl, ho2⟩ | ⟨hno, _⟩
            case inr => exact absurd hst2 hno
            have HO1' := hide (own_grow HO1.out hu7)
            have HO2 := hide ho2
            have HP2 := hide hp2
            have HA2 := hide ha2
            clear HW hu7 ho2 hp2 ha2 hst2 HO1
            go_wp2_with fail
            refine (HTL.out _ u7).mono ?_
            rintro e w8 ⟨hl, hu8⟩
            have u8 := u7.on0 hu8
            rcases hl with ⟨_, v3, L, rfl, ho3, hL3, hp3⟩ | ⟨hno, _⟩
            case inr =>
              exfalso
              rcases hno with ⟨p, hp, hr⟩ | h
              · exact absurd hr (HALL.out p hp)
              · exact h HU.out
            have e1 := (sorted_eq HP1.out HA1.out hL3 hp3).2
            have e2 := (sorted_eq HP2.out HA2.out hL3 hp3).2
            have hll : L.length ≤ 1000 := by rw [hp3.length_eq]; exact HLEN.out
            have n1 : l1.length = L.length := by rw [← e1, List.length_map]
            have n2 : l2.length = L.length := by rw [← e2, List.length_map]
            have g1 := own_grow HO1'.out hu8
            have g2 := own_grow HO2.out hu8
            rw [e1, n1] at g1
            rw [whole_dm, e2, n2] at g2
            have HSA := hide (fun (w' : World) (hu' : Upd [] w8 w') => textSame_14 L v1 v3 _ _ hll w' (own_grow g1 hu') (own_grow ho3 hu'))
            have HWH := hide (fun (w' : World) (hu' : Upd [] w8 w') => textWhole_15 L v2 v3 _ _ hll w' (own_grow g2 hu') (own_grow ho3 hu'))
            clear HTL hu8 ho3 hL3 hp3 e1 e2 hll n1 n2 g1 g2 HO1' HO2 HP1 HP2 HA1 HA2 HALL HLEN HU
            go_wp2_with fail
            refine (HSA.out _ (Upd.refl _ _)).mono ?_
            rintro e w9 ⟨rfl, hu9⟩
            have u9 := u8.on0 hu9
            go_wp2_with fail
            refine (HWH.out _ hu9).mono ?_
            rintro e w10 ⟨rfl, hu10⟩
            have u10 := u9.on0 hu10
            clear HSA HWH hu9 hu10 u8 u9
            go_wp2_with fail
            refine (TA.out _ (HG.out.grow u10)).mono ?_
            rintro e w11 ⟨rfl, hu11⟩
            go_wp2
            go_ret
            exact ⟨rfl, u10.on0 hu11⟩
          · have HU := hide hU
            clear hU
            go_wp2_with fail
            refine (HD.out _ (HG.out.grow u5)).mono ?_
            rintro e w6 ⟨l1, hp1, ha1, hu6, hr1⟩
            have u6 := u5.on0 hu6
            have hst1 := sorted_dup hp1 HU.out
            rcases hr1 with ⟨hyes, _⟩ | ⟨_, s1, rfl, hs1⟩
            case inl => exact absurd hyes hst1
            clear HD hu6 hp1 ha1 hst1
            go_wp2_with fail
            refine (HW.out _ (HG.out.grow u6)).mono ?_
            rintro e w7 ⟨l2, hp2, ha2, hu7, hr2⟩
            have u7 := u6.on0 hu7
            have hst2 := sorted_dup hp2 HU.out
            rcases hr2 with ⟨hyes, _⟩ | ⟨_, s2, rfl, hs2⟩
            case inl => exact absurd hyes hst2
            clear HW hu7 hp2 ha2 hst2
            go_wp2_with fail
            refine (HTL.out _ u7).mono ?_
            rintro e w8 ⟨hl, hu8⟩
            have u8 := u7.on0 hu8
            have he : e = .returned (.tuple #[.slice none 0 0, .bool false]) := by
              rcases hl with ⟨_, v3, L, _, _, hL3, hp3⟩ | ⟨_, h⟩
              · exact absurd (Uniq.perm hp3 hL3.uniq) HU.out
              · exact h
            subst he
            clear HTL hl hu8 HALL HLEN HU
            obtain ⟨a1, a2, a3⟩ := str_ne hs1
            obtain ⟨b1, b2, b3⟩ := str_ne hs2
            clear hs1 hs2
            go_wp2_with fail
            refine (TA.out _ (HG.out.grow u8)).mono ?_
            rintro e w9 ⟨rfl, hu9⟩
            go_wp2
            go_ret
            exact ⟨rfl, u8.on0 hu9⟩)
      focus (
        have HAC := hide AC
        subst h2
        clear AC c2 c5
        go_upto_region 8 with (fail)
        obtain ⟨⟨hJ, hTL⟩, hres⟩ := HAC.out
        have HJ := hide hJ
        have HTL := hide hTL
        clear hJ hTL HAC
        go_wp2_with fail
        refine (HJ.out _ u4).mono ?_
        rintro e w5 ⟨rfl, hu5⟩
        have u5 := u4.on0 hu5
        clear HJ hu5 u4
        rcases hres with ⟨hbad, hD, hW⟩ | ⟨hall, hlen, hD, hW⟩
        · have HB := hide hbad
          have HD := hide hD
          have HW := hide hW
          clear hbad hD hW
          go_wp2_with fail
          refine (HD.out _ (HG.out.grow u5)).mono ?_
          rintro e w6 ⟨s1, rfl, hs1, hu6⟩
          have u6 := u5.on0 hu6
          clear HD hu6
          go_wp2_with fail
          refine (HW.out _ (HG.out.grow u6)).mono ?_
          rintro e w7 ⟨s2, rfl, hs2, hu7⟩
          have u7 := u6.on0 hu7
          clear HW hu7
          go_wp2_with fail
          refine (HTL.out _ u7).mono ?_
          rintro e w8 ⟨hl, hu8⟩
          have u8 := u7.on0 hu8
          have he : e = .returned (.tuple #[.slice none 0 0, .bool false]) := by
            rcases hl with ⟨ha, _⟩ | ⟨_, h⟩
            · obtain ⟨p, hp, hr⟩ := HB.out
              exact absurd hr (ha p hp)
            · exact h
          subst he
          clear HTL hl hu8 HB
          obtain ⟨a1, a2, a3⟩ := str_ne hs1
          obtain ⟨b1, b2, b3⟩ := str_ne hs2
          clear hs1 hs2
          go_wp2_with fail
          refine (TA.out _ (HG.out.grow u8)).mono ?_
          rintro e w9 ⟨rfl, hu9⟩
          go_wp2
          go_ret
          exact ⟨rfl, u8.on0 hu9⟩
        · have HALL := hide hall
          have HLEN := hide hlen
          have HD := hide hD
          have HW := hide hW
          clear hall hlen hD hW
          by_cases hU : Uniq (nzr (rds (xs.map toPart)))
          · have HU := hide hU
            clear hU
            go_wp2_with fail
            refine (HD.out _ (HG.out.grow u5)).mono ?_
            rintro e w6 ⟨l1, hp1, ha1, hu6, hr1⟩
            have u6 := u5.on0 hu6
            have hst1 := Asc.strict ha1 (Uniq.perm hp1.symm HU.out)
            rcases hr1 with ⟨_, v1, rfl, ho1⟩ | ⟨hno, _⟩
            case inr => exact absurd hst1 hno
            have HO1 := hide ho1
            have HP1 := hide hp1
            have HA1 := hide ha1
            clear HD hu6 ho1 hp1 ha1 hst1
            go_wp2_with fail
            refine (HW.out _ (HG.out.grow u6)).mono ?_
            rintro e w7 ⟨l2, hp2, ha2, hu7, hr2⟩
            have u7 := u6.on0 hu7
            have hst2 := Asc.strict ha2 (Uniq.perm hp2.symm HU.out)
            rcases hr2 with ⟨_, v2, rfl, ho2⟩ | ⟨hno, _⟩
            case inr => exact absurd hst2 hno
            have HO1' := hide (own_grow HO1.out hu7)
            have HO2 := hide ho2
            have HP2 := hide hp2
            have HA2 := hide ha2
            clear HW hu7 ho2 hp2 ha2 hst2 HO1
            go_wp2_with fail
            refine (HTL.out _ u7).mono ?_
            rintro e w8 ⟨hl, hu8⟩
            have u8 := u7.on0 hu8
            rcases hl with ⟨_, v3, L, rfl, ho3, hL3, hp3⟩ | ⟨hno, _⟩
            case inr =>
              exfalso
              rcases hno with ⟨p, hp, hr⟩ | h
              · exact absurd hr (HALL.out p hp)
              · exact h HU.out
            have e1 := (sorted_eq HP1.out HA1.out hL3 hp3).2
            have e2 := (sorted_eq HP2.out HA2.out hL3 hp3).2
            have hll : L.length ≤ 1000 := by rw [hp3.length_eq]; exact HLEN.out
            have n1 : l1.length = L.length := by rw [← e1, List.length_map]
            have n2 : l2.length = L.length := by rw [← e2, List.length_map]
            have g1 := own_grow HO1'.out hu8
            have g2 := own_grow HO2.out hu8
            rw [e1, n1] at g1
            rw [whole_dm, e2, n2] at g2
            have HSA := hide (fun (w' : World) (hu' : Upd [] w8 w') => textSame_14 L v1 v3 _ _ hll w' (own_grow g1 hu') (own_grow ho3 hu'))
            have HWH := hide (fun (w' : World) (hu' : Upd [] w8 w') => textWhole_15 L v2 v3 _ _ hll w' (own_grow g2 hu') (own_grow ho3 hu'))
            clear HTL hu8 ho3 hL3 hp3 e1 e2 hll n1 n2 g1 g2 HO1' HO2 HP1 HP2 HA1 HA2 HALL HLEN HU
            go_wp2_with fail
            refine (HSA.out _ (Upd.refl _ _)).mono ?_
            rintro e w9 ⟨rfl, hu9⟩
            have u9 := u8.on0 hu9
            go_wp2_with fail
            refine (HWH.out _ hu9).mono ?_
            rintro e w10 ⟨rfl, hu10⟩
            have u10 := u9.on0 hu10
            clear HSA HWH hu9 hu10 u8 u9
            go_wp2_with fail
            refine (TA.out _ (HG.out.grow u10)).mono ?_
            rintro e w11 ⟨rfl, hu11⟩
            go_wp2
            go_ret
            exact ⟨rfl, u10.on0 hu11⟩
          · have HU := hide hU
            clear hU
            go_wp2_with fail
            refine (HD.out _ (HG.out.grow u5)).mono ?_
            rintro e w6 ⟨l1, hp1, ha1, hu6, hr1⟩
            have u6 := u5.on0 hu6
            have hst1 := sorted_dup hp1 HU.out
            rcases hr1 with ⟨hyes, _⟩ | ⟨_, s1, rfl, hs1⟩
            case inl => exact absurd hyes hst1
            clear HD hu6 hp1 ha1 hst1
            go_wp2_with fail
            refine (HW.out _ (HG.out.grow u6)).mono ?_
            rintro e w7 ⟨l2, hp2, ha2, hu7, hr2⟩
            have u7 := u6.on0 hu7
            have hst2 := sorted_dup hp2 HU.out
            rcases hr2 with ⟨hyes, _⟩ | ⟨_, s2, rfl, hs2⟩
            case inl => exact absurd hyes hst2
            clear HW hu7 hp2 ha2 hst2
            go_wp2_with fail
            refine (HTL.out _ u7).mono ?_
            rintro e w8 ⟨hl, hu8⟩
            have u8 := u7.on0 hu8
            have he : e = .returned (.tuple #[.slice none 0 0, .bool false]) := by
              rcases hl with ⟨_, v3, L, _, _, hL3, hp3⟩ | ⟨_, h⟩
              · exact absurd (Uniq.perm hp3 hL3.uniq) HU.out
              · exact h
            subst he
            clear HTL hl hu8 HALL HLEN HU
            obtain ⟨a1, a2, a3⟩ := str_ne hs1
            obtain ⟨b1, b2, b3⟩ := str_ne hs2
            clear hs1 hs2
            go_wp2_with fail
            refine (TA.out _ (HG.out.grow u8)).mono ?_
            rintro e w9 ⟨rfl, hu9⟩
            go_wp2
            go_ret
            exact ⟨rfl, u8.on0 hu9⟩)
      focus (
        have HAC := hide AC
        subst h2
        rw [e1] at c1
        rw [e2] at c2
        clear AC c5 e1 e2
        go_upto_region 8 with (fail)
        obtain ⟨⟨hJ, hTL⟩, hres⟩ := HAC.out
        have HJ := hide hJ
        have HTL := hide hTL
        clear hJ hTL HAC
        go_wp2_with fail
        refine (HJ.out _ u4).mono ?_
        rintro e w5 ⟨rfl, hu5⟩
        have u5 := u4.on0 hu5
        clear HJ hu5 u4
        rcases hres with ⟨hbad, hD, hW⟩ | ⟨hall, hlen, hD, hW⟩
        · have HB := hide hbad
          have HD := hide hD
          have HW := hide hW
          clear hbad hD hW
          go_wp2_with fail
          refine (HD.out _ (HG.out.grow u5)).mono ?_
          rintro e w6 ⟨s1, rfl, hs1, hu6⟩
          have u6 := u5.on0 hu6
          clear HD hu6
          go_wp2_with fail
          refine (HW.out _ (HG.out.grow u6)).mono ?_
          rintro e w7 ⟨s2, rfl, hs2, hu7⟩
          have u7 := u6.on0 hu7
          clear HW hu7
          go_wp2_with fail
          refine (HTL.out _ u7).mono ?_
          rintro e w8 ⟨hl, hu8⟩
          have u8 := u7.on0 hu8
          have he : e = .returned (.tuple #[.slice none 0 0, .bool false]) := by
            rcases hl with ⟨ha, _⟩ | ⟨_, h⟩
            · obtain ⟨p, hp, hr⟩ := HB.out
              exact absurd hr (ha p hp)
            · exact h
          subst he
          clear HTL hl hu8 HB
          obtain ⟨a1, a2, a3⟩ := str_ne hs1
          obtain ⟨b1, b2, b3⟩ := str_ne hs2
          clear hs1 hs2
          go_wp2_with fail
          refine (TA.out _ (HG.out.grow u8)).mono ?_
          rintro e w9 ⟨rfl, hu9⟩
          go_wp2
          go_ret
          exact ⟨rfl, u8.on0 hu9⟩
        · have HALL := hide hall
          have HLEN := hide hlen
          have HD := hide hD
          have HW := hide hW
          clear hall hlen hD hW
          by_cases hU : Uniq (nzr (rds (xs.map toPart)))
          · have HU := hide hU
            clear hU
            go_wp2_with fail
            refine (HD.out _ (HG.out.grow u5)).mono ?_
            rintro e w6 ⟨l1, hp1, ha1, hu6, hr1⟩
            have u6 := u5.on0 hu6
            have hst1 := Asc.strict ha1 (Uniq.perm hp1.symm HU.out)
            rcases hr1 with ⟨_, v1, rfl, ho1⟩ | ⟨hno, _⟩
            case inr => exact absurd hst1 hno
            have HO1 := hide ho1
            have HP1 := hide hp1
            have HA1 := hide ha1
            clear HD hu6 ho1 hp1 ha1 hst1
            go_wp2_with fail
            refine (HW.out _ (HG.out.grow u6)).mono ?_
            rintro e w7 ⟨l2, hp2, ha2, hu7, hr2⟩
            have u7 := u6.on0 hu7
            have hst2 := Asc.strict ha2 (Uniq.perm hp2.symm HU.out)
            rcases hr2 with ⟨_, v2, rfl, ho2⟩ | ⟨hno, _⟩
            case inr => exact absurd hst2 hno
            have HO1' := hide (own_grow HO1.out hu7)
            have HO2 := hide ho2
            have HP2 := hide hp2
            have HA2 := hide ha2
            clear HW hu7 ho2 hp2 ha2 hst2 HO1
            go_wp2_with fail
            refine (HTL.out _ u7).mono ?_
            rintro e w8 ⟨hl, hu8⟩
            have u8 := u7.on0 hu8
            rcases hl with ⟨_, v3, L, rfl, ho3, hL3, hp3⟩ | ⟨hno, _⟩
            case inr =>
              exfalso
              rcases hno with ⟨p, hp, hr⟩ | h
              · exact absurd hr (HALL.out p hp)
              · exact h HU.out
            have e1 := (sorted_eq HP1.out HA1.out hL3 hp3).2
            have e2 := (sorted_eq HP2.out HA2.out hL3 hp3).2
            have hll : L.length ≤ 1000 := by rw [hp3.length_eq]; exact HLEN.out
            have n1 : l1.length = L.length := by rw [← e1, List.length_map]
            have n2 : l2.length = L.length := by rw [← e2, List.length_map]
            have g1 := own_grow HO1'.out hu8
            have g2 := own_grow HO2.out hu8
            rw [e1, n1] at g1
            rw [whole_dm, e2, n2] at g2
            have HSA := hide (fun (w' : World) (hu' : Upd [] w8 w') => textSame_14 L v1 v3 _ _ hll w' (own_grow g1 hu') (own_grow ho3 hu'))
            have HWH := hide (fun (w' : World) (hu' : Upd [] w8 w') => textWhole_15 L v2 v3 _ _ hll w' (own_grow g2 hu') (own_grow ho3 hu'))
            clear HTL hu8 ho3 hL3 hp3 e1 e2 hll n1 n2 g1 g2 HO1' HO2 HP1 HP2 HA1 HA2 HALL HLEN HU
            go_wp2_with fail
            refine (HSA.out _ (Upd.refl _ _)).mono ?_
            rintro e w9 ⟨rfl, hu9⟩
            have u9 := u8.on0 hu9
            go_wp2_with fail
            refine (HWH.out _ hu9).mono ?_
            rintro e w10 ⟨rfl, hu10⟩
            have u10 := u9.on0 hu10
            clear HSA HWH hu9 hu10 u8 u9
            go_wp2_with fail
            refine (TA.out _ (HG.out.grow u10)).mono ?_
            rintro e w11 ⟨rfl, hu11⟩
            go_wp2
            go_ret
            exact ⟨rfl, u10.on0 hu11⟩
          · have HU := hide hU
            clear hU
            go_wp2_with fail
            refine (HD.out _ (HG.out.grow u5)).mono ?_
            rintro e w6 ⟨l1, hp1, ha1, hu6, hr1⟩
            have u6 := u5.on0 hu6
            have hst1 := sorted_dup hp1 HU.out
            rcases hr1 with ⟨hyes, _⟩ | ⟨_, s1, rfl, hs1⟩
            case inl => exact absurd hyes hst1
            clear HD hu6 hp1 ha1 hst1
            go_wp2_with fail
            refine (HW.out _ (HG.out.grow u6)).mono ?_
            rintro e w7 ⟨l2, hp2, ha2, hu7, hr2⟩
            have u7 := u6.on0 hu7
            have hst2 := sorted_dup hp2 HU.out
            rcases hr2 with ⟨hyes, _⟩ | ⟨_, s2, rfl, hs2⟩
            case inl => exact absurd hyes hst2
            clear HW hu7 hp2 ha2 hst2
            go_wp2_with fail
            refine (HTL.out _ u7).mono ?_
            rintro e w8 ⟨hl, hu8⟩
            have u8 := u7.on0 hu8
            have he : e = .returned (.tuple #[.slice none 0 0, .bool false]) := by
              rcases hl with ⟨_, v3, L, _, _, hL3, hp3⟩ | ⟨_, h⟩
              · exact absurd (Uniq.perm hp3 hL3.uniq) HU.out
              · exact h
            subst he
            clear HTL hl hu8 HALL HLEN HU
            obtain ⟨a1, a2, a3⟩ := str_ne hs1
            obtain ⟨b1, b2, b3⟩ := str_ne hs2
            clear hs1 hs2
            go_wp2_with fail
            refine (TA.out _ (HG.out.grow u8)).mono ?_
            rintro e w9 ⟨rfl, hu9⟩
            go_wp2
            go_ret
            exact ⟨rfl, u8.on0 hu9⟩)
      focus (
        have HAC := hide AC
        subst h2
        rw [e1] at c1
        rw [e2] at c2
        clear AC e1 e2
        go_upto_region 8 with (fail)
        obtain ⟨⟨hJ, hTL⟩, hres⟩ := HAC.out
        have HJ := hide hJ
        have HTL := hide hTL
        clear hJ hTL HAC
        go_wp2_with fail
        refine (HJ.out _ u4).mono ?_
        rintro e w5 ⟨rfl, hu5⟩
        have u5 := u4.on0 hu5
        clear HJ hu5 u4
        rcases hres with ⟨hbad, hD, hW⟩ | ⟨hall, hlen, hD, hW⟩
        · have HB := hide hbad
          have HD := hide hD
          have HW := hide hW
          clear hbad hD hW
          go_wp2_with fail
          refine (HD.out _ (HG.out.grow u5)).mono ?_
          rintro e w6 ⟨s1, rfl, hs1, hu6⟩
          have u6 := u5.on0 hu6
          clear HD hu6
          go_wp2_with fail
          refine (HW.out _ (HG.out.grow u6)).mono ?_
          rintro e w7 ⟨s2, rfl, hs2, hu7⟩
          have u7 := u6.on0 hu7
          clear HW hu7
          go_wp2_with fail
          refine (HTL.out _ u7).mono ?_
          rintro e w8 ⟨hl, hu8⟩
          have u8 := u7.on0 hu8
          have he : e = .returned (.tuple #[.slice none 0 0, .bool false]) := by
            rcases hl with ⟨ha, _⟩ | ⟨_, h⟩
            · obtain ⟨p, hp, hr⟩ := HB.out
              exact absurd hr (ha p hp)
            · exact h
          subst he
          clear HTL hl hu8 HB
          obtain ⟨a1, a2, a3⟩ := str_ne hs1
          obtain ⟨b1, b2, b3⟩ := str_ne hs2
          clear hs1 hs2
          go_wp2_with fail
          refine (TA.out _ (HG.out.grow u8)).mono ?_
          rintro e w9 ⟨rfl, hu9⟩
          go_wp2
          go_ret
          exact ⟨rfl, u8.on0 hu9⟩
        · have HALL := hide hall
          have HLEN := hide hlen
          have HD := hide hD
          have HW := hide hW
          clear hall hlen hD hW
          by_cases hU : Uniq (nzr (rds (xs.map toPart)))
          · have HU := hide hU
            clear hU
            go_wp2_with fail
            refine (HD.out _ (HG.out.grow u5)).mono ?_
            rintro e w6 ⟨l1, hp1, ha1, hu6, hr1⟩
            have u6 := u5.on0 hu6
            have hst1 := Asc.strict ha1 (Uniq.perm hp1.symm HU.out)
            rcases hr1 with ⟨_, v1, rfl, ho1⟩ | ⟨hno, _⟩
            case inr => exact absurd hst1 hno
            have HO1 := hide ho1
            have HP1 := hide hp1
            have HA1 := hide ha1
            clear HD hu6 ho1 hp1 ha1 hst1
            go_wp2_with fail
            refine (HW.out _ (HG.out.grow u6)).mono ?_
            rintro e w7 ⟨l2, hp2, ha2, hu7, hr2⟩
            have u7 := u6.on0 hu7
            have hst2 := Asc.strict ha2 (Uniq.perm hp2.symm HU.out)
            rcases hr2 with ⟨_, v2, rfl, ho2⟩ | ⟨hno, _⟩
            case inr => exact absurd hst2 hno
            have HO1' := hide (own_grow HO1.out hu7)
            have HO2 := hide ho2
            have HP2 := hide hp2
            have HA2 := hide ha2
            clear HW hu7 ho2 hp2 ha2 hst2 HO1
            go_wp2_with fail
            refine (HTL.out _ u7).mono ?_
            rintro e w8 ⟨hl, hu8⟩
            have u8 := u7.on0 hu8
            rcases hl with ⟨_, v3, L, rfl, ho3, hL3, hp3⟩ | ⟨hno, _⟩
            case inr =>
              exfalso
              rcases hno with ⟨p, hp, hr⟩ | h
              · exact absurd hr (HALL.out p hp)
              · exact h HU.out
            have e1 := (sorted_eq HP1.out HA1.out hL3 hp3).2
            have e2 := (sorted_eq HP2.out HA2.out hL3 hp3).2
            have hll : L.length ≤ 1000 := by rw [hp3.length_eq]; exact HLEN.out
            have n1 : l1.length = L.length := by rw [← e1, List.length_map]
            have n2 : l2.length = L.length := by rw [← e2, List.length_map]
            have g1 := own_grow HO1'.out hu8
            have g2 := own_grow HO2.out hu8
            rw [e1, n1] at g1
            rw [whole_dm, e2, n2] at g2
            have HSA := hide (fun (w' : World) (hu' : Upd [] w8 w') => textSame_14 L v1 v3 _ _ hll w' (own_grow g1 hu') (own_grow ho3 hu'))
            have HWH := hide (fun (w' : World) (hu' : Upd [] w8 w') => textWhole_15 L v2 v3 _ _ hll w' (own_grow g2 hu') (own_grow ho3 hu'))
            clear HTL hu8 ho3 hL3 hp3 e1 e2 hll n1 n2 g1 g2 HO1' HO2 HP1 HP2 HA1 HA2 HALL HLEN HU
            go_wp2_with fail
            refine (HSA.out _ (Upd.refl _ _)).mono ?_
            rintro e w9 ⟨rfl, hu9⟩
            have u9 := u8.on0 hu9
            go_wp2_with fail
            refine (HWH.out _ hu9).mono ?_
            rintro e w10 ⟨rfl, hu10⟩
            have u10 := u9.on0 hu10
            clear HSA HWH hu9 hu10 u8 u9
            go_wp2_with fail
            refine (TA.out _ (HG.out.grow u10)).mono ?_
            rintro e w11 ⟨rfl, hu11⟩
            go_wp2
            go_ret
            exact ⟨rfl, u10.on0 hu11⟩
          · have HU := hide hU
            clear hU
            go_wp2_with fail
            refine (HD.out _ (HG.out.grow u5)).mono ?_
            rintro e w6 ⟨l1, hp1, ha1, hu6, hr1⟩
            have u6 := u5.on0 hu6
            have hst1 := sorted_dup hp1 HU.out
            rcases hr1 with ⟨hyes, _⟩ | ⟨_, s1, rfl, hs1⟩
            case inl => exact absurd hyes hst1
            clear HD hu6 hp1 ha1 hst1
            go_wp2_with fail
            refine (HW.out _ (HG.out.grow u6)).mono ?_
            rintro e w7 ⟨l2, hp2, ha2, hu7, hr2⟩
            have u7 := u6.on0 hu7
            have hst2 := sorted_dup hp2 HU.out
            rcases hr2 with ⟨hyes, _⟩ | ⟨_, s2, rfl, hs2⟩
            case inl => exact absurd hyes hst2
            clear HW hu7 hp2 ha2 hst2
            go_wp2_with fail
            refine (HTL.out _ u7).mono ?_
            rintro e w8 ⟨hl, hu8⟩
            have u8 := u7.on0 hu8
            have he : e = .returned (.tuple #[.slice none 0 0, .bool false]) := by
              rcases hl with ⟨_, v3, L, _, _, hL3, hp3⟩ | ⟨_, h⟩
              · exact absurd (Uniq.perm hp3 hL3.uniq) HU.out
              · exact h
            subst he
            clear HTL hl hu8 HALL HLEN HU
            obtain ⟨a1, a2, a3⟩ := str_ne hs1
            obtain ⟨b1, b2, b3⟩ := str_ne hs2
            clear hs1 hs2
            go_wp2_with fail
            refine (TA.out _ (HG.out.grow u8)).mono ?_
            rintro e w9 ⟨rfl, hu9⟩
            go_wp2
            go_ret
            exact ⟨rfl, u8.on0 hu9⟩)
      focus (
        subst h2
        rw [e1] at c1
        rw [e2] at c2
        rw [e5] at c5
        clear e1 e2 e5
        go_wp2_with fail
        refine (TA.out _ (HG.out.grow u4)).mono ?_
        rintro e w5 ⟨rfl, hu5⟩
        go_wp2
        go_ret
        exact ⟨rfl, u4.on0 hu5⟩)

end Go.Proofs.YtnajekpckbfcdaaGreatDoor
