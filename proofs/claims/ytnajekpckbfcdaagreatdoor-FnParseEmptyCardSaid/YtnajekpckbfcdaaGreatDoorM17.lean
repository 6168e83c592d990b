/-
  FnParseEmpty: the walk.
-/
import Derived.Test.YtnajekpckbfcdaaGreatDoorM16
import Derived.Test.YtnajekpckbfcdaaGreatDoorM01
set_option linter.unusedVariables false
set_option linter.unusedSimpArgs false
namespace Go.Proofs.YtnajekpckbfcdaaGreatDoor
open Go.RowKit Go.Proofs.YtnajekpckbfcdaaGreatDoorW.PrintWords Go.Proofs.YtnajekpckbfcdaaGreatDoor.PFnParseDecs

/-- The text with an empty part at place k. -/
def emptyAt (xs : List S26) (k m : Nat) : List UInt8 := joinC 44 ((txs xs).take k ++ [List.replicate m 32] ++ (txs xs).drop k)
def emptyParts (xs : List S26) (k m : Nat) : List Part := (xs.map toPart).take k ++ [blankPart m] ++ (xs.map toPart).drop k
theorem emptyParts_text (xs : List S26) (k m : Nat) : (emptyParts xs k m).map Part.text = (txs xs).take k ++ [List.replicate m 32] ++ (txs xs).drop k := by
  unfold emptyParts txs
  simp [List.map_take, List.map_drop, blankPart_text, Function.comp_def]
theorem emptyParts_ok (xs : List S26) (k m : Nat) (hm : m ≤ 6) (hok : ∀ x ∈ xs, (toPart x).Ok) : ∀ p ∈ emptyParts xs k m, p.Ok := by
  intro p hp
  unfold emptyParts at hp
  rcases List.mem_append.1 hp with hp | hp
  · rcases List.mem_append.1 hp with hp | hp
    · obtain ⟨x, hx, rfl⟩ := List.mem_map.1 (List.mem_of_mem_take hp)
      exact hok x hx
    · rw [List.mem_singleton.1 hp]; exact blankPart_ok m hm
  · obtain ⟨x, hx, rfl⟩ := List.mem_map.1 (List.mem_of_mem_drop hp)
    exact hok x hx
theorem emptyAt_pieces (xs : List S26) (k m : Nat) (hm : m ≤ 6) (hok : ∀ x ∈ xs, (toPart x).Ok) : (spl 44 (emptyAt xs k m)).map trim = (emptyParts xs k m).map Part.core := by
  unfold emptyAt
  rw [← emptyParts_text]
  exact pieces_text _ (emptyParts_ok xs k m hm hok) (by unfold emptyParts; simp)
theorem emptyAt_len (xs : List S26) (k m : Nat) (hm : m ≤ 6) (h8 : xs.length ≤ 8) (hok : ∀ x ∈ xs, (toPart x).Ok) : (emptyAt xs k m).length ≤ 10000 := by
  unfold emptyAt
  have h1 := joinC_len 44 214 ((txs xs).take k ++ [List.replicate m 32] ++ (txs xs).drop k) (by
    rw [← emptyParts_text]
    intro l hl
    obtain ⟨p, hp, rfl⟩ := List.mem_map.1 hl
    exact (emptyParts_ok xs k m hm hok p hp).text_len)
  have h2 : ((txs xs).take k ++ [List.replicate m 32] ++ (txs xs).drop k).length ≤ 17 := by
    simp only [List.length_append, List.length_take, List.length_drop, List.length_singleton, txs, List.length_map]
    omega
  have h3 : (214 + 1) * ((txs xs).take k ++ [List.replicate m 32] ++ (txs xs).drop k).length ≤ 215 * 17 := Nat.mul_le_mul_left _ h2
  omega
theorem emptyAt_ne (xs : List S26) (k m : Nat) (h1 : 1 ≤ xs.length) (hk : k ≤ xs.length) : trim (emptyAt xs k m) ≠ [] := by
  apply trim_comma
  apply joinC_comma
  simp only [List.length_append, List.length_take, List.length_drop, List.length_singleton, txs, List.length_map]
  omega
theorem emptyParts_bad (xs : List S26) (k m : Nat) : ∃ p ∈ emptyParts xs k m, p.rd = none := ⟨blankPart m, by unfold emptyParts; simp, blankPart_rd m⟩
theorem txs_take (xs : List S26) (k : Nat) : txs (xs.take k) = (txs xs).take k := by simp [txs, List.map_take]
theorem txs_drop (xs : List S26) (k : Nat) : txs (xs.drop k) = (txs xs).drop k := by simp [txs, List.map_drop]
/-- The three ways in which the text is put together. -/
theorem joinC_mid (c : UInt8) (T D : List (List UInt8)) (s : List UInt8) (hT : T ≠ []) (hD : D ≠ []) : joinC c (T ++ [s] ++ D) = joinC c T ++ c :: (s ++ c :: joinC c D) := by
  rw [joinC_append c (T ++ [s]) D (by simp) hD, joinC_snoc c T s hT]; simp
theorem joinC_beg (c : UInt8) (D : List (List UInt8)) (s : List UInt8) (hD : D ≠ []) : joinC c ([] ++ [s] ++ D) = s ++ c :: joinC c D := joinC_cons c s D hD
theorem joinC_end (c : UInt8) (T : List (List UInt8)) (s : List UInt8) (hT : T ≠ []) : joinC c (T ++ [s] ++ []) = joinC c T ++ c :: s := by
  rw [List.append_nil, joinC_snoc c T s hT]
theorem ne_of_len {α : Type} {l : List α} (h : 0 < l.length) : l ≠ [] := by rintro rfl; simp at h
theorem emptyAt_mid (xs : List S26) (k m : Nat) (h0 : 0 < k) (hk : k < xs.length) :
    bs (joinC 44 (txs (xs.take k))) ++ bs [44] ++ bs (List.replicate m 32) ++ (bs [44] ++ bs (joinC 44 (txs (xs.drop k)))) = bs (emptyAt xs k m) := by
  have hl : (txs xs).length = xs.length := by simp [txs]
  unfold emptyAt
  rw [bs_append, bs_append, bs_append, bs_append, txs_take, txs_drop, joinC_mid _ _ _ _ (ne_of_len (by rw [List.length_take]; omega)) (ne_of_len (by rw [List.length_drop]; omega))]
  congr 1
  simp
theorem emptyAt_zero (xs : List S26) (m : Nat) (hk : 0 < xs.length) :
    bs (List.replicate m 32) ++ (bs [44] ++ bs (joinC 44 (txs xs))) = bs (emptyAt xs 0 m) := by
  have hl : (txs xs).length = xs.length := by simp [txs]
  unfold emptyAt
  rw [bs_append, bs_append, List.take_zero, List.drop_zero, joinC_beg _ _ _ (ne_of_len (by omega))]
  congr 1
theorem emptyAt_end (xs : List S26) (m : Nat) (hk : 0 < xs.length) :
    bs (joinC 44 (txs (xs.take xs.length))) ++ bs [44] ++ bs (List.replicate m 32) = bs (emptyAt xs xs.length m) := by
  have hl : (txs xs).length = xs.length := by simp [txs]
  unfold emptyAt
  rw [bs_append, bs_append, txs_take, show (txs xs).drop xs.length = [] from List.drop_of_length_le (by omega), joinC_end _ _ _ (ne_of_len (by rw [List.length_take]; omega))]
  congr 1
  simp

end Go.Proofs.YtnajekpckbfcdaaGreatDoor

namespace Go.Proofs.YtnajekpckbfcdaaGreatDoor
open Go.RowKit Go.Proofs.YtnajekpckbfcdaaGreatDoorW.PrintWords Go.Proofs.YtnajekpckbfcdaaGreatDoor.PFnParseDecs

theorem tj_len (xs : List S26) (hok : ∀ x ∈ xs, (toPart x).Ok) (h8 : xs.length ≤ 8) : (joinC 44 (txs xs)).length ≤ 2000 := by
  have h1 := joinC_len 44 214 (txs xs) (by
    intro l hl
    unfold txs at hl
    obtain ⟨x, hx, rfl⟩ := List.mem_map.1 hl
    exact (hok x hx).text_len)
  have h2 : (txs xs).length = xs.length := by simp [txs]
  rw [h2] at h1
  omega
theorem str_ne {s : ByteArray} (h : 0 < s.size) : ¬ s.toList = [] ∧ (s.toList.isEmpty) = false ∧ (s.toList == []) = false := by
  have hne : s.toList ≠ [] := by
    intro e
    have := congrArg List.length e
    rw [ByteArray.toList_eq] at this
    simp at this
    rw [this] at h
    exact absurd h (by decide)
  refine ⟨hne, ?_, ?_⟩
  · cases hh : s.toList with
    | nil => exact absurd hh hne
    | cons a r => rfl
  · rw [beq_eq_false_iff_ne]; exact hne
set_option maxRecDepth 20000 in
set_option maxHeartbeats 4000000 in
theorem FnParseEmpty_any (xs : List S26) (A : Option Addr) (c at_ b : Nat) (w : World) (hC : Kd.C k26 w A xs.length xs) (hc : xs.length ≤ c) (hat : at_ < 256) (hb : b < 256) (hG : Gl w) :
    Calls Tryz.prog 4 #[.slice A xs.length c, .int .u8 at_, .int .u8 b] w fun e w' => e = .returned (.bool true) ∧ Upd [] w w' := by
  obtain ⟨k1, r1, hf1, hp1⟩ := fits10_f xs
  have H1 := hide (laws_zzFits10.calls k1 A c xs r1 w hC hc hf1)
  have TA := hide (fun w hG => textAwake_9 w hG)
  clear hf1
  cases r1 with
  | false =>
    clear hp1
    go_enter Tryz.func4, Tryz.ntmps4
    go_wp2_with fail
    refine H1.out.mono ?_
    rintro e w2 ⟨rfl, hu⟩
    go_wp2
    go_ret
    exact ⟨rfl, Upd.of_below hu []⟩
  | true =>
    obtain ⟨hn, hsm⟩ := hp1 rfl
    obtain ⟨k2, r2, hf2, hp2⟩ := parts_f xs hn hsm
    have H2 := hide (fun (w' : World) (h : Upd [] w w') => laws_textParts.calls k2 A c xs r2 w' (Kd.C_below hC h.nil) hc hf2)
    clear hf2 hsm hp1
    cases r2 with
    | false =>
      clear hp2
      go_enter Tryz.func4, Tryz.ntmps4
      go_wp2_with fail
      refine H1.out.mono ?_
      rintro e w2 ⟨rfl, hu⟩
      have u2 := Upd.of_below hu []
      clear H1 hu
      go_wp2_with fail
      refine (H2.out _ u2).mono ?_
      rintro e w3 ⟨rfl, hu⟩
      have u3 := u2.on0 (Upd.of_below hu [])
      go_wp2_with fail
      refine (TA.out _ (hG.grow u3)).mono ?_
      rintro e w4 ⟨rfl, hu4⟩
      go_wp2
      go_ret
      exact ⟨rfl, u3.on0 hu4⟩
    | true =>
      obtain ⟨hok, hx1, hx8⟩ := hp2 rfl
      clear hp2
      obtain ⟨m, hm⟩ : ∃ m, b % 7 = m := ⟨_, rfl⟩
      have hm6 : m ≤ 6 := by omega
      have hrem : (b : Int).tmod 7 = (m : Int) := by rw [Int.tmod_eq_emod_of_nonneg (by omega)]; omega
      have hrem2 : (b : Int) % 7 = (m : Int) := by omega
      have HRM := hide hrem
      have HRM2 := hide hrem2
      clear hm hrem hrem2
      go_enter Tryz.func4, Tryz.ntmps4
      go_wp2_with fail
      refine H1.out.mono ?_
      rintro e w2 ⟨rfl, hu⟩
      have u2 := Upd.of_below hu []
      clear H1 hu
      go_wp2_with fail
      refine (H2.out _ u2).mono ?_
      rintro e w3 ⟨rfl, hu⟩
      have u3 := u2.on0 (Upd.of_below hu [])
      clear H2 u2 hu
      go_wp2_with fail
      rw [HRM2.out]
      go_loopw [7, 23] (fun s i wr => ∃ j : Nat, j ≤ m ∧ i = .int .u8 j ∧ s = .string (bs (List.replicate j 32)) ∧ wr = w3) (fun _ i _ => m - (intOf i).toNat)
      case atStart => exact ⟨0, by omega, rfl, rfl, rfl⟩
      case round =>
        obtain ⟨j, hj, rfl, rfl, rfl⟩ := hrel
        rcases (by omega : j < m ∨ j = m) with hlt | rfl
        · have t1 : (j : Int) < (m : Int) := by omega
          have t2 : decide ((j : Int) < (m : Int)) = true := decide_eq_true t1
          obtain ⟨L, hL⟩ : ∃ L, List.replicate j (32 : UInt8) = L := ⟨_, rfl⟩
          have hL1 : List.replicate (j + 1) (32 : UInt8) = L ++ [32] := by rw [List.replicate_succ', hL]
          have hll : L.length = j := by rw [← hL]; simp
          have z1 : (bs L).size = L.length := bs_size L
          have m1 : (L.length : Int) ≤ 8388608 := by omega
          rw [hL]
          have HL1 := hide hL1
          clear hL hL1 hll
          go_wp2
          go_roundw
          case rel => exact ⟨j + 1, by omega, by first | rfl | go_num, by rw [HL1.out, ← bs_append]; rfl, trivial⟩
          case measure => simp [intOf]; omega
        · have t1 : ¬ (j : Int) < (j : Int) := by omega
          clear HRM HRM2
          obtain ⟨S, hS⟩ : ∃ S, List.replicate j (32 : UInt8) = S := ⟨_, rfl⟩
          have hSl : S.length = j := by rw [← hS]; simp
          have hSt : trim S = [] := by rw [← hS]; exact trim_blanks j
          rw [hS]
          have HPD := hide (fun w => ParseDecs_blank S hSt (by omega) w)
          have HPC := hide (fun w => ParseCoins_blank S hSt (by omega) w)
          have HS := hide hS
          clear hS hSt
          go_wp2_with fail
          refine (HPD.out _).mono ?_
          rintro e w4 ⟨rfl, hu4⟩
          have u4 := u3.on0 hu4
          clear HPD u3 hu4
          go_wp2_with fail
          refine (HPC.out _).mono ?_
          rintro e w5 ⟨rfl, hu5⟩
          have u5 := u4.on0 hu5
          clear HPC u4 hu5
          go_upto_region 14 with (fail)
          skip
          obtain ⟨n, hn0⟩ : ∃ n, xs.length = n := ⟨_, rfl⟩
          have HN := hide hn0
          have hcn : n ≤ c := by omega
          have hn1 : 1 ≤ n := by omega
          have hn8 : n ≤ 8 := by omega
          rw [hn0]
          clear hn0
          obtain ⟨kk, hkk⟩ : ∃ kk, at_ % (n + 1) = kk := ⟨_, rfl⟩
          have hkn : kk ≤ n := by have := Nat.mod_lt at_ (show 0 < n + 1 by omega); omega
          have HK := hide (show (at_ : Int) % ((n : Int) + 1) = (kk : Int) by rw [← hkk]; simp)
          clear hkk
          go_upto_region 16 with (fail)
          rw [HK.out]
          clear HK hx1 hx8 hn hc hat
          have hSm : (S.length : Int) ≤ 8388608 := by omega
          have zS : (bs S).size = S.length := bs_size S
          have hxl : xs.length ≤ 8 := by have := HN.out; omega
          rcases (by omega : kk = 0 ∨ (0 < kk ∧ kk < n) ∨ (0 < kk ∧ kk = n)) with rfl | ⟨hk0, hk1⟩ | ⟨hk0, rfl⟩
          · have HTX := hide (emptyAt_zero xs j (by have := HN.out; omega))
            rw [HS.out] at HTX
            have hJ := hide (fun (w' : World) (h : Upd [] w w') => textJoined_10 xs A c w' (Kd.C_below hC h.nil) (by have := HN.out; omega) (by omega) hok)
            have hjl := tj_len xs hok hxl
            rw [HN.out] at hJ
            generalize joinC 44 (txs xs) = J1 at *
            have z1 : (bs J1).size = J1.length := bs_size J1
            have m1 : (J1.length : Int) ≤ 8388608 := by omega
            have m2 : (1 : Int) + (J1.length : Int) ≤ 8388608 := by omega
            have t1 : ¬ (0 : Int) < ((0 : Nat) : Int) := by omega
            have t2 : (0 : Int) < (n : Int) := by omega
            go_upto_region 19 with (fail)
            go_wp2_with fail
            refine (hJ.out _ u5).mono ?_
            rintro e w6 ⟨rfl, hu6⟩
            have u6 := u5.on0 hu6
            clear hJ u5 hu6 t1 t2
            have HTY : Hid (bs S ++ ((⟨#[44]⟩ : ByteArray) ++ bs J1) = bs (emptyAt xs 0 j)) := HTX
            have m3 : (((⟨#[44]⟩ : ByteArray) ++ bs J1).size : Int) ≤ 8388608 := by rw [ByteArray.size_append, z1]; show ((1 + J1.length : Nat) : Int) ≤ _; omega
            clear HTX
            have HTX := HTY
            go_upto_region 20 with (fail)
            rw [HTY.out]
            clear HTY m1 m2 m3 hjl z1
            have HPD := hide (fun w hG => ParseDecs_err (emptyParts xs 0 j) (emptyParts_ok xs 0 j hm6 hok) (emptyParts_bad xs 0 j) (emptyAt xs 0 j) (emptyAt_pieces xs 0 j hm6 hok) (emptyAt_len xs 0 j hm6 (by have := HN.out; omega) hok) (emptyAt_ne xs 0 j (by have := HN.out; omega) (by have := HN.out; omega)) w hG)
            have HPC := hide (fun w hG => ParseCoins_err (emptyParts xs 0 j) (emptyParts_ok xs 0 j hm6 hok) (emptyParts_bad xs 0 j) (emptyAt xs 0 j) (emptyAt_pieces xs 0 j hm6 hok) (emptyAt_len xs 0 j hm6 (by have := HN.out; omega) hok) (emptyAt_ne xs 0 j (by have := HN.out; omega) (by have := HN.out; omega)) w hG)
            generalize emptyAt xs 0 j = T at *
            clear HS HTX hC hok
            go_wp2_with fail
            refine (HPD.out _ (hG.grow u6)).mono ?_
            rintro e w8 ⟨s8, rfl, hs8, hu8⟩
            have u8 := u6.on0 hu8
            clear HPD hu8
            have e1 := str_ne hs8
            go_wp2_with fail
            refine (HPC.out _ (hG.grow u8)).mono ?_
            rintro e w9 ⟨s9, rfl, hs9, hu9⟩
            have u9 := u8.on0 hu9
            clear HPC hu9
            have e2 := str_ne hs9
            obtain ⟨e1a, e1b, e1c⟩ := e1
            obtain ⟨e2a, e2b, e2c⟩ := e2
            go_wp2_with fail
            refine (TA.out _ (hG.grow u9)).mono ?_
            rintro e w10 ⟨rfl, hu10⟩
            go_wp2
            go_ret
            exact ⟨rfl, u9.on0 hu10⟩
          · have HTX := hide (emptyAt_mid xs kk j hk0 (by have := HN.out; omega))
            rw [HS.out] at HTX
            have hA : ∃ ad, A = some ad := by
              obtain ⟨ad, h, _⟩ := hC.2.2 (by have := HN.out; omega)
              exact ⟨ad, h⟩
            obtain ⟨ad, rfl⟩ := hA
            have hl1 : (xs.take kk).length = kk := by rw [List.length_take]; have := HN.out; omega
            have hl2 : (xs.drop kk).length = n - kk := by rw [List.length_drop]; have := HN.out; omega
            have hJ1 := hide (fun (w' : World) (h : Upd [] w w') => textJoined_10 (xs.take kk) (some ad) c w' (Kd.C_below (Kd.C_take hC (m := kk) (by have := HN.out; omega)) h.nil) (by omega) (by omega) (fun x hx => hok x (List.mem_of_mem_take hx)))
            have hJ2 := hide (fun (w' : World) (h : Upd [] w w') => textJoined_10 (xs.drop kk) _ (c - kk) w' (Kd.C_below (Kd.C_drop hC (m := kk) (c := c) (by have := HN.out; omega) (by have := HN.out; omega)) h.nil) (by omega) (by omega) (fun x hx => hok x (List.mem_of_mem_drop hx)))
            have hjl1 := tj_len (xs.take kk) (fun x hx => hok x (List.mem_of_mem_take hx)) (by omega)
            have hjl2 := tj_len (xs.drop kk) (fun x hx => hok x (List.mem_of_mem_drop hx)) (by omega)
            rw [hl1] at hJ1
            rw [hl2, if_neg (by omega), show k26.sz = 7 from rfl] at hJ2
            simp only [Option.map_some] at hJ2
            generalize joinC 44 (txs (xs.take kk)) = J1 at *
            generalize joinC 44 (txs (xs.drop kk)) = J2 at *
            have z1 : (bs J1).size = J1.length := bs_size J1
            have z2 : (bs J2).size = J2.length := bs_size J2
            have m1 : (J1.length : Int) ≤ 8388608 := by omega
            have t1 : (0 : Int) < (kk : Int) := by omega
            have t2 : (kk : Int) < (n : Int) := by omega
            have t3 : (kk : Int) ≤ (c : Int) := by omega
            have t4 : (kk : Int) ≤ (n : Int) := by omega
            have t5 : ¬ c = kk := by omega
            clear hl1 hl2
            go_upto_region 17 with (fail)
            go_wp2_with fail
            refine (hJ1.out _ u5).mono ?_
            rintro e w6 ⟨rfl, hu6⟩
            have u6 := u5.on0 hu6
            clear hJ1 u5 hu6
            have m3 : ((bs J1 ++ (⟨#[44]⟩ : ByteArray)).size : Int) ≤ 8388608 := by rw [ByteArray.size_append, z1]; show ((J1.length + 1 : Nat) : Int) ≤ _; omega
            go_upto_region 18 with (fail)
            have m4 : ((bs J1 ++ (⟨#[44]⟩ : ByteArray) ++ bs S).size : Int) ≤ 8388608 := by rw [ByteArray.size_append, ByteArray.size_append, z1, zS]; show ((J1.length + 1 + S.length : Nat) : Int) ≤ _; omega
            have m5 : (J2.length : Int) ≤ 8388608 := by omega
            have m6 : (((⟨#[44]⟩ : ByteArray) ++ bs J2).size : Int) ≤ 8388608 := by rw [ByteArray.size_append, z2]; show ((1 + J2.length : Nat) : Int) ≤ _; omega
            go_upto_region 19 with (fail)
            go_wp2_with fail
            refine (hJ2.out _ u6).mono ?_
            rintro e w7 ⟨rfl, hu7⟩
            have u7 := u6.on0 hu7
            clear hJ2 u6 hu7 t1 t2 t3 t4 t5
            have HTY : Hid (bs J1 ++ (⟨#[44]⟩ : ByteArray) ++ bs S ++ ((⟨#[44]⟩ : ByteArray) ++ bs J2) = bs (emptyAt xs kk j)) := HTX
            clear HTX
            have HTX := HTY
            go_upto_region 20 with (fail)
            rw [HTY.out]
            clear HTY m1 m3 m4 m5 m6 hjl1 hjl2 z1 z2
            have HPD := hide (fun w hG => ParseDecs_err (emptyParts xs kk j) (emptyParts_ok xs kk j hm6 hok) (emptyParts_bad xs kk j) (emptyAt xs kk j) (emptyAt_pieces xs kk j hm6 hok) (emptyAt_len xs kk j hm6 (by have := HN.out; omega) hok) (emptyAt_ne xs kk j (by have := HN.out; omega) (by have := HN.out; omega)) w hG)
            have HPC := hide (fun w hG => ParseCoins_err (emptyParts xs kk j) (emptyParts_ok xs kk j hm6 hok) (emptyParts_bad xs kk j) (emptyAt xs kk j) (emptyAt_pieces xs kk j hm6 hok) (emptyAt_len xs kk j hm6 (by have := HN.out; omega) hok) (emptyAt_ne xs kk j (by have := HN.out; omega) (by have := HN.out; omega)) w hG)
            generalize emptyAt xs kk j = T at *
            clear HS HTX hC hok
            go_wp2_with fail
            refine (HPD.out _ (hG.grow u7)).mono ?_
            rintro e w8 ⟨s8, rfl, hs8, hu8⟩
            have u8 := u7.on0 hu8
            clear HPD hu8
            have e1 := str_ne hs8
            go_wp2_with fail
            refine (HPC.out _ (hG.grow u8)).mono ?_
            rintro e w9 ⟨s9, rfl, hs9, hu9⟩
            have u9 := u8.on0 hu9
            clear HPC hu9
            have e2 := str_ne hs9
            obtain ⟨e1a, e1b, e1c⟩ := e1
            obtain ⟨e2a, e2b, e2c⟩ := e2
            go_wp2_with fail
            refine (TA.out _ (hG.grow u9)).mono ?_
            rintro e w10 ⟨rfl, hu10⟩
            go_wp2
            go_ret
            exact ⟨rfl, u9.on0 hu10⟩
          · have HTX := hide (emptyAt_end xs j (by have := HN.out; omega))
            rw [HS.out] at HTX
            have hl1 : (xs.take xs.length).length = kk := by rw [List.length_take]; have := HN.out; omega
            have hJ1 := hide (fun (w' : World) (h : Upd [] w w') => textJoined_10 (xs.take xs.length) A c w' (Kd.C_below (Kd.C_take hC (m := xs.length) (by omega)) h.nil) (by omega) (by omega) (fun x hx => hok x (List.mem_of_mem_take hx)))
            have hjl1 := tj_len (xs.take xs.length) (fun x hx => hok x (List.mem_of_mem_take hx)) (by omega)
            rw [hl1] at hJ1
            generalize joinC 44 (txs (xs.take xs.length)) = J1 at *
            have z1 : (bs J1).size = J1.length := bs_size J1
            have m1 : (J1.length : Int) ≤ 8388608 := by omega
            have t1 : (0 : Int) < (kk : Int) := by omega
            have t2 : ¬ (kk : Int) < (kk : Int) := by omega
            have t3 : (kk : Int) ≤ (c : Int) := by omega
            clear hl1
            go_upto_region 17 with (fail)
            go_wp2_with fail
            refine (hJ1.out _ u5).mono ?_
            rintro e w6 ⟨rfl, hu6⟩
            have u6 := u5.on0 hu6
            clear hJ1 u5 hu6
            have m3 : ((bs J1 ++ (⟨#[44]⟩ : ByteArray)).size : Int) ≤ 8388608 := by rw [ByteArray.size_append, z1]; show ((J1.length + 1 : Nat) : Int) ≤ _; omega
            have HTY : Hid (bs J1 ++ (⟨#[44]⟩ : ByteArray) ++ bs S = bs (emptyAt xs xs.length j)) := HTX
            clear HTX
            have HTX := HTY
            go_upto_region 20 with (fail)
            rw [HTY.out]
            clear HTY m1 m3 hjl1 z1 t1 t2 t3
            have HPD := hide (fun w hG => ParseDecs_err (emptyParts xs xs.length j) (emptyParts_ok xs xs.length j hm6 hok) (emptyParts_bad xs xs.length j) (emptyAt xs xs.length j) (emptyAt_pieces xs xs.length j hm6 hok) (emptyAt_len xs xs.length j hm6 (by have := HN.out; omega) hok) (emptyAt_ne xs xs.length j (by have := HN.out; omega) (by have := HN.out; omega)) w hG)
            have HPC := hide (fun w hG => ParseCoins_err (emptyParts xs xs.length j) (emptyParts_ok xs xs.length j hm6 hok) (emptyParts_bad xs xs.length j) (emptyAt xs xs.length j) (emptyAt_pieces xs xs.length j hm6 hok) (emptyAt_len xs xs.length j hm6 (by have := HN.out; omega) hok) (emptyAt_ne xs xs.length j (by have := HN.out; omega) (by have := HN.out; omega)) w hG)
            generalize emptyAt xs xs.length j = T at *
            clear HS HTX hC hok
            go_wp2_with fail
            refine (HPD.out _ (hG.grow u6)).mono ?_
            rintro e w8 ⟨s8, rfl, hs8, hu8⟩
            have u8 := u6.on0 hu8
            clear HPD hu8
            have e1 := str_ne hs8
            go_wp2_with fail
            refine (HPC.out _ (hG.grow u8)).mono ?_
            rintro e w9 ⟨s9, rfl, hs9, hu9⟩
            have u9 := u8.on0 hu9
            clear HPC hu9
            have e2 := str_ne hs9
            obtain ⟨e1a, e1b, e1c⟩ := e1
            obtain ⟨e2a, e2b, e2c⟩ := e2
            go_wp2_with fail
            refine (TA.out _ (hG.grow u9)).mono ?_
            rintro e w10 ⟨rfl, hu10⟩
            go_wp2
            go_ret
            exact ⟨rfl, u9.on0 hu10⟩

end Go.Proofs.YtnajekpckbfcdaaGreatDoor
