/-
  TextNumber, zzFits3, TextValid.
-/
import Derived.Test.YtnajekpckbfcdaaGreatDoorO3
import Derived.Test.YtnajekpckbfcdaaGreatDoorO4
import Derived.Test.YtnajekpckbfcdaaGreatDoorN6
import Derived.Deep.QuietTactic
import Derived.BigQuiet
set_option linter.unusedVariables false
set_option linter.unusedSimpArgs false
namespace Go.Proofs.YtnajekpckbfcdaaGreatDoor
open Go.RowKit

theorem nd_left (k n : Nat) : 0 < n / 10 ^ k ↔ k < nd n := by
  have h := nd_div k n
  constructor
  · intro h1
    have h2 := nd_one (n / 10 ^ k) (by omega)
    omega
  · intro h1
    rcases Nat.eq_zero_or_pos (n / 10 ^ k) with h0 | h0
    · rw [h0, nd_zero] at h; omega
    · exact h0

set_option maxRecDepth 20000 in
set_option maxHeartbeats 1000000 in
theorem TextNumber_18 (n m : Nat) (hn : n < 9223372036854775808) (hm : m ≤ 18) (w : World) :
    Calls Tryz.prog 18 #[.int .i64 n, .int .i64 m] w fun e w' => e = .returned (.string (bs (tn n m))) ∧ Upd [] w w' := by
  have hnd : nd n ≤ 19 := nd_le 19 n (Nat.lt_trans hn (by decide))
  obtain ⟨N, hN⟩ : ∃ N, max m (nd n) = N := ⟨_, rfl⟩
  have hN19 : N ≤ 19 := by omega
  have hmN : m ≤ N := by omega
  have hT : tn n m = pd N n := by unfold tn; rw [hN]
  rw [hT]
  have HL := hide (fun k => nd_left k n)
  have HN := hide (fun k (h : k < N) => (by omega : k < nd n ∨ k < m))
  have HN2 := hide (fun (h : N < nd n) => (by omega : False))
  have HV := hide (fun k => Nat.lt_of_le_of_lt (Nat.div_le_self n (10 ^ k)) hn)
  have HS := hide (fun k => pd_cons k n)
  have HP := hide (fun k => pd_len k n)
  have HD := hide (fun k => (by rw [Nat.pow_succ, Nat.div_div_eq_div_mul] : n / 10 ^ k / 10 = n / 10 ^ (k + 1)))
  clear hT hN hnd hn hm
  go_enter Tryz.func18, Tryz.ntmps18
  go_wp2_with fail
  go_loopw [0, 5] (fun a s wr => ∃ k : Nat, k ≤ N ∧ a = .int .i64 (n / 10 ^ k : Nat) ∧ s = .string (bs (pd k n)) ∧ Upd [] w wr) (fun _ s _ => N - (match s with | .string b => b.size | _ => 0))
  case atStart => exact ⟨0, by omega, by simp, rfl, Upd.refl _ _⟩
  case round =>
    obtain ⟨k, hk, rfl, rfl, hu⟩ := hrel
    have z0 : (bs (pd k n)).size = k := by rw [bs_size, HP.out]
    rcases (by omega : k < N ∨ k = N) with hlt | rfl
    · have hv := HV.out k
      have h1 := HL.out k
      have h2 := HN.out k hlt
      have hs := HS.out k
      have hd := HD.out k
      obtain ⟨q, hq⟩ : ∃ q, n / 10 ^ k = q := ⟨_, rfl⟩
      rw [hq] at hv h1 hs hd ⊢
      have hcat : bs [d10 q] ++ bs (pd k n) = bs (d10 q :: pd k n) := bs_append _ _
      rw [← hs] at hcat
      have HCAT := hide hcat
      have hdq : ((d10 q).toNat : Int) = 48 + (q : Int) % 10 := by rw [d10_nat]; omega
      have hdv := hide ((by omega) : ((q : Int) / 10) = ((q / 10 : Nat) : Int))
      have HD2 := hide hd
      clear hs hcat hq hd
      generalize bs (pd k n) = B at *
      obtain ⟨B', hB'⟩ : ∃ B', bs (pd (k + 1) n) = B' := ⟨_, rfl⟩
      rw [hB'] at HCAT
      have HB' := hide hB'
      clear hB'
      generalize d10 q = c at *
      have m0 : (B.size : Int) ≤ 8388608 := by omega
      have hcv : ∀ w' : World, w'.cell? ⟨wr.heap.size, 0, none⟩ = some (.int .u8 (48 + (q : Int) % 10)) → (convert 78 9 (.slice (some ⟨wr.heap.size, 0, none⟩) 1 1)).run Tryz.prog w' = .ok (.string (bs [c])) w' := fun w' h' => by
        rw [← hdq] at h'
        exact run_convert_bytes_back (P := Tryz.prog) w' 78 9 5 ⟨wr.heap.size, 0, none⟩ 1 [c] Tryz.underlying78 Tryz.underlying5 Tryz.underlying9 (fun j hj => by
          have : j = 0 := by simpa using hj
          subst this
          exact h')
      have hc1 := hcv _ (Blk.new wr 5 #[.int .u8 (48 + (q : Int) % 10)]).one
      have u1 := hu.alloc (.cells #[.int .u8 (48 + (q : Int) % 10)] 5)
      have hcs : (0 : Int) < (q : Int) ∨ (q = 0 ∧ (k : Int) < (m : Int)) := by
        rcases Nat.eq_zero_or_pos q with h0 | h0
        · refine .inr ⟨h0, ?_⟩
          rcases h2 with h2 | h2
          · have := h1.2 h2; omega
          · omega
        · exact .inl (by omega)
      clear hcv hdq h1 h2 hu
      have zc : ((bs [c]).size : Int) ≤ 8388608 := by rw [bs_size]; simp
      have zC := hide (bs_size [c])
      generalize bs [c] = C at *
      have zs : ¬ 9223372036854775807 < C.size + B.size := by omega
      rcases hcs with t0 | ⟨rfl, t1⟩
      · go_upto_region 3 with (fail)
        go_wp2
        go_roundw
        case rel => exact ⟨k + 1, by omega, by rw [← HD2.out, ← hdv.out], by rw [HCAT.out, HB'.out], u1⟩
        case measure => (have hzC : C.size = 1 := zC.out); simp; omega
      · have hc2 : (convert 78 9 (.slice (some ⟨wr.heap.size, 0, none⟩) 1 1)).run Tryz.prog (wr.alloc (.cells #[.int .u8 48] 5)) = .ok (.string C) (wr.alloc (.cells #[.int .u8 48] 5)) := hc1
        have u2 : Upd [] w (wr.alloc (.cells #[.int .u8 48] 5)) := u1
        have e0 := HD2.out
        rw [Nat.zero_div] at e0
        have E0 := hide e0
        clear hc1 u1 hdv HD2 e0 hv
        go_upto_region 3 with (fail)
        go_wp2
        go_roundw
        case rel => exact ⟨k + 1, by omega, by rw [← E0.out]; rfl, by rw [HCAT.out, HB'.out], u2⟩
        case measure => (have hzC : C.size = 1 := zC.out); simp; omega
    · have h1 := HL.out k
      obtain ⟨q, hq⟩ : ∃ q, n / 10 ^ k = q := ⟨_, rfl⟩
      rw [hq] at h1 ⊢
      have t0 : ¬ (0 : Int) < (q : Int) := fun h => HN2.out (h1.1 (by omega))
      have t1 : ¬ (k : Int) < (m : Int) := by omega
      clear h1 hq
      go_wp2
      go_ret
      exact ⟨rfl, hu⟩

end Go.Proofs.YtnajekpckbfcdaaGreatDoor

namespace Go.Proofs.YtnajekpckbfcdaaGreatDoor
open Go.RowKit

/-- A decimal coin as the statement's data hold it. -/
structure XC where
  d : List UInt8
  a : Int
  b : Int
def icells : List XC → List Value
  | [] => []
  | c :: r => .string (bs c.d) :: .int .i64 c.a :: .int .i64 c.b :: icells r
theorem icells_get : ∀ (L : List XC) (k : Nat) (h : k < L.length), (icells L)[k * 3]? = some (.string (bs L[k].d)) ∧ (icells L)[k * 3 + 1]? = some (.int .i64 L[k].a) ∧ (icells L)[k * 3 + 2]? = some (.int .i64 L[k].b)
  | [], k, h => by simp at h
  | c :: r, 0, _ => ⟨rfl, rfl, rfl⟩
  | c :: r, k + 1, h => by
    have := icells_get r k (by simpa using h)
    rw [show (k + 1) * 3 = k * 3 + 3 by omega, show k * 3 + 3 + 1 = (k * 3 + 1) + 3 by omega, show k * 3 + 3 + 2 = (k * 3 + 2) + 3 by omega]
    exact this
theorem icells_append (a b : List XC) : icells (a ++ b) = icells a ++ icells b := by
  induction a with
  | nil => rfl
  | cons c r ih => simp [icells, ih]
/-- A test that, where it answers yes, shows Q. -/
def BoolRes (w : World) (Q : Prop) (e : Ending) (w' : World) : Prop := ∃ r : Bool, e = .returned (.bool r) ∧ (r = true → Q) ∧ Upd [] w w'
end Go.Proofs.YtnajekpckbfcdaaGreatDoor

namespace Go.Proofs.YtnajekpckbfcdaaGreatDoor
open Go.RowKit

theorem TextDenom_any (l : List UInt8) (hl : l.length ≤ 2147483647) (w : World) : Calls Tryz.prog 33 #[.string (bs l)] w fun e w' => e = .returned (.bool (isDen l)) ∧ w = w' := by
  rcases (by omega : l.length ≤ 100000 ∨ 128 < l.length) with h | h
  · exact TextDenom_33 l h w
  · have z2 : (bs l).size = l.length := bs_size l
    have hd : isDen l = false := by unfold isDen; rw [decide_eq_false (show ¬ l.length ≤ 128 by omega)]; simp
    have t1 : ¬ (l.length : Int) < 3 := by omega
    have t2 : (128 : Int) < (l.length : Int) := by omega
    rw [hd]
    go_enter Tryz.func33, Tryz.ntmps33
    go_wp2
    go_ret
    exact ⟨rfl, rfl⟩
/-- A coin that is right. -/
def XC.Ok (x : XC) : Prop := isDen x.d = true ∧ 0 ≤ x.a ∧ x.a ≤ 100000000000000000 ∧ 0 ≤ x.b ∧ x.b < 1000000000000000000 ∧ ¬ (x.a = 0 ∧ x.b = 0)
/-- Coins that are right, their denominations rising. -/
def XOk (L : List XC) : Prop := (∀ x ∈ L, x.Ok) ∧ ∀ (k : Nat) (h : k + 1 < L.length), Op.bytesLess L[k].d L[k + 1].d = true
theorem XOk.snoc {L : List XC} {k : Nat} (hk : k < L.length) (h : XOk (L.take k)) (hx : L[k].Ok) (hl : ∀ (j : Nat) (hj : j + 1 = k), Op.bytesLess (L[j]'(by omega)).d L[k].d = true) : XOk (L.take (k + 1)) := by
  have htk : L.take (k + 1) = L.take k ++ [L[k]] := List.take_succ_eq_append_getElem hk
  constructor
  · intro x hx'
    rw [htk] at hx'
    rcases List.mem_append.1 hx' with h' | h'
    · exact h.1 x h'
    · rw [List.mem_singleton.1 h']; exact hx
  · intro j hj
    rw [List.length_take] at hj
    rw [List.getElem_take, List.getElem_take]
    by_cases e : j + 1 = k
    · subst e; exact hl j rfl
    · have := h.2 j (by rw [List.length_take]; omega)
      rw [List.getElem_take, List.getElem_take] at this
      exact this

set_option maxRecDepth 20000 in
set_option maxHeartbeats 4000000 in
theorem TextValid_17 (L : List XC) (A : Option Addr) (c : Nat) (w : World) (hn : L.length ≤ 2147483647) (hd : ∀ x ∈ L, x.d.length ≤ 2147483647) (hA : RdS w A L.length (icells L)) :
    Calls Tryz.prog 17 #[.slice A L.length c] w (BoolRes w (L.length ≤ 12 ∧ XOk L)) := by
  obtain ⟨n, hne⟩ : ∃ n, L.length = n := ⟨_, rfl⟩
  have HN := hide hne
  have HA := hide hA
  have HD := hide hd
  rw [hne] at HA hn ⊢
  clear hne hA hd
  go_enter Tryz.func17, Tryz.ntmps17
  go_wp2_with fail
  go_loopw [7] (fun i wr => ∃ k : Nat, k ≤ n ∧ i = .int .i64 k ∧ Hid (XOk (L.take k)) ∧ Upd [] w wr) (fun i _ => n - (intOf i).toNat)
  case atStart => exact ⟨0, by omega, rfl, ⟨fun x hx => by simp at hx, fun k h => by simp at h⟩, Upd.refl _ _⟩
  case round =>
    obtain ⟨k, hk, rfl, hall, hu⟩ := hrel
    rcases (by omega : k < n ∨ k = n) with hlt | rfl
    · have hkl : k < L.length := by have := HN.out; omega
      have HSN := hide (fun hx hl => XOk.snoc hkl hall.out hx hl)
      obtain ⟨e0, e1, e2⟩ := icells_get L k hkl
      obtain ⟨ad, rfl, c0, c1, c2⟩ := (HA.out.grow hu).at3 (by omega) e0 e1 e2
      have s1 : (k : Int) < (n : Int) := by omega
      have hdk := HD.out L[k] (List.getElem_mem _)
      clear e0 e1 e2 hall
      have hprev : ∀ (o : Obj) (j : Nat) (hj : j + 1 = k), (wr.alloc o).cell? (ad.add (j * 3)) = some (.string (bs (L[j]'(by omega)).d)) := fun o j hj => by
        obtain ⟨e0, e1, e2⟩ := icells_get L j (by omega)
        obtain ⟨ad', he, c0, c1, c2⟩ := (HA.out.grow (hu.alloc o)).at3 (by omega) e0 e1 e2
        injection he with he
        subst he
        exact c0
      have hok : isDen L[k].d = true → 0 ≤ L[k].a → L[k].a ≤ 100000000000000000 → 0 ≤ L[k].b → L[k].b < 1000000000000000000 → ¬ (L[k].a = 0 ∧ L[k].b = 0) → L[k].Ok := fun a b c d e f => ⟨a, b, c, d, e, f⟩
      have HOK := hide hok
      have HT := hide (fun w => (TextDenom_any L[k].d hdk w).mono (fun e w' h => (⟨h.1, h.2.symm⟩ : e = .returned (.bool (isDen L[k].d)) ∧ w' = w)))
      clear hok hdk
      have HPV := hide hprev
      clear hprev
      have hcs : (isDen L[k].d = false ∨ (isDen L[k].d = true ∧ L[k].a < 0) ∨ (isDen L[k].d = true ∧ ¬ L[k].a < 0 ∧ 100000000000000000 < L[k].a) ∨ (isDen L[k].d = true ∧ ¬ L[k].a < 0 ∧ ¬ 100000000000000000 < L[k].a ∧ L[k].b < 0) ∨
          (isDen L[k].d = true ∧ ¬ L[k].a < 0 ∧ ¬ 100000000000000000 < L[k].a ∧ ¬ L[k].b < 0 ∧ 1000000000000000000 ≤ L[k].b)) ∨
          (isDen L[k].d = true ∧ ¬ L[k].a < 0 ∧ ¬ 100000000000000000 < L[k].a ∧ ¬ L[k].b < 0 ∧ ¬ 1000000000000000000 ≤ L[k].b) := by
        cases isDen L[k].d
        · exact .inl (.inl rfl)
        · by_cases h1 : L[k].a < 0
          · exact .inl (.inr (.inl ⟨rfl, h1⟩))
          by_cases h2 : 100000000000000000 < L[k].a
          · exact .inl (.inr (.inr (.inl ⟨rfl, h1, h2⟩)))
          by_cases h3 : L[k].b < 0
          · exact .inl (.inr (.inr (.inr (.inl ⟨rfl, h1, h2, h3⟩))))
          by_cases h4 : 1000000000000000000 ≤ L[k].b
          · exact .inl (.inr (.inr (.inr (.inr ⟨rfl, h1, h2, h3, h4⟩))))
          exact .inr ⟨rfl, h1, h2, h3, h4⟩
      have HPD : Hid (∀ (j : Nat) (hj : j + 1 = k), Op.bytesLess (L[j]'(by omega)).d L[k].d = true ∨ Op.bytesLess (L[j]'(by omega)).d L[k].d = false) := fun j hj => by
        cases Op.bytesLess (L[j]'(by omega)).d L[k].d
        · exact .inr rfl
        · exact .inl rfl
      generalize L[k] = x at *
      obtain ⟨d, a, b⟩ := x
      dsimp only at c0 c1 c2 HOK HT hcs HPD HSN
      have hTL := bs_toList d
      have u2 := hu.alloc (.cells #[.string (bs d), .int .i64 a, .int .i64 b] 46)
      have hT2 := Blk.new wr 46 #[.string (bs d), .int .i64 a, .int .i64 b]
      have hPV := HPV.out (.cells #[.string (bs d), .int .i64 a, .int .i64 b] 46)
      have HPV2 := hide hPV
      clear hPV HPV hu
      go_upto_region 4 with (fail)
      clear c0 c1 c2
      obtain ⟨Y, hY⟩ : ∃ Y, wr.heap.size = Y := ⟨_, rfl⟩
      rw [hY] at hT2 ⊢
      generalize wr.alloc (.cells #[.string (bs d), .int .i64 a, .int .i64 b] 46) = w2 at *
      clear hY
      have y0 := hT2.c3a
      have y1 := hT2.c3b
      have y2 := hT2.c3
      rcases hcs with hcs | ⟨h0, h1, h2, h3, h4⟩
      · clear HPV2 HPD HSN HOK
        rcases hcs with h0 | ⟨h0, h1⟩ | ⟨h0, h1, h2⟩ | ⟨h0, h1, h2, h3⟩ | ⟨h0, h1, h2, h3, h4⟩
        all_goals (
          rw [h0] at HT
          clear h0
          go_quiet ((go_at_call 33; exact Calls.quiet_of_same (HT.out _)))
          go_wp2
          go_ret
          exact ⟨false, rfl, (fun h => by cases h), u2.drewN _⟩)
      · rw [h0] at HT
        have HX := hide (fun h5 => HOK.out h0 (by omega) (by omega) (by omega) (by omega) h5)
        have hab : (a = 0 ∧ b = 0) ∨ (a = 0 ∧ ¬ b = 0) ∨ ¬ a = 0 := by omega
        clear h0 HOK
        rcases hab with ⟨rfl, rfl⟩ | hab
        · clear HX HPV2 HPD HSN h1 h2 h3 h4
          go_quiet ((go_at_call 33; exact Calls.quiet_of_same (HT.out _)))
          go_wp2
          go_ret
          exact ⟨false, rfl, (fun h => by cases h), u2.drewN _⟩
        · have hok := hide (HX.out (by omega))
          have hb1 : (b == 0) = true ∨ (b == 0) = false := by cases (b == 0) <;> simp
          have ha1 : (a = 0 ∧ (b == 0) = false) ∨ (a == 0) = false := by
            rcases hab with ⟨h, h'⟩ | h
            · exact .inl ⟨h, beq_eq_false_iff_ne.2 h'⟩
            · exact .inr (beq_eq_false_iff_ne.2 h)
          clear HX hab hb1
          rcases Nat.eq_zero_or_pos k with hk0 | hk0
          · subst hk0
            have HR := hide (HSN.out hok.out (fun j hj => by omega))
            clear HSN HPD HPV2 hok
            have k0 : ¬ (0 : Int) < ((0 : Nat) : Int) := by omega
            rcases ha1 with ⟨rfl, ha1⟩ | ha1
            all_goals (
              go_quiet ((go_at_call 33; exact Calls.quiet_of_same (HT.out _)))
              go_wp2
              go_roundw
              case rel => exact ⟨1, by omega, by go_num, HR, u2.drewN _⟩
              case measure => first | (simp [intOf]; done) | (simp [intOf]; omega))
          · obtain ⟨j, rfl⟩ : ∃ j, k = j + 1 := ⟨k - 1, by omega⟩
            have hp := HPV2.out j rfl
            have hl := HPD.out j rfl
            have HSN2 := hide (fun (h : Op.bytesLess (L[j]'(by omega)).d d = true) => HSN.out hok.out (fun j' hj' => by
              obtain rfl : j' = j := by omega
              exact h))
            clear HSN HPD HPV2 hok
            generalize (L[j]'(by omega)).d = pd' at *
            have hTP := bs_toList pd'
            have k0 : (0 : Int) < ((j + 1 : Nat) : Int) := by omega
            rcases hl with hl | hl
            · have HR := hide (HSN2.out hl)
              clear HSN2
              rcases ha1 with ⟨rfl, ha1⟩ | ha1
              all_goals (
                go_quiet ((go_at_call 33; exact Calls.quiet_of_same (HT.out _)))
                go_wp2
                go_roundw
                case rel => exact ⟨j + 1 + 1, by omega, by go_num, HR, u2.drewN _⟩
                case measure => first | (simp [intOf]; done) | (simp [intOf]; omega))
            · clear HSN2
              rcases ha1 with ⟨rfl, ha1⟩ | ha1
              all_goals (
                go_quiet ((go_at_call 33; exact Calls.quiet_of_same (HT.out _)))
                go_wp2
                go_ret
                exact ⟨false, rfl, (fun h => by cases h), u2.drewN _⟩)
    · have s1 : ¬ (k : Int) < (k : Int) := by omega
      have hlk : L.take k = L := List.take_of_length_le (by have := HN.out; omega)
      rw [hlk] at hall
      rcases (by omega : (k : Int) ≤ 12 ∨ ¬ (k : Int) ≤ 12) with h | h
      · go_wp2
        go_ret
        exact ⟨true, rfl, (fun _ => ⟨by omega, hall.out⟩), hu⟩
      · go_wp2
        go_ret
        exact ⟨false, rfl, (fun h => by cases h), hu⟩

end Go.Proofs.YtnajekpckbfcdaaGreatDoor
