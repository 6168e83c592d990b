/-
  Validate; ParseDecCoins and ParseDecs where each part is read.
-/
import Derived.Test.YtnajekpckbfcdaaGreatDoorN1
import Derived.Maps.Own
import Derived.Maps.Views
import Derived.StringKeys
import Derived.Maps.OwnOps
import Derived.Test.YtnajekpckbfcdaaGreatDoorM16
set_option linter.unusedVariables false
set_option linter.unusedSimpArgs false
namespace Go.Proofs.YtnajekpckbfcdaaGreatDoor
open Go.RowKit

theorem CoinIsPos_70 (w : World) (d : ByteArray) (p : Nat) (A : Option Addr) (m : Nat) (hm : 0 < m) (h : IntV w p A m) :
    Calls Tryz.prog 70 #[CV d p] w fun e w' => e = .returned (.bool true) ∧ Upd [] w w' := by
  have u1 : Upd [] w (w.alloc (.cells #[.string d, .pointer (some ⟨p, 0, none⟩)] 87)) := (Upd.refl _ _).alloc _
  have hc := IsPositive_any _ p A m (h.grow u1)
  rw [show ((m : Int).sign == 1) = true from by rw [Int.sign_eq_one_of_pos (by omega)]; rfl] at hc
  have HC := hide hc
  clear h hc hm
  go_enter Tryz.func70, Tryz.ntmps70
  go_wp2_with fail
  refine HC.out.mono ?_
  rintro e w2 ⟨rfl, hu⟩
  clear HC
  go_wp2
  go_ret
  exact ⟨by first | rfl | simp, u1.on0 hu⟩

theorem Validate_zero (A : Option Addr) (c : Nat) (w : World) : Calls Tryz.prog 45 #[.slice A 0 c] w fun e w' => e = .returned .nilIface ∧ w = w' := by
  go_enter Tryz.func45, Tryz.ntmps45
  go_wp2
  go_ret
  exact ⟨rfl, rfl⟩

set_option maxRecDepth 20000 in
set_option maxHeartbeats 1000000 in
theorem Validate_one (x : DC) (g cap c : Nat) (w : World) (h : DRow w g cap [x]) (hv : DVals w [x]) (hd : isDen x.d = true) (hdl : x.d.length ≤ 1000) (hm : 0 < x.m) :
    Calls Tryz.prog 45 #[.slice (some ⟨g, 0, none⟩) 1 c] w fun e w' => e = .returned .nilIface ∧ Upd [] w w' := by
  have HV := hide (fun w => ValidateDenom_ok x.d (by omega) hd w)
  obtain ⟨A, hI⟩ := hv x (by simp)
  have HP := hide (fun w (hI : IntV w x.q A x.m) => CoinIsPos_70 w (bs x.d) x.q A x.m hm hI)
  have c0 := h.cell0 0 (by simp)
  have nn := n_nil_nil
  simp only [Nat.zero_mul, List.getElem_cons_zero] at c0
  clear hd hdl hm hv
  go_enter Tryz.func45, Tryz.ntmps45
  go_wp2_with fail
  refine (HV.out _).mono ?_
  rintro e w2 ⟨rfl, hu⟩
  have h2 := h.grow hu
  have hI2 := hI.grow hu
  clear c0 h hI HV
  have c0 := h2.cell0 0 (by simp)
  have c1 := h2.cell1 0 (by simp)
  simp only [Nat.zero_mul, Nat.zero_add, List.getElem_cons_zero] at c0 c1
  go_wp2_with fail
  refine (HP.out _ hI2).mono ?_
  rintro e w3 ⟨rfl, hu3⟩
  go_wp2
  go_ret
  exact ⟨rfl, hu.on0 hu3⟩

/-- Strictly ascending denominations. -/
def Strict (l : List DC) : Prop := l.Pairwise fun x y => Op.bytesLess x.d y.d = true
/-- What Validate answers. -/
def ValRes (w : World) (l : List DC) (e : Ending) (w' : World) : Prop :=
  ((Strict l ∧ e = .returned .nilIface) ∨ (¬ Strict l ∧ ∃ v s, e = .returned v ∧ ErrV w' v s ∧ 0 < s.size)) ∧ Upd [] w w'
/-- Denominations that are right, amounts above 0. -/
def Sound (l : List DC) : Prop := ∀ c ∈ l, isDen c.d = true ∧ c.d.length ≤ 1000 ∧ 0 < c.m
theorem less_irrefl (a : List UInt8) : Op.bytesLess a a = false := by
  cases h : Op.bytesLess a a with
  | false => rfl
  | true => have := less_asymm a a h; rw [h] at this; cases this
theorem Strict.next {l : List DC} {k : Nat} (hk : k + 1 < l.length) (h : Strict (l.take (k + 1))) (hs : Op.bytesLess (l[k]'(by omega)).d l[k + 1].d = true) : Strict (l.take (k + 2)) := by
  unfold Strict at *
  rw [List.take_succ_eq_append_getElem hk, List.pairwise_append]
  refine ⟨h, List.pairwise_singleton _ _, ?_⟩
  intro a ha b hb
  rw [List.mem_singleton.1 hb]
  rw [List.take_succ_eq_append_getElem (by omega), List.pairwise_append] at h
  rw [List.take_succ_eq_append_getElem (by omega)] at ha
  rcases List.mem_append.1 ha with ha | ha
  · exact less_trans _ _ _ (h.2.2 a ha _ (by simp)) hs
  · rw [List.mem_singleton.1 ha]; exact hs
theorem Strict.last {l : List DC} {k : Nat} (hk : k < l.length) (h : Strict (l.take (k + 1))) : ∀ c ∈ l.take k, Op.bytesLess c.d l[k].d = true := by
  unfold Strict at h
  rw [List.take_succ_eq_append_getElem hk, List.pairwise_append] at h
  exact fun c hc => h.2.2 c hc _ (by simp)
theorem not_strict {l : List DC} {k : Nat} (hk : k + 1 < l.length) (hs : Op.bytesLess (l[k]'(by omega)).d l[k + 1].d = false) : ¬ Strict l := by
  intro h
  have := List.pairwise_iff_getElem.1 h k (k + 1) (by omega) hk (by omega)
  rw [hs] at this; cases this

theorem K9 : Go.Maps.Keyed Tryz.prog 9 := Go.Maps.string_keyed Tryz.underlying9
theorem zero4 (w : World) : (zeroValue 4).run Tryz.prog w = .ok (.bool false) w := by kernel_rfl
theorem keyD (d : List UInt8) (h : d.length ≤ 1000) : keyOf Tryz.prog 9 (.string (bs d)) = some (.string d) := by
  have := Go.WideMaps.keyOf_string_mk (P := Tryz.prog) (k := 9) Tryz.underlying9 (s := bs d) (by rw [bs_size]; unfold maxLen; omega)
  rw [this]; rfl
/-- The set of what was seen. -/
def Seen (w : World) (b n : Nat) (l : List DC) : Prop :=
  ∃ D : DataW Unit, w.ownsMap Tryz.prog 9 (plainElem Tryz.prog 4) b n D ∧ ∀ d : List UInt8, (∀ c ∈ l, c.d ≠ d) → D.atKey (.string d) (.lit (.bool false)) = .lit (.bool false)
theorem Seen.grow {w w' : World} {b n : Nat} {l : List DC} (h : Seen w b n l) (hu : Upd [] w w') : Seen w' b n l := by
  obtain ⟨D, h1, h2⟩ := h
  exact ⟨D, h1.kept (row := none) ⟨hu.os, hu.tape, hu.output, hu.size, fun k hk _ => hu.block k hk (by simp)⟩ (by simp), h2⟩
theorem plainElem_bool_inv {H : Type} {P : Program} {e : TypeId} (he : P.underlying e = some .bool) {v : Value} {z : DataW H × List MemPlace} (h : plainElem P e v = some z) : ∃ b, v = .bool b ∧ z = (.lit (.bool b), []) := by
  unfold plainElem at h
  rw [he] at h
  cases v <;> simp at h
  exact ⟨_, rfl, h.symm⟩
theorem Seen.look {w : World} {b n : Nat} {l : List DC} (h : Seen w b n l) (d : List UInt8) (hd : d.length ≤ 1000) :
    ∃ r, (Instr.lookup 126 (.map (some b)) (.string (bs d)) false).run Tryz.prog w = .ok (.bool r) w ∧ ((∀ c ∈ l, c.d ≠ d) → r = false) := by
  obtain ⟨D, h1, h2⟩ := h
  obtain ⟨v, ps, hrun, hR⟩ := h1.lookup K9 Tryz.underlying126 (zero4 w) (plainElem_bool Tryz.underlying4 false) (keyD d hd)
  obtain ⟨r, rfl, hz⟩ := plainElem_bool_inv Tryz.underlying4 hR
  refine ⟨r, hrun, fun hc => ?_⟩
  have h3 := h2 d hc
  simp only [Prod.mk.injEq] at hz
  rw [h3] at hz
  simpa using hz.1.symm
theorem Seen.add {w w' : World} {b n : Nat} {l : List DC} {D : DataW Unit} {x : DC} (h2 : ∀ d : List UInt8, (∀ c ∈ l, c.d ≠ d) → D.atKey (.string d) (.lit (.bool false)) = .lit (.bool false))
    (h : w'.ownsMap Tryz.prog 9 (plainElem Tryz.prog 4) b (n + 1) (D.put (.string x.d) (.lit (.bool true)))) : Seen w' b (n + 1) (l ++ [x]) := by
  refine ⟨_, h, fun d hc => ?_⟩
  rw [Go.Maps.atKey_put_other (by intro e; injection e with e; exact hc x (by simp) e.symm)]
  exact h2 d (fun c hcl => hc c (by simp [hcl]))

end Go.Proofs.YtnajekpckbfcdaaGreatDoor

namespace Go.Proofs.YtnajekpckbfcdaaGreatDoor
open Go.RowKit

set_option maxRecDepth 20000 in
set_option maxHeartbeats 4000000 in
theorem Validate_many (l : List DC) (g cap c : Nat) (hn : l.length ≤ 12) (hn2 : 2 ≤ l.length) (hcl : l.length ≤ c) (w : World) (h : DRow w g cap l) (hv : DVals w l) (hs : Sound l) (hasc : Asc l) :
    Calls Tryz.prog 45 #[.slice (some ⟨g, 0, none⟩) l.length c] w (ValRes w l) := by
  have hx := hs (l[0]'(by omega)) (List.getElem_mem _)
  have HONE := hide (fun (w' : World) (g' cap' c' : Nat) (h' : DRow w' g' cap' [l[0]'(by omega)]) (hv' : DVals w' [l[0]'(by omega)]) => Validate_one (l[0]'(by omega)) g' cap' c' w' h' hv' hx.1 hx.2.1 hx.2.2)
  have c0 := h.cell0 0 (by omega)
  have c1 := h.cell1 0 (by omega)
  simp only [Nat.zero_mul, Nat.zero_add] at c0 c1
  have hmm := @run_makeMap Tryz.prog
  have nn := n_nil_nil
  have hlw := h.lt
  obtain ⟨n, hne⟩ : ∃ n, l.length = n := ⟨_, rfl⟩
  have HN := hide hne
  rw [hne] at hn hn2 hcl ⊢
  clear hne
  have t0 : ((n : Int) == 0) = false := beq_eq_false_iff_ne.2 (by omega)
  have t1 : ((n : Int) == 1) = false := beq_eq_false_iff_ne.2 (by omega)
  have t0' : ¬ (n : Int) = 0 := by omega
  have t1' : ¬ (n : Int) = 1 := by omega
  have hdr : ∀ W : World, Upd [] w W → DRow (W.alloc (.cells #[.string (bs (l[0]'(by have := HN.out; omega)).d), .pointer (some ⟨(l[0]'(by have := HN.out; omega)).q, 0, none⟩)] 87)) W.heap.size 1 [l[0]'(by have := HN.out; omega)] := by
    intro W _
    refine ⟨_, Blk.new _ _ _, rfl, by simp, ?_⟩
    intro k hk
    have hk0 : k = 0 := by simpa using hk
    subst hk0
    exact ⟨rfl, rfl⟩
  have HDR := hide hdr
  clear hdr
  go_enter Tryz.func45, Tryz.ntmps45
  go_wp2_with fail
  have u1 : Upd [] w (w.alloc (.cells #[.string (bs (l[0]'(by have := HN.out; omega)).d), .pointer (some ⟨(l[0]'(by have := HN.out; omega)).q, 0, none⟩)] 87)) := (Upd.refl _ _).alloc _
  refine (HONE.out _ w.heap.size 1 1 (HDR.out w (Upd.refl _ _)) (by
    intro x hx
    rw [List.mem_singleton.1 hx]
    obtain ⟨A, hA⟩ := hv _ (List.getElem_mem (h := by have := HN.out; omega) (n := 0) (l := l))
    exact ⟨A, hA.alloc _⟩)).mono ?_
  rintro e w2 ⟨rfl, hu2⟩
  have u2 := u1.on0 hu2
  have h2 := h.grow u2
  have hv2 := hv.grow u2
  clear c0 c1 HONE HDR u1 hu2
  have c0 := h2.cell0 0 (by have := HN.out; omega)
  simp only [Nat.zero_mul, Nat.zero_add] at c0
  have hx0 := hs (l[0]'(by have := HN.out; omega)) (List.getElem_mem _)
  have HK0 := hide (keyD (l[0]'(by have := HN.out; omega)).d hx0.2.1)
  clear hx hx0
  go_upto_region 7 with (fail)
  have hmade := World.ownsMap_made (H := Unit) w2 Tryz.prog 9 (plainElem Tryz.prog 4)
  have u3 := u2.alloc (.map #[] 0)
  have h3 := h2.grow ((Upd.refl [] w2).alloc (.map #[] 0))
  have hv3 := hv2.grow ((Upd.refl [] w2).alloc (.map #[] 0))
  have hb2 := u2.size
  obtain ⟨b, hb⟩ : ∃ b, w2.heap.size = b := ⟨_, rfl⟩
  rw [hb] at hmade hb2 ⊢
  generalize w2.alloc (.map #[] 0) = w3 at *
  clear hb c0 u2 h2 hv2
  go_upto_region 8 with (at_mapUpdate; refine wpList_mapUpdate_own _ rfl _ _ _ 126 rfl 9 4 K9 Tryz.underlying126 _ b 0 _ rfl hmade (by unfold maxLen; omega) _ _ _ rfl rfl HK0.out _ [] (plainElem_bool Tryz.underlying4 true) ?_; intro w4 hown4 hgrow4)
  go_frame
  have u4 : Upd [] w w4 := u3.trans (S' := [b]) ⟨hgrow4.os, hgrow4.tape, hgrow4.output, hgrow4.size, fun k hk hn => hgrow4.block k hk (by simpa using hn)⟩ (fun k hk hlt => by simp only [List.mem_singleton] at hk; omega)
  have hseen4 : Seen w4 b (0 + 1) ([] ++ [l[0]'(by have := HN.out; omega)]) := Seen.add (w := w3) (l := []) (fun d _ => rfl) hown4
  rw [List.nil_append, Nat.zero_add] at hseen4
  clear hown4 hgrow4 hmade u3 h3 hv3 hmm
  have t2 : (1 : Int) ≤ (n : Int) := by omega
  have t3 : ¬ c = 1 := by omega
  go_upto_region 9 with (fail)
  obtain ⟨r, hr⟩ : ∃ r, n - 1 = r := ⟨_, rfl⟩
  rw [hr]
  have hnr : n = r + 1 := by omega
  have HNR := hide hnr
  have hr12 : r ≤ 11 := by omega
  clear hr hnr HK0 t0 t1 t0' t1' t2 t3
  go_loopw [5, 30] (fun lo i wr => ∃ (k : Nat) (hk : k < l.length), k ≤ r ∧ i = .int .i64 k ∧ lo = .string (bs l[k].d) ∧ Hid (Strict (l.take (k + 1))) ∧ Seen wr b (k + 1) (l.take (k + 1)) ∧ Upd [] w wr) (fun _ i _ => r - (intOf i).toNat)
  case atStart =>
    refine ⟨0, by have := HN.out; omega, by omega, rfl, rfl, ?_, ?_, u4⟩
    · show Strict _
      rw [List.take_succ_eq_append_getElem (by have := HN.out; omega)]
      exact List.pairwise_singleton _ _
    · rw [List.take_succ_eq_append_getElem (by have := HN.out; omega)]
      exact hseen4
  case round =>
    clear hseen4 u4
    obtain ⟨k, hkl, hkr, rfl, rfl, hst, hseen, hu⟩ := hrel
    rcases (by omega : k < r ∨ k = r) with hlt | rfl
    · have hk1 : k + 1 < l.length := by have := HN.out; have := HNR.out; omega
      have hgr := h.grow hu
      have c0 := hgr.cell0 (k + 1) hk1
      have c1 := hgr.cell1 (k + 1) hk1
      rw [show (k + 1) * 2 = 2 + k * 2 by omega] at c0 c1
      have hsy := hs l[k + 1] (List.getElem_mem _)
      have hle : Op.bytesLess l[k + 1].d l[k].d = false := List.pairwise_iff_getElem.1 hasc k (k + 1) hkl hk1 (by omega)
      have hnext : Op.bytesLess l[k].d l[k + 1].d = true → Strict (l.take (k + 2)) := fun hh => Strict.next hk1 hst.out hh
      have hnot : Op.bytesLess l[k].d l[k + 1].d = false → ¬ Strict l := fun hh => not_strict hk1 hh
      have hnew : Op.bytesLess l[k].d l[k + 1].d = true → ∀ c ∈ l.take (k + 1), c.d ≠ l[k + 1].d := fun hh c hc e => by
        have h1 := Strict.last hk1 (hnext hh) c hc
        rw [e, less_irrefl] at h1; cases h1
      have htk : l.take (k + 2) = l.take (k + 1) ++ [l[k + 1]] := List.take_succ_eq_append_getElem hk1
      obtain ⟨A, hI⟩ := (hv.grow hu) l[k + 1] (List.getElem_mem _)
      have HNEXT := hide hnext
      have HNOT := hide hnot
      have HNEW := hide hnew
      have HTK := hide htk
      have HSY := hide hsy
      clear hnext hnot hnew htk hsy hgr
      obtain ⟨low, hlow⟩ : ∃ low, l[k].d = low := ⟨_, rfl⟩
      obtain ⟨y, hy⟩ : ∃ y, l[k + 1] = y := ⟨_, rfl⟩
      rw [hlow, hy] at HNEXT HNOT HNEW hle
      rw [hlow]
      rw [hy] at HTK HSY c0 c1 hI
      have HY := hide hy
      clear hlow hy
      have s1 : (k : Int) < (r : Int) := by omega
      have s2 : k < r := hlt
      have u5 := hu.alloc (.cells #[.string (bs y.d), .pointer (some ⟨y.q, 0, none⟩)] 87)
      have hse5 := hseen.grow ((Upd.refl [] wr).alloc (.cells #[.string (bs y.d), .pointer (some ⟨y.q, 0, none⟩)] 87))
      have hI5 := hI.alloc (.cells #[.string (bs y.d), .pointer (some ⟨y.q, 0, none⟩)] 87)
      have hT5 := Blk.new wr 87 #[.string (bs y.d), .pointer (some ⟨y.q, 0, none⟩)]
      go_upto_region 11 with (fail)
      clear c0 c1 hu hseen hI
      obtain ⟨Y, hYe⟩ : ∃ Y, wr.heap.size = Y := ⟨_, rfl⟩
      rw [hYe] at hT5 ⊢
      generalize wr.alloc (.cells #[.string (bs y.d), .pointer (some ⟨y.q, 0, none⟩)] 87) = w5 at *
      clear hYe
      obtain ⟨rr, hrun, hrr⟩ := hse5.look y.d HSY.out.2.1
      have y0 := hT5.fst
      have y1 := hT5.snd
      have HRR := hide hrr
      clear hrr
      cases hxy : Op.bytesLess low y.d with
      | true =>
        have hst2 := HNEXT.out hxy
        have hrf := HRR.out (HNEW.out hxy)
        have HST2 := hide hst2
        subst hrf
        have HV := hide (fun w => ValidateDenom_ok y.d (by have := HSY.out.2.1; omega) HSY.out.1 w)
        have HP := hide (fun w (hI : IntV w y.q A y.m) => CoinIsPos_70 w (bs y.d) y.q A y.m HSY.out.2.2 hI)
        have HKY := hide (keyD y.d HSY.out.2.1)
        have hne : (y.d == low) = false := by
          rw [beq_eq_false_iff_ne]; intro e; rw [e, less_irrefl] at hxy; cases hxy
        have hne2 : ¬ y.d = low := by
          intro e; rw [e, less_irrefl] at hxy; cases hxy
        clear hst2 HNEXT HNEW HNOT HRR hxy
        go_wp2_with fail
        refine (HV.out _).mono ?_
        rintro e w6 ⟨rfl, hu6⟩
        have u6 := u5.on0 hu6
        have hT6 := hT5.grow hu6
        have hI6 := hI5.grow hu6
        have hse6 := hse5.grow hu6
        clear y0 y1 hrun HV u5 hT5 hI5 hse5 hu6
        have y0 := hT6.fst
        have y1 := hT6.snd
        have e1 := bs_toList y.d
        have e2 := bs_toList low
        go_wp2_with fail
        refine (HP.out _ hI6).mono ?_
        rintro e w7 ⟨rfl, hu7⟩
        have u7 := u6.on0 hu7
        have hT7 := hT6.grow hu7
        obtain ⟨D, hD1, hD2⟩ := hse6.grow hu7
        clear y0 y1 HP u6 hT6 hI6 hse6 hu7 hne hne2 hle e1 e2
        have y0 := hT7.fst
        have hbY : b < w7.heap.size := hD1.lt
        go_upto_region 22 with (at_mapUpdate; refine wpList_mapUpdate_own _ rfl _ _ _ 126 rfl 9 4 K9 Tryz.underlying126 _ b (k + 1) _ rfl hD1 (by unfold maxLen; omega) _ _ _ rfl rfl HKY.out _ [] (plainElem_bool Tryz.underlying4 true) ?_; intro w8 hown8 hgrow8)
        go_frame
        have u8 : Upd [] w w8 := u7.trans (S' := [b]) ⟨hgrow8.os, hgrow8.tape, hgrow8.output, hgrow8.size, fun k hk hn => hgrow8.block k hk (by simpa using hn)⟩ (fun k hk hlt => by simp only [List.mem_singleton] at hk; omega)
        have hse8 : Seen w8 b (k + 1 + 1) (l.take (k + 1) ++ [y]) := Seen.add (w := w7) hD2 hown8
        rw [← HTK.out] at hse8
        clear hown8 hgrow8 hD1 hD2 u7 hT7 y0
        go_wp2
        go_roundw
        case rel => exact ⟨k + 1, hk1, by omega, by go_num, by rw [HY.out], HST2, hse8, u8⟩
        case measure => first | (simp [intOf]; done) | (simp [intOf]; omega)
      | false =>
        have hey : low = y.d := less_antisymm _ _ hxy hle
        have hno := HNOT.out hxy
        have HNO := hide hno
        have HV := hide (fun w => ValidateDenom_ok y.d (by have := HSY.out.2.1; omega) HSY.out.1 w)
        subst hey
        clear hno hxy hle HNEXT HNEW HNOT HRR
        cases rr with
        | true =>
          go_wp2_with fail
          refine (errNew_61 _ _).mono ?_
          rintro e w6 ⟨v, rfl, hev, hu6⟩
          go_wp2
          go_ret
          exact ⟨.inr ⟨HNO.out, v, _, rfl, hev, by decide⟩, u5.on0 hu6⟩
        | false =>
          go_wp2_with fail
          refine (HV.out _).mono ?_
          rintro e w6 ⟨rfl, hu6⟩
          have u6 := u5.on0 hu6
          have hT6 := hT5.grow hu6
          clear y0 y1 hrun
          have y0 := hT6.fst
          have hirr := less_irrefl y.d
          go_wp2_with fail
          refine (errNew_61 _ _).mono ?_
          rintro e w7 ⟨v, rfl, hev, hu7⟩
          go_wp2
          go_ret
          exact ⟨.inr ⟨HNO.out, v, _, rfl, hev, by decide⟩, u6.on0 hu7⟩
    · have s1 : ¬ (k : Int) < (k : Int) := by omega
      have hall : l.take (k + 1) = l := List.take_of_length_le (by have := HN.out; have := HNR.out; omega)
      rw [hall] at hst
      go_wp2
      go_ret
      exact ⟨.inl ⟨hst.out, rfl⟩, hu⟩

theorem Validate_45 (l : List DC) (A : Option Addr) (g cap c : Nat) (hn : l.length ≤ 12) (hcl : l.length ≤ c) (w : World) (hA : 0 < l.length → A = some ⟨g, 0, none⟩ ∧ DRow w g cap l) (hv : DVals w l) (hs : Sound l) (hasc : Asc l) :
    Calls Tryz.prog 45 #[.slice A l.length c] w (ValRes w l) := by
  match l, hn, hcl, hA, hv, hs, hasc with
  | [], _, _, _, _, _, _ => exact (Validate_zero A c w).mono fun e w' ⟨h1, h2⟩ => ⟨.inl ⟨List.Pairwise.nil, h1⟩, by rw [← h2]; exact Upd.refl _ _⟩
  | [x], _, _, hA, hv, hs, _ =>
    obtain ⟨rfl, h⟩ := hA (by simp)
    obtain ⟨h1, h2, h3⟩ := hs x (by simp)
    exact (Validate_one x g cap c w h hv h1 h2 h3).mono fun e w' ⟨h1, h2⟩ => ⟨.inl ⟨List.pairwise_singleton _ _, h1⟩, h2⟩
  | x :: y :: r, hn, hcl, hA, hv, hs, hasc =>
    obtain ⟨rfl, h⟩ := hA (by simp)
    exact Validate_many (x :: y :: r) g cap c hn (by simp) hcl w h hv hs hasc

end Go.Proofs.YtnajekpckbfcdaaGreatDoor

namespace Go.Proofs.YtnajekpckbfcdaaGreatDoor
open Go.RowKit

def dm (c : DC) : List UInt8 × Nat := (c.d, c.m)
/-- The coins that are not of 0, as they are read. -/
def nzr (cs : List (List UInt8 × Nat)) : List (List UInt8 × Nat) := cs.filter fun x => decide (x.2 ≠ 0)
theorem nz_dm (l : List DC) : (nz l).map dm = nzr (l.map dm) := by
  unfold nz nzr
  rw [List.filter_map]
  rfl
theorem DRow.snoc {w : World} {g cap : Nat} {l : List DC} (h : DRow w g cap l) (k : Nat) (hk : k = l.length) (hc : k < cap) (c : DC) :
    DRow ((w.setCell ⟨g, k * 2, none⟩ (.string (bs c.d))).setCell ⟨g, k * 2 + 1, none⟩ (.pointer (some ⟨c.q, 0, none⟩))) g cap (l ++ [c]) := by
  obtain ⟨cur, h1, h2, h3, h4⟩ := h
  refine ⟨_, (h1.set_ _ _).set_ _ _, by simp [h2], by simp; omega, ?_⟩
  intro i hi
  rw [Array.getElem?_setIfInBounds, Array.getElem?_setIfInBounds, Array.getElem?_setIfInBounds, Array.getElem?_setIfInBounds]
  rcases Nat.lt_or_ge i l.length with hlt | hge
  · obtain ⟨a1, a2⟩ := h4 i hlt
    have e1 : ¬ k * 2 + 1 = i * 2 := by omega
    have e2 : ¬ k * 2 = i * 2 := by omega
    have e3 : ¬ k * 2 + 1 = i * 2 + 1 := by omega
    have e4 : ¬ k * 2 = i * 2 + 1 := by omega
    simp only [e1, e2, e3, e4, if_false]
    rw [List.getElem_append_left hlt]
    exact ⟨a1, a2⟩
  · have hik : i = k := by simp at hi; omega
    subst hik
    have e1 : ¬ i * 2 + 1 = i * 2 := by omega
    have hs : i * 2 + 1 < cur.size := by omega
    have hs0 : i * 2 < cur.size := by omega
    have eg : (l ++ [c])[i]'hi = c := by rw [List.getElem_append_right (by omega)]; simp [hk]
    simp [e1, hs, hs0, eg]

def PDRes (w : World) (cs : List (List UInt8 × Nat)) (e : Ending) (w' : World) : Prop :=
  ∃ l' : List DC, (l'.map dm).Perm (nzr cs) ∧ Asc l' ∧ Upd [] w w' ∧
    ((Strict l' ∧ ∃ A n c, e = .returned (.tuple #[.slice A n c, .nilIface]) ∧ n = l'.length ∧ A ≠ none ∧ DVals w' l' ∧ (0 < n → ∃ g cap, A = some ⟨g, 0, none⟩ ∧ DRow w' g cap l')) ∨
     (¬ Strict l' ∧ ∃ v s, e = .returned (.tuple #[.slice none 0 0, v]) ∧ ErrV w' v s ∧ 0 < s.size))

set_option maxRecDepth 20000 in
set_option maxHeartbeats 4000000 in
theorem ParseDecCoins_good (ps : List Part) (cs : List (List UInt8 × Nat)) (hok : ∀ p ∈ ps, p.Ok) (l : List UInt8) (hJ : (spl 44 l).map trim = ps.map Part.core) (hll : l.length ≤ 10000) (hne : trim l ≠ [])
    (hcl : cs.length = ps.length) (hrd : ∀ (k : Nat) (h : k < ps.length), ∃ x, cs[k]? = some x ∧ ps[k].rd = some x) (h12 : ps.length ≤ 12) (hden : ∀ x ∈ cs, isDen x.1 = true ∧ x.1.length ≤ 1000) (w : World) (hG : Gl w) :
    Calls Tryz.prog 26 #[.string (bs l)] w (PDRes w cs) := by
  have HT := hide (fun w => zzTrim_42 l (by omega) w)
  have hst := spl_trim 44 (by decide) l
  rw [hJ] at hst
  have htl := trim_len l
  generalize trim l = t at *
  have HSP := hide (fun w => zzSplit_43 t 44 (by omega) w)
  have hpl : (spl 44 t).length = ps.length := by simpa using congrArg List.length hst
  obtain ⟨n, hn⟩ : ∃ n, ps.length = n := ⟨_, rfl⟩
  have hpc : ∀ (k : Nat) (h : k < ps.length), trim ((spl 44 t)[k]'(by omega)) = ps[k].core := by
    intro k h
    have : ((spl 44 t).map trim)[k]'(by simpa using (by omega : k < (spl 44 t).length)) = (ps.map Part.core)[k]'(by simpa using h) := by simp only [hst]
    simpa using this
  have hql : ∀ q ∈ spl 44 t, q.length ≤ 100000 := fun q hq => by have := spl_mem_len 44 t q hq; omega
  have hsl := spl_len 44 t
  have hsn : 0 < (spl 44 t).length := List.length_pos_iff.2 (spl_ne 44 t)
  rw [hpl, hn] at HSP
  have t0 : 0 < t.length := List.length_pos_iff.2 hne
  have t1 : ¬ (t.length : Int) = 0 := by omega
  have t2 : ((t.length : Int) == 0) = false := beq_eq_false_iff_ne.2 t1
  have z1 : (bs t).size = t.length := bs_size t
  obtain ⟨i0, hi, hz0, hz1, hz2⟩ := info_parts info87
  have hmk := fun w => run_make_rowN (P := Tryz.prog) 59 87 i0 _ Tryz.underlying59 hi hz0 .i64 .i64 n n (Nat.le_refl _) (by rw [hz2]; omega) (by omega) w
  have hn0 : 0 < n := by omega
  have hn1 : n ≤ 12 := by omega
  have HCL := hide hcl
  clear hJ hst hll hcl
  go_enter Tryz.func26, Tryz.ntmps26
  go_wp2_with fail
  refine (HT.out _).mono ?_
  rintro e w2 ⟨rfl, q2, hw2⟩
  have u2 : Upd [] w w2 := by rw [hw2]; exact (Upd.refl _ _).drewN _
  clear hw2 HT
  go_wp2_with fail
  refine (HSP.out _).mono ?_
  rintro e w3 ⟨v, rfl, hown, hbl⟩
  have u3 := u2.on0 (Upd.of_below hbl [])
  obtain ⟨g, cap, cur, rfl, hg, hcur, hcap, hcs⟩ := own_blk hown hn0
  have hP : Pieces w3 g ps n := by
    refine ⟨hn, hok, cur, hcur, ?_⟩
    intro k hk
    refine ⟨(spl 44 t)[k]'(by omega), hcs k _ ?_, hpc k hk, hql _ (List.getElem_mem _)⟩
    rw [List.getElem?_map, List.getElem?_eq_getElem (by omega)]; rfl
  clear u2 hbl hown hcur hcs hpc hql hpl HSP t0 t1 t2 z1 hsn hsl
  go_upto_region 6 with (fail)
  have hG3 := hG.grow u3
  have hD := Blk.new w3 87 (madeCells #[.string ⟨#[]⟩, .pointer none] (n * 2))
  have u4 := u3.alloc (.cells (madeCells #[.string ⟨#[]⟩, .pointer none] (n * 2)) 87)
  have hP4 := hP.grow ((Upd.refl [] w3).alloc (.cells (madeCells #[.string ⟨#[]⟩, .pointer none] (n * 2)) 87))
  have hsz := size_madeCells #[.string ⟨#[]⟩, .pointer none] (n * 2)
  have hs3 := u3.size
  obtain ⟨G, hGe⟩ : ∃ G, w3.heap.size = G := ⟨_, rfl⟩
  rw [hGe] at hD hs3
  rw [hGe]
  generalize madeCells #[.string ⟨#[]⟩, .pointer none] (n * 2) = cur0 at hsz hD u4 hP4 ⊢
  generalize w3.alloc (.cells cur0 87) = w4 at hD u4 hP4 ⊢
  have hR4 : DRow w4 G n [] := ⟨cur0, hD, hsz, by simp, by simp⟩
  clear hGe hG3 hP u3 hmk hD hsz
  go_wp2_with fail
  go_loopw [24] (fun i wr => ∃ (L : List DC), Hid (L.length ≤ n) ∧ i = .int .i64 L.length ∧ DRow wr G n L ∧ DVals wr L ∧ Hid (L.map dm = cs.take L.length) ∧ Upd [] w wr ∧ Pieces wr g ps n) (fun i _ => n - (intOf i).toNat)
  case atStart => exact ⟨[], Nat.zero_le _, rfl, hR4, fun c hc => by simp at hc, rfl, u4, hP4⟩
  case round =>
    obtain ⟨L, hLn, rfl, hR, hV, hmap, hu, hPr⟩ := hrel
    have hGr := hG.grow hu
    obtain ⟨k, hk⟩ : ∃ k, L.length = k := ⟨_, rfl⟩
    have hkn : k ≤ n := by rw [← hk]; exact hLn.out
    rw [hk]
    have HK := hide hk
    clear hk hLn
    rcases (by omega : k < n ∨ k = n) with hlt | rfl
    · obtain ⟨q, hq1, hq2, hq3⟩ := hPr.get k (by omega)
      have s1 : (k : Int) < (n : Int) := by omega
      have s2 : decide ((k : Int) < (n : Int)) = true := decide_eq_true s1
      obtain ⟨dd, hdd, hr⟩ := hrd k (by omega)
      have HC := hide (fun w hG => ParseDecCoin_some (ps[k]'(by omega)) (hok _ (List.getElem_mem _)) dd.1 dd.2 hr q hq2 hq3 w hG)
      have htk : cs.take (k + 1) = cs.take k ++ [dd] := by rw [List.take_add_one, hdd]; rfl
      have HTK := hide htk
      clear hq2 hr hdd htk
      go_wp2_with fail
      refine (HC.out _ hGr).mono ?_
      rintro e w5 ⟨p, A, rfl, hI, hu5, hp, hA⟩
      have u5 := hu.on0 hu5
      have hR5 := hR.grow hu5
      have hV5 := hV.grow hu5
      have hP5 := hPr.grow hu5
      have u6 := u5.alloc (.cells #[.string (bs dd.1), .pointer (some ⟨p, 0, none⟩)] 87)
      have hu6 := (Upd.refl [] w5).alloc (.cells #[.string (bs dd.1), .pointer (some ⟨p, 0, none⟩)] 87)
      have hR6 := hR5.grow hu6
      have hV6 := hV5.grow hu6
      have hP6 := hP5.grow hu6
      have hI6 := hI.grow hu6
      have hT6 := Blk.new w5 87 #[.string (bs dd.1), .pointer (some ⟨p, 0, none⟩)]
      have nn := n_nil_nil
      clear HC hq1 hR hu hu5 hGr hA hI hPr u5 hR5 hP5 hV hV5 hu6
      go_upto_region 12 with (fail)
      obtain ⟨Y, hY⟩ : ∃ Y, w5.heap.size = Y := ⟨_, rfl⟩
      rw [hY] at hT6 ⊢
      generalize w5.alloc (.cells #[.string (bs dd.1), .pointer (some ⟨p, 0, none⟩)] 87) = w6 at *
      clear hY nn
      have y0 := hT6.fst
      have y1 := hT6.snd
      obtain ⟨cur, hC6, hcz, hR6b⟩ := hR6
      have hcz := hide hcz
      obtain ⟨v0, hv0⟩ := row_at hcz (k * 2) (by omega)
      obtain ⟨v1, hv1⟩ := row_at hcz (k * 2 + 1) (by omega)
      have c0 : w6.cell? ⟨G, k * 2, none⟩ = some v0 := hC6.at_ hv0
      have c1 : w6.cell? ⟨G, k * 2 + 1, none⟩ = some v1 := hC6.at_ hv1
      have f0 := hC6.frozen (k * 2)
      have f1 := hC6.frozen (k * 2 + 1)
      clear hv0 hv1
      have hR6 : DRow w6 G n L := ⟨cur, hC6, hcz.out, hR6b⟩
      have hVx : DVals w6 (L ++ [⟨dd.1, dd.2, p⟩]) := by
        intro x hx
        rcases List.mem_append.1 hx with hx | hx
        · exact hV6 x hx
        · rw [List.mem_singleton.1 hx]; exact ⟨A, hI6⟩
      clear hR6b hV6 hI6 hcz
      go_wp2
      go_roundw
      case rel =>
        refine ⟨L ++ [⟨dd.1, dd.2, p⟩], ?_, ?_, hR6.snoc k HK.out.symm hlt ⟨dd.1, dd.2, p⟩, (hVx.set hC6 _ _).set (hC6.set_ _ _) _ _, ?_, (u6.setCell (fun h => absurd h (Nat.not_lt.2 hs3)) _).setCell (fun h => absurd h (Nat.not_lt.2 hs3)) _, (hP6.set hC6 (by decide) _ _).set (hC6.set_ _ _) (by decide) _ _⟩
        · show _ ≤ _
          rw [List.length_append, HK.out]; exact hlt
        · rw [List.length_append, HK.out]; first | rfl | go_num
        · show _ = _
          have h1 := hmap.out
          rw [HK.out] at h1
          rw [List.length_append, HK.out, List.map_append, h1]
          show _ = cs.take (k + 1)
          rw [HTK.out]; rfl
      case measure => simp [intOf]; omega
    · have s1 : ¬ (k : Int) < (k : Int) := by omega
      have hall : L.map dm = cs := by
        have h1 := hmap.out
        rw [HK.out] at h1
        rw [h1]
        exact List.take_of_length_le (by have := HCL.out; omega)
      have HS := hide (sanitize_44 L G k k (by have := HK.out; omega) wr hR hV)
      rw [HK.out] at HS
      have HALL := hide hall
      have nn := n_nil_nil
      clear hall hmap hPr hR hV
      go_wp2_with fail
      refine HS.out.mono ?_
      rintro e w5 ⟨l', A, m, c, rfl, hm, hA, hAn, hp, hasc, hv5, hu5⟩
      have u5 := hu.on0 hu5
      have hpd : (l'.map dm).Perm (nzr cs) := by
        rw [← HALL.out, ← nz_dm]; exact hp.map dm
      have hll : l'.length ≤ 12 := by
        have h1 := hpd.length_eq
        rw [List.length_map] at h1
        have h2 : (nzr cs).length ≤ cs.length := List.length_filter_le _ _
        have h3 := HCL.out
        omega
      have hsound : Sound l' := by
        intro x hx
        have h1 : dm x ∈ nzr cs := hpd.mem_iff.1 (List.mem_map.2 ⟨x, hx, rfl⟩)
        unfold nzr at h1
        obtain ⟨h2, h3⟩ := List.mem_filter.1 h1
        obtain ⟨h4, h5⟩ := hden _ h2
        have h6 := of_decide_eq_true h3
        exact ⟨h4, h5, by simp only [dm] at h6; omega⟩
      obtain ⟨g5, cap5, hA5⟩ : ∃ g5 cap5, 0 < l'.length → A = some ⟨g5, 0, none⟩ ∧ DRow w5 g5 cap5 l' ∧ c = cap5 := by
        rcases Nat.eq_zero_or_pos m with h0 | h0
        · exact ⟨0, 0, fun h => by omega⟩
        · obtain ⟨g5, cap5, h1, h2, _, h3⟩ := hA h0
          exact ⟨g5, cap5, fun _ => ⟨h1, h2, h3⟩⟩
      have hlc : l'.length ≤ c := by
        rcases Nat.eq_zero_or_pos l'.length with h0 | h0
        · omega
        · obtain ⟨_, h2, h3⟩ := hA5 h0
          rw [h3]; exact h2.len
      have HV := hide (Validate_45 l' A g5 cap5 c hll hlc w5 (fun h => ⟨(hA5 h).1, (hA5 h).2.1⟩) hv5 hsound hasc)
      subst hm
      clear HS hu hu5 hp hsound hlc hA
      obtain ⟨m, hme⟩ : ∃ m, l'.length = m := ⟨_, rfl⟩
      have HME := hide hme
      rw [hme] at HV hA5 ⊢
      clear hme hll
      go_wp2_with fail
      refine HV.out.mono ?_
      rintro e w6 ⟨hres, hu6⟩
      have u6 := u5.on0 hu6
      rcases hres with ⟨hstr, rfl⟩ | ⟨hstr, v, s, rfl, ⟨p, rfl, hp⟩, hs⟩
      · have HSTR := hide hstr
        clear hstr
        go_wp2
        go_ret2
        exact ⟨l', hpd, hasc, u6, .inl ⟨HSTR.out, A, _, _, rfl, HME.out.symm, hAn, hv5.grow hu6, fun h => by
          obtain ⟨h1, h2, _⟩ := hA5 h
          exact ⟨g5, cap5, h1, h2.grow hu6⟩⟩⟩
      · have HSTR := hide hstr
        have nn2 := n_eof_nil ⟨p, 0, none⟩
        clear hstr
        go_wp2
        go_ret2
        exact ⟨l', hpd, hasc, u6, .inr ⟨HSTR.out, _, s, rfl, ⟨p, rfl, hp⟩, hs⟩⟩

end Go.Proofs.YtnajekpckbfcdaaGreatDoor

namespace Go.Proofs.YtnajekpckbfcdaaGreatDoor
open Go.RowKit

/-- A coin as plain data: denomination, whole units, 10^18th parts. -/
def xcells : List (List UInt8 × Nat) → List Value
  | [] => []
  | c :: r => .string (bs c.1) :: .int .i64 (c.2 / 1000000000000000000 : Nat) :: .int .i64 (c.2 % 1000000000000000000 : Nat) :: xcells r
theorem own_mono {w : World} {base base' : Nat} {e : TypeId} {size n : Nat} {v : Value} {xs : List Value} (h : w.ownsRow base e size v n xs) (hb : base' ≤ base) : w.ownsRow base' e size v n xs :=
  ⟨h.1, h.2.imp id (fun ⟨g, cap, cur, a, b, c⟩ => ⟨g, cap, cur, a, Nat.le_trans hb b, c⟩)⟩
end Go.Proofs.YtnajekpckbfcdaaGreatDoor
