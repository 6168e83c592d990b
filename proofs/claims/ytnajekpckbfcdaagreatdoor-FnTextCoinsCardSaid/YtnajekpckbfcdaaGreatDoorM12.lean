/-
  nat.scan, Int.SetString over digits.
-/
import Derived.Test.YtnajekpckbfcdaaGreatDoorM09
import Derived.Test.YtnajekpckbfcdaaGreatDoorM11
set_option linter.unusedVariables false
set_option linter.unusedSimpArgs false
namespace Go.Proofs.YtnajekpckbfcdaaGreatDoor
open Go.RowKit

def dg (s : ByteArray) (j : Nat) : Nat := if h : j < s.size then (s[j]'h).toNat - 48 else 0
/-- The number that the first j digits write. -/
def pre (s : ByteArray) : Nat → Nat
  | 0 => 0
  | j + 1 => pre s j * 10 + dg s j
def Digits (s : ByteArray) : Prop := ∀ j (h : j < s.size), 48 ≤ (s[j]'h).toNat ∧ (s[j]'h).toNat ≤ 57
theorem dg_le {s : ByteArray} (hd : Digits s) (j : Nat) : dg s j ≤ 9 := by
  unfold dg
  split
  · rename_i h
    have := hd j h
    omega
  · omega
theorem pre_lt {s : ByteArray} (hd : Digits s) : ∀ j, pre s j < 10 ^ j
  | 0 => by simp [pre]
  | j + 1 => by
    have h1 := pre_lt hd j
    have h2 := dg_le hd j
    rw [pre, Nat.pow_succ]
    omega

theorem q_eof_nil (a : Addr) (w : World) : (binOp .eql 61 (.iface 148 (.pointer (some a))) .nilIface).run Tryz.prog w = .ok (.bool false) w := by kernel_rfl
theorem q_nil_nil (w : World) : (binOp .eql 61 .nilIface .nilIface).run Tryz.prog w = .ok (.bool true) w := by kernel_rfl
theorem n_nil_nil (w : World) : (binOp .neq 61 .nilIface .nilIface).run Tryz.prog w = .ok (.bool false) w := by kernel_rfl
theorem n_eof_nil (a : Addr) (w : World) : (binOp .neq 61 (.iface 148 (.pointer (some a))) .nilIface).run Tryz.prog w = .ok (.bool true) w := by kernel_rfl
theorem info148 : (Tryz.prog.info? 148).map (fun i => i.comparable) = some true := by kernel_rfl
theorem info150 : (Tryz.prog.info? 150).map (fun i => i.size) = some 1 := by kernel_rfl
theorem info_of {α : Type} {t : TypeId} {f : TypeInfo → α} {v : α} (h : (Tryz.prog.info? t).map f = some v) : ∃ i, Tryz.prog.info? t = some i ∧ f i = v := by
  rcases hi : Tryz.prog.info? t with _ | i
  · rw [hi] at h; simp at h
  · rw [hi] at h; exact ⟨i, rfl, by simpa using h⟩
theorem eof_in (a : Addr) (w : World) (d : Nat) : (Op.equalIn (d + 2) 61 (.iface 148 (.pointer (some a))) (.iface 148 (.pointer (some a)))).run Tryz.prog w = .ok true w := by
  obtain ⟨i1, h1, hc⟩ := info_of info148
  obtain ⟨i2, h2, hs⟩ := info_of info150
  have h : ∀ d : Nat, (Op.equalIn (d + 1) 148 (.pointer (some a)) (.pointer (some a))).run Tryz.prog w = .ok true w := fun d => by
    simp [Op.equalIn, run_underlying Tryz.underlying148, sizeOf, typeInfo, h2, hs, run_sameAddr_same]
  rw [Op.equalIn]
  simp [run_underlying Tryz.underlying61, typeInfo, h1, hc, h d]
theorem q_eof_eof (a : Addr) (w : World) : (binOp .eql 61 (.iface 148 (.pointer (some a))) (.iface 148 (.pointer (some a)))).run Tryz.prog w = .ok (.bool true) w := by
  simp only [binOp]
  simp [Op.equal, Op.maxDepth, eof_in a w 9998]
theorem n_eof_eof (a : Addr) (w : World) : (binOp .neq 61 (.iface 148 (.pointer (some a))) (.iface 148 (.pointer (some a)))).run Tryz.prog w = .ok (.bool false) w := by
  simp only [binOp]
  simp [Op.equal, Op.maxDepth, eof_in a w 9998]

set_option maxRecDepth 5000 in
theorem full_step (zv dv d P Q : Nat) (h1 : zv * 10 ^ 18 + dv = P) (h2 : P * 10 + d = Q) : zv * 10000000000000000000 + (dv * 10 + d) = Q := by
  have h3 : (10 : Nat) ^ 18 = 1000000000000000000 := by simp
  rw [h3] at h1
  clear h3
  subst h2
  subst h1
  rw [Nat.add_mul, Nat.mul_assoc]
  omega

set_option maxRecDepth 20000 in
set_option maxHeartbeats 8000000 in
theorem natScan (w : World) (p : Nat) (s : ByteArray) (q : Int) (a : Addr) (h : Rd w p s 0 q) (hd : Digits s) (hn : 0 < s.size) (hn2 : s.size ≤ 100) (heof : Eof w a) (hw15 : 15 ≤ w.heap.size) (hp3 : 15 ≤ p) :
    Calls Tryz.prog 211 #[.slice none 0 0, .iface 181 (.pointer (some ⟨p, 0, none⟩)), .int .i64 10, .bool false] w fun e w' =>
      ∃ A L C, e = .returned (.tuple #[.slice A L C, .int .i64 10, .int .i64 s.size, .nilIface]) ∧ NatS w' A L C (wo (pre s s.size)) ∧ Rd w' p s s.size (-1) ∧ Upd [p] w w' ∧ ∀ b ∈ bof A, w.heap.size ≤ b := by
  replace hp3 : p ≠ 3 ∧ 15 ≤ p := ⟨by omega, hp3⟩
  obtain ⟨hp3, hp15⟩ := hp3
  have HD := hide hd
  have HPL := hide (pre_lt hd)
  clear hd
  have n1 := nil_read
  have n2 := meth_read
  have q1 := q_eof_nil a
  have q2 := q_nil_nil
  have q3 := q_eof_eof a
  have hpow : (10 : Nat) ^ s.size ≤ 10 ^ 100 := Nat.pow_le_pow_right (by omega) hn2
  have HPOW := hide hpow
  clear hpow
  have HR := hide (ReadByte_some w p s 0 q h hn (by omega))
  go_enter Tryz.func211, Tryz.ntmps211
  go_wp2_with fail
  refine HR.out.mono ?_
  rintro e w1 ⟨rfl, hb1, hu1⟩
  have heo1 := heof.upd hu1 (fun k hk => by simp only [List.mem_singleton] at hk; omega)
  clear HR h
  go_wp2_with fail
  refine (maxPow_10 _).mono ?_
  rintro e w1' ⟨rfl, rfl⟩
  go_wp2_with fail
  go_loopw [0, 3, 10, 11, 13, 14, 15, 20, 21, 22] (fun z fo cnt err prev isp ch di i dp wr => ∃ (j iv dv : Nat) (A : Option Addr) (L C zv : Nat) (pv : Int), j ≤ s.size ∧ fo = .bool false ∧ isp = .bool false ∧ dp = .int .i64 (-1) ∧ z = .slice A L C ∧ cnt = .int .i64 j ∧ prev = .int .i32 pv ∧ (pv == 95) = false ∧ di = .int .u64 dv ∧ i = .int .i64 iv ∧ iv ≤ 18 ∧
      Hid (dv < 10 ^ iv) ∧ Hid (zv * 10 ^ iv + dv = pre s j) ∧ NatS wr A L C (wo zv) ∧ Hid (∀ b ∈ bof A, w.heap.size ≤ b) ∧ Upd [p] w wr ∧
      ((∃ h : j < s.size, err = .nilIface ∧ ch = .int .u8 ((s[j]'h).toNat : Nat) ∧ Rd wr p s (j + 1) (-1)) ∨ (j = s.size ∧ err = .iface 148 (.pointer (some a)) ∧ ch = .int .u8 0 ∧ Rd wr p s j (-1))))
    (fun _ _ cnt _ _ _ _ _ _ _ _ => s.size - (intOf cnt).toNat)
  case atStart =>
    refine ⟨0, 0, 0, none, 0, 0, 0, 46, by omega, rfl, rfl, rfl, rfl, rfl, rfl, by decide, rfl, rfl, by omega, by show _ < _; simp, by show _ = _; simp [pre], by rw [wo_zero]; exact NatS.nil _, by show ∀ b ∈ _, _; simp [bof], hu1, Or.inl ⟨hn, rfl, rfl, hb1⟩⟩
  case round =>
    obtain ⟨j, iv, dv, A, L, C, zv, pv, hj, rfl, rfl, rfl, rfl, rfl, rfl, hpv, rfl, rfl, hiv, hdl, hval, hS, hAf, hu, hcase⟩ := hrel
    have DL := hide hdl.out
    have PV := hide hval.out
    clear hdl hval
    have hzv : zv < 10 ^ 100 := by
      have h1 := HPL.out j
      have h2 : (10 : Nat) ^ j ≤ 10 ^ s.size := Nat.pow_le_pow_right (by omega) hj
      have h3 := HPOW.out
      have h4 := PV.out
      have h5 : zv ≤ zv * 10 ^ iv := Nat.le_mul_of_pos_right _ (Nat.pow_pos (by omega))
      omega
    have hLb : L ≤ 100 := by rw [← hS.1]; exact wo_len_le (Nat.lt_of_lt_of_le hzv (by decide))
    have LB := hide hLb
    clear hzv hLb
    rcases hcase with ⟨hjn, rfl, rfl, hrd⟩ | ⟨rfl, rfl, rfl, hrd⟩
    · have heo : Eof wr a := heof.upd hu (fun k hk => by simp only [List.mem_singleton] at hk; omega)
      have hcd := HD.out j hjn
      have hdg : dg s j = (s[j]'hjn).toNat - 48 := by unfold dg; rw [dif_pos hjn]
      have hps : pre s j * 10 + dg s j = pre s (j + 1) := rfl
      obtain ⟨d, hd⟩ : ∃ d, dg s j = d := ⟨_, rfl⟩
      rw [hd] at hdg hps
      obtain ⟨c, hc⟩ : ∃ c, (s[j]'hjn).toNat = c := ⟨_, rfl⟩
      simp only [hc] at hcd hdg ⊢
      have PS := hide hps
      clear hps hd hc
      have hd9 : d ≤ 9 := by omega
      have hdv : dv < 1000000000000000000 := Nat.lt_of_lt_of_le DL.out (by have : (10 : Nat) ^ iv ≤ 10 ^ 18 := Nat.pow_le_pow_right (by omega) hiv; simpa using this)
      have e1 : IntKind.u8.wrap ((c : Int) - 48) = (d : Int) := by simp [IntKind.wrap, IntKind.bits, IntKind.signed]; omega
      have e2 : IntKind.u64.wrap (d : Int) = (d : Int) := wrapN d (by omega)
      have t1 : ((c : Int) == 46) = false := beq_eq_false_iff_ne.2 (by omega)
      have t2 : ((c : Int) == 95) = false := beq_eq_false_iff_ne.2 (by omega)
      have t3 : (48 : Int) ≤ (c : Int) := by omega
      have t4 : (c : Int) ≤ 57 := by omega
      have t5 : ¬ (10 : Int) ≤ (d : Int) := by omega
      have t6 : decide ((10 : Int) ≤ (d : Int)) = false := decide_eq_false t5
      clear hdg hcd HD
      go_upto_region 70 with (fail)
      clear e1 e2
      go_upto_region 71 with (fail)
      have e3 : IntKind.u64.wrap ((dv : Int) * 10) = (dv : Int) * 10 := by rw [IntKind.wrap_u64]; omega
      have e4 : IntKind.u64.wrap ((dv : Int) * 10 + (d : Int)) = ((dv * 10 + d : Nat) : Int) := by rw [IntKind.wrap_u64]; omega
      go_upto_region 72 with (fail)
      clear e3 e4 t1 t2 t3 t4 t5 t6
      by_cases hfull : iv = 18
      · subst hfull
        have hmul := mulAddWW_any wr A A L C L C zv 10000000000000000000 (dv * 10 + d) (wo zv) hS hS (by have := LB.out; omega) (by omega) (by omega)
        have HM := hide hmul
        have v1 : zv * 10000000000000000000 + (dv * 10 + d) = pre s (j + 1) := by exact full_step _ _ _ _ _ PV.out PS.out
        have V1 := hide v1
        clear hmul v1
        go_wp2_with fail
        refine HM.out.mono ?_
        rintro e w2 ⟨A2, L2, C2, rfl, hS2, hu2, hA2⟩
        rw [V1.out] at hS2
        clear HM
        have hb2 := hrd.upd hu2 (hS.not_mem hrd (by decide))
        have u2 : Upd [p] w w2 := hu.trans hu2 (fun k hk hlt => by have := hAf.out k hk; omega)
        have hA2f : ∀ b ∈ bof A2, w.heap.size ≤ b := fun b hb => (hA2 b hb).elim (hAf.out b) (fun h => Nat.le_trans hu.size h)
        have HA2f := hide hA2f
        clear hA2f hA2
        rcases (by omega : j + 1 < s.size ∨ j + 1 = s.size) with hj1 | hj1
        · have HR := hide (ReadByte_some w2 p s (j + 1) (-1) hb2 hj1 (by omega))
          go_wp2_with fail
          refine HR.out.mono ?_
          rintro e w3 ⟨rfl, hb3, hu3⟩
          clear HR
          go_wp2
          go_roundw
          case rel =>
            refine ⟨j + 1, 0, 0, A2, L2, C2, (pre s (j + 1)), 48, by omega, rfl, rfl, rfl, rfl, by go_num, rfl, by decide, by go_num, by go_num, by omega, by show _ < _; simp, by show _ = _; simp, hS2.upd hu3 (by intro b hb; simp only [List.mem_singleton]; rintro rfl; exact hS2.not_mem hb2 (by decide) hb), HA2f, u2.trans hu3 (fun k hk _ => hk), Or.inl ⟨hj1, rfl, rfl, hb3⟩⟩
          case measure => first | (simp [intOf]; done) | (simp [intOf]; omega)
        · have HR := hide (ReadByte_end w2 p s (j + 1) (-1) a hb2 (by omega) (by omega) ((heo.upd hu2 (fun k hk => Nat.le_trans hw15 (hAf.out k hk)))) hp3)
          go_wp2_with fail
          refine HR.out.mono ?_
          rintro e w3 ⟨rfl, hb3, hu3⟩
          clear HR
          go_wp2
          go_roundw
          case rel =>
            refine ⟨j + 1, 0, 0, A2, L2, C2, (pre s (j + 1)), 48, by omega, rfl, rfl, rfl, rfl, by go_num, rfl, by decide, by go_num, by go_num, by omega, by show _ < _; simp, by show _ = _; simp, hS2.upd hu3 (by intro b hb; simp only [List.mem_singleton]; rintro rfl; exact hS2.not_mem hb2 (by decide) hb), HA2f, u2.trans hu3 (fun k hk _ => hk), Or.inr ⟨hj1, rfl, rfl, hb3⟩⟩
          case measure => first | (simp [intOf]; done) | (simp [intOf]; omega)
      · have t7 : (((iv + 1 : Nat) : Int) == 19) = false := beq_eq_false_iff_ne.2 (by omega)
        have t8 : (((iv : Int) + 1) == 19) = false := beq_eq_false_iff_ne.2 (by omega)
        rcases (by omega : j + 1 < s.size ∨ j + 1 = s.size) with hj1 | hj1
        · have HR := hide (ReadByte_some wr p s (j + 1) (-1) hrd hj1 (by omega))
          go_wp2_with fail
          refine HR.out.mono ?_
          rintro e w3 ⟨rfl, hb3, hu3⟩
          clear HR
          go_wp2
          go_roundw
          case rel =>
            refine ⟨j + 1, (iv + 1), (dv * 10 + d), A, L, C, zv, 48, by omega, rfl, rfl, rfl, rfl, by go_num, rfl, by decide, by go_num, by go_num, by omega, by show _ < _; have := DL.out; rw [Nat.pow_succ]; omega, by show _ = _; rw [Nat.pow_succ, ← PS.out, ← PV.out]; rw [Nat.add_mul]; simp only [Nat.mul_assoc, Nat.add_assoc], hS.upd hu3 (by intro b hb; simp only [List.mem_singleton]; rintro rfl; exact hS.not_mem hrd (by decide) hb), hAf, hu.trans hu3 (fun k hk _ => hk), Or.inl ⟨hj1, rfl, rfl, hb3⟩⟩
          case measure => first | (simp [intOf]; done) | (simp [intOf]; omega)
        · have HR := hide (ReadByte_end wr p s (j + 1) (-1) a hrd (by omega) (by omega) (heo) hp3)
          go_wp2_with fail
          refine HR.out.mono ?_
          rintro e w3 ⟨rfl, hb3, hu3⟩
          clear HR
          go_wp2
          go_roundw
          case rel =>
            refine ⟨j + 1, (iv + 1), (dv * 10 + d), A, L, C, zv, 48, by omega, rfl, rfl, rfl, rfl, by go_num, rfl, by decide, by go_num, by go_num, by omega, by show _ < _; have := DL.out; rw [Nat.pow_succ]; omega, by show _ = _; rw [Nat.pow_succ, ← PS.out, ← PV.out]; rw [Nat.add_mul]; simp only [Nat.mul_assoc, Nat.add_assoc], hS.upd hu3 (by intro b hb; simp only [List.mem_singleton]; rintro rfl; exact hS.not_mem hrd (by decide) hb), hAf, hu.trans hu3 (fun k hk _ => hk), Or.inr ⟨hj1, rfl, rfl, hb3⟩⟩
          case measure => first | (simp [intOf]; done) | (simp [intOf]; omega)
    · have heo : Eof wr a := heof.upd hu (fun k hk => by simp only [List.mem_singleton] at hk; omega)
      have heo' : wr.cell? ⟨3, 0, none⟩ = some (.iface 148 (.pointer (some a))) := heo
      have t1 : ((s.size : Int) == 0) = false := beq_eq_false_iff_ne.2 (by omega)
      rcases Nat.eq_zero_or_pos iv with rfl | hivp
      · have v2 : zv = pre s s.size := by have h1 := PV.out; have h2 := DL.out; simp only [Nat.pow_zero] at h1 h2; omega
        rw [v2] at hS
        have HS := hide hS
        have HRD := hide hrd
        clear v2 hS hrd
        go_wp2
        refine bodyPost_ret (v := .tuple #[.slice A L C, .int .i64 10, .int .i64 s.size, .nilIface]) (by simp [results, Tryz.results211, go_sem]) rfl ?_
        exact ⟨A, L, C, rfl, HS.out, HRD.out, hu, hAf.out⟩
      · have t2 : (0 : Int) < (iv : Int) := by omega
        have hpw : 10 ^ iv < 18446744073709551616 := Nat.lt_of_le_of_lt (Nat.pow_le_pow_right (by omega) hiv : (10 : Nat) ^ iv ≤ 10 ^ 18) (by simp)
        have hmul := mulAddWW_any wr A A L C L C zv (10 ^ iv) dv (wo zv) hS hS (by have := LB.out; omega) hpw (Nat.lt_trans DL.out hpw)
        rw [PV.out] at hmul
        have HM := hide hmul
        have HP := hide (pow_10 iv (by omega))
        obtain ⟨P, hP⟩ : ∃ P, 10 ^ iv = P := ⟨_, rfl⟩
        rw [hP] at HM HP
        clear hmul hpw hP
        go_wp2_with fail
        refine (HP.out _).mono ?_
        rintro e w2 ⟨rfl, rfl⟩
        go_wp2_with fail
        refine HM.out.mono ?_
        rintro e w2 ⟨A2, L2, C2, rfl, hS2, hu2, hA2⟩
        have hb2 := hrd.upd hu2 (hS.not_mem hrd (by decide))
        have u2 := hu.trans hu2 (fun k hk hlt => by have := hAf.out k hk; omega)
        have hA2f : ∀ b ∈ bof A2, w.heap.size ≤ b := fun b hb => (hA2 b hb).elim (hAf.out b) (fun h => Nat.le_trans hu.size h)
        have HA2f := hide hA2f
        clear HM HP hA2f hA2 hS hrd
        go_wp2
        refine bodyPost_ret (v := .tuple #[.slice A2 L2 C2, .int .i64 10, .int .i64 s.size, .nilIface]) (by simp [results, Tryz.results211, go_sem]) rfl ?_
        exact ⟨A2, L2, C2, rfl, hS2, hb2, u2, HA2f.out⟩

end Go.Proofs.YtnajekpckbfcdaaGreatDoor

namespace Go.Proofs.YtnajekpckbfcdaaGreatDoor
open Go.RowKit

set_option maxRecDepth 20000 in
set_option maxHeartbeats 2000000 in
theorem intScan (w : World) (pz p : Nat) (s : ByteArray) (q : Int) (a : Addr) (hz : Blk w pz 133 #[.bool false, .slice none 0 0]) (h : Rd w p s 0 q) (hd : Digits s) (hn : 0 < s.size) (hn2 : s.size ≤ 100) (heof : Eof w a) (hp15 : 15 ≤ p) (hne : pz ≠ p) :
    Calls Tryz.prog 163 #[.pointer (some ⟨pz, 0, none⟩), .iface 181 (.pointer (some ⟨p, 0, none⟩)), .int .i64 10] w fun e w' =>
      ∃ A, e = .returned (.tuple #[.pointer (some ⟨pz, 0, none⟩), .int .i64 10, .nilIface]) ∧ IntV w' pz A (pre s s.size) ∧ Rd w' p s s.size (-1) ∧ Upd [pz, p] w w' ∧ ∀ b ∈ bof A, w.heap.size ≤ b := by
  have hdd := hd 0 hn
  have HS := hide (scanSign_digit w p s q h hn hdd.1 hdd.2)
  have HD := hide hd
  have q4 := n_nil_nil
  have hpl := h.lt
  clear hd hdd h
  go_enter Tryz.func163, Tryz.ntmps163
  go_wp2_with fail
  refine HS.out.mono ?_
  rintro e w1 ⟨rfl, hb1, hu1⟩
  have hz1 := hz.upd hu1 (by simpa using hne)
  have heo1 := heof.upd hu1 (fun k hk => by simp only [List.mem_singleton] at hk; omega)
  have hs1 := hu1.size
  have HN := hide (natScan w1 p s (-1) a hb1 HD.out hn hn2 heo1 (by omega) hp15)
  have cz1 := hz1.snd
  clear HS hz heof
  go_wp2_with fail
  refine HN.out.mono ?_
  rintro e w2 ⟨A, L, C, rfl, hS, hb2, hu2, hA⟩
  have hz2 := hz1.upd hu2 (by simpa using hne)
  have cz2 := hz2.snd
  have fz2 := hz2.frozen 1
  have hz3 := hz2.put1 (.slice A L C)
  have hb3 := hb2.far (p := ⟨pz, 1, none⟩) (Ne.symm hne) (.slice A L C)
  have hS3 := hS.setCell (p := ⟨pz, 1, none⟩) (hS.not_mem hz2 (by decide)) (.slice A L C)
  have hu3 : Upd [pz, p] w (w2.setCell ⟨pz, 1, none⟩ (.slice A L C)) := (Upd.mono (S' := [pz, p]) (hu1.trans hu2 (fun k hk _ => hk)) (by simp)).setCell (by simp) _
  have hA3 : ∀ b ∈ bof A, w.heap.size ≤ b := fun b hb => Nat.le_trans hs1 (hA b hb)
  have HA3 := hide hA3
  clear HN hA hA3 cz1 hz1 hu1 hu2
  go_upto_region 5 with (fail)
  clear cz2 fz2
  generalize w2.setCell ⟨pz, 1, none⟩ (.slice A L C) = w3 at hz3 hb3 hS3 hu3 ⊢
  have cz4 := hz3.snd
  have cz5 := hz3.fst
  have fz3 := hz3.frozen 0
  by_cases hL : L = 0
  · subst hL
    have t1 : ¬ (0 : Int) < ((0 : Nat) : Int) := by omega
    go_wp2
    refine bodyPost_ret (v := .tuple #[.pointer (some ⟨pz, 0, none⟩), .int .i64 10, .nilIface]) (by simp [results, Tryz.results163, go_sem]) rfl ?_
    exact ⟨rfl, A, ⟨0, C, by rw [decide_eq_false (by omega)]; exact hz3.put0 _, by rw [Int.natAbs_natCast]; exact hS3.setCell (hS3.not_mem hz3 (by decide)) _⟩, hb3.far (Ne.symm hne) _, hu3.setCell (by simp) _, HA3.out⟩
  · have t1 : (0 : Int) < (L : Int) := by omega
    go_wp2
    refine bodyPost_ret (v := .tuple #[.pointer (some ⟨pz, 0, none⟩), .int .i64 10, .nilIface]) (by simp [results, Tryz.results163, go_sem]) rfl ?_
    exact ⟨A, rfl, ⟨L, C, by rw [decide_eq_false (by omega)]; exact hz3.put0 _, by rw [Int.natAbs_natCast]; exact hS3.setCell (hS3.not_mem hz3 (by decide)) _⟩, hb3.far (Ne.symm hne) _, hu3.setCell (by simp) _, HA3.out⟩

set_option maxRecDepth 20000 in
theorem setFrom (w : World) (pz p : Nat) (s : ByteArray) (q : Int) (a : Addr) (hz : Blk w pz 133 #[.bool false, .slice none 0 0]) (h : Rd w p s 0 q) (hd : Digits s) (hn : 0 < s.size) (hn2 : s.size ≤ 100) (heof : Eof w a) (hp15 : 15 ≤ p) (hz15 : 15 ≤ pz) (hne : pz ≠ p) :
    Calls Tryz.prog 125 #[.pointer (some ⟨pz, 0, none⟩), .iface 181 (.pointer (some ⟨p, 0, none⟩)), .int .i64 10] w fun e w' =>
      ∃ A, e = .returned (.tuple #[.pointer (some ⟨pz, 0, none⟩), .bool true]) ∧ IntV w' pz A (pre s s.size) ∧ Upd [pz, p] w w' ∧ ∀ b ∈ bof A, w.heap.size ≤ b := by
  have HS := hide (intScan w pz p s q a hz h hd hn hn2 heof hp15 hne)
  have n1 := nil_read
  have n2 := meth_read
  have q4 := n_nil_nil
  have q5 := n_eof_eof a
  clear hd h hz
  go_enter Tryz.func125, Tryz.ntmps125
  go_wp2_with fail
  refine HS.out.mono ?_
  rintro e w1 ⟨A, rfl, hI, hb1, hu1, hA⟩
  have heo1 := heof.upd hu1 (fun k hk => by simp only [List.mem_cons, List.not_mem_nil, or_false] at hk; omega)
  have HR := hide (ReadByte_end w1 p s s.size (-1) a hb1 (Nat.le_refl _) (by omega) heo1 (by omega))
  clear HS heof
  have hpA := hI.row_ne hb1 (by decide)
  go_wp2_with fail
  refine HR.out.mono ?_
  rintro e w2 ⟨rfl, hb2, hu2⟩
  have heo2 : w2.cell? ⟨3, 0, none⟩ = some (.iface 148 (.pointer (some a))) := heo1.upd hu2 (fun k hk => by simp only [List.mem_singleton] at hk; omega)
  clear HR
  go_wp2
  go_ret2
  refine ⟨A, rfl, hI.upd hu2 (by simpa using hne) (fun b hb => by simp only [List.mem_singleton]; rintro rfl; exact hpA hb), hu1.trans hu2 (by simp), hA⟩

set_option maxRecDepth 20000 in
theorem SetString_digits (w : World) (pz : Nat) (s : ByteArray) (a : Addr) (hz : Blk w pz 133 #[.bool false, .slice none 0 0]) (hd : Digits s) (hn : 0 < s.size) (hn2 : s.size ≤ 100) (heof : Eof w a) (hw15 : 15 ≤ w.heap.size) (hz15 : 15 ≤ pz) :
    Calls Tryz.prog 91 #[.pointer (some ⟨pz, 0, none⟩), .string s, .int .i64 10] w fun e w' =>
      ∃ A, e = .returned (.tuple #[.pointer (some ⟨pz, 0, none⟩), .bool true]) ∧ IntV w' pz A (pre s s.size) ∧ Upd [pz] w w' ∧ ∀ b ∈ bof A, w.heap.size ≤ b := by
  have HD := hide hd
  have hzl := hz.lt
  clear hd
  go_enter Tryz.func91, Tryz.ntmps91
  go_wp2_with fail
  refine (NewReader_any w s).mono ?_
  rintro e w1 ⟨p, rfl, hb1, hu1, hp⟩
  have hz1 := hz.grow hu1
  have heo1 := heof.upd hu1 (by simp)
  have HF := hide (setFrom w1 pz p s (-1) a hz1 hb1 HD.out hn hn2 heo1 (by omega) hz15 (by omega))
  clear hz heof HD
  go_wp2_with fail
  refine HF.out.mono ?_
  rintro e w2 ⟨A, rfl, hI, hu2, hA⟩
  clear HF
  go_wp2
  go_ret2
  exact ⟨A, rfl, hI, (Upd.mono (S' := [pz]) hu1 (by simp)).trans hu2 (fun k hk hlt => by simp only [List.mem_cons, List.not_mem_nil, or_false] at hk ⊢; omega), fun b hb => Nat.le_trans hu1.size (hA b hb)⟩

end Go.Proofs.YtnajekpckbfcdaaGreatDoor
