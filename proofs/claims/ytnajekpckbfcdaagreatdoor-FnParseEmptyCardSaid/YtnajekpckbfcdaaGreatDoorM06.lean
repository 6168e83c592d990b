/-
  nat: division by a word.
-/
import Derived.Test.YtnajekpckbfcdaaGreatDoorM05
set_option linter.unusedVariables false
set_option linter.unusedSimpArgs false
namespace Go.Proofs.YtnajekpckbfcdaaGreatDoor
open Go.RowKit

theorem or_low (a b : Nat) (ha : a < 1152921504606846976) (hb : b < 16) : bits .or .u64 ((a : Int) * 16) (b : Int) = ((a * 16 + b : Nat) : Int) := by
  have h1 := u64_or_nat (a * 16) b (by omega) (by omega)
  have h2 : a * 16 ||| b = a * 16 + b := by
    have := Nat.two_pow_add_eq_or_of_lt (i := 4) (b := b) (by omega) a
    rw [show 2 ^ 4 = 16 from rfl, Nat.mul_comm 16 a] at this
    exact this.symm
  rw [h2] at h1
  rw [← h1]
  rfl

theorem bitsDiv_18 (w : World) : Calls Tryz.prog 253 #[.int .u64 2446744073709551615, .int .u64 18446744073709551615, .int .u64 16000000000000000000] w fun e w' => e = .returned (.tuple #[.int .u64 2820903858849102350, .int .u64 7374607431768211455]) ∧ w = w' := by
  go_enter Tryz.func253, Tryz.ntmps253
  go_wp2_with fail
  refine (div64_18 _).mono ?_
  rintro e w1 ⟨rfl, rfl⟩
  go_wp2
  go_ret2
  exact ⟨rfl, rfl⟩

/-- What the estimate is good for: one step up, or two, at most. -/
theorem core_18 (X1 X0 t1 t0 s c qq c2 p1 p0 r0 b r1 b2 : Nat) (h1 : X1 < 16000000000000000000) (h0 : X0 < 18446744073709551616) (e1 : t0 + 18446744073709551616 * t1 = 2820903858849102350 * X1) (l1 : t0 < 18446744073709551616) (e2 : s + 18446744073709551616 * c = t0 + X0 + 0) (l2 : s < 18446744073709551616)
    (e3 : qq + 18446744073709551616 * c2 = t1 + X1 + c) (l3 : qq < 18446744073709551616) (e4 : p0 + 18446744073709551616 * p1 = 16000000000000000000 * qq) (l4 : p0 < 18446744073709551616) (e5 : r0 + p0 + 0 = X0 + 18446744073709551616 * b) (l5 : r0 < 18446744073709551616) (l6 : b ≤ 1) (e6 : r1 + p1 + b = X1 + 18446744073709551616 * b2) (l7 : r1 < 18446744073709551616) (l8 : b2 ≤ 1) :
    X1 * 18446744073709551616 + X0 = 16000000000000000000 * qq + (r0 + 18446744073709551616 * r1) ∧ r0 + 18446744073709551616 * r1 < 18446744073709551616 + 16000000000000000000 ∧ r1 ≤ 1 := by
  have i1 : 21267647932558653966 * X1 + X0 = s + 18446744073709551616 * (qq + 18446744073709551616 * c2) := by omega
  clear e1 e2 e3 l1
  have i2 : c2 = 0 := by omega
  subst i2
  have i3 : 16000000000000000000 * qq ≤ X1 * 18446744073709551616 + X0 := by omega
  have i4 : X1 * 18446744073709551616 + X0 < 16000000000000000000 * qq + (18446744073709551616 + 16000000000000000000) := by omega
  clear i1
  have i5 : r0 + 18446744073709551616 * r1 + 16000000000000000000 * qq = X1 * 18446744073709551616 + X0 + 340282366920938463463374607431768211456 * b2 := by omega
  clear e4 e5 e6
  have i6 : b2 = 0 := by omega
  subst i6
  refine ⟨by omega, by omega, by omega⟩

theorem recip_18 (w : World) : Calls Tryz.prog 254 #[.int .u64 1000000000000000000] w fun e w' => e = .returned (.int .u64 2820903858849102350) ∧ w = w' := by
  have b1 : bits .xor .u64 IntKind.u64.max 16000000000000000000 = 2446744073709551615 := by kernel_rfl
  go_enter Tryz.func254, Tryz.ntmps254
  go_wp2_with fail
  refine (nlz_lit 1000000000000000000 60 4 (by omega) (by decide) (by omega) _).mono ?_
  rintro e w1 ⟨rfl, rfl⟩
  go_wp2_with fail
  refine (bitsDiv_18 _).mono ?_
  rintro e w1 ⟨rfl, rfl⟩
  go_wp2
  go_ret
  exact ⟨rfl, rfl⟩

set_option maxRecDepth 100000 in
set_option maxHeartbeats 2000000 in
theorem divWW_18 (x1 x0 : Nat) (h1 : x1 < 1000000000000000000) (h0 : x0 < 18446744073709551616) (w : World) :
    Calls Tryz.prog 255 #[.int .u64 x1, .int .u64 x0, .int .u64 1000000000000000000, .int .u64 2820903858849102350] w
      (Pair64 (fun q r => x1 * 18446744073709551616 + x0 = q * 1000000000000000000 + r ∧ r < 1000000000000000000 ∧ q < 18446744073709551616) w) := by
  obtain ⟨X1, hX1⟩ : ∃ X1, X1 = x1 * 16 + x0 / 1152921504606846976 := ⟨_, rfl⟩
  obtain ⟨X0, hX0⟩ : ∃ X0, X0 = x0 * 16 % 18446744073709551616 := ⟨_, rfl⟩
  have o1 : bits .or .u64 ((x1 : Int) * 16) ((x0 : Int) / 1152921504606846976) = (X1 : Int) := by
    have := or_low x1 (x0 / 1152921504606846976) (by omega) (by omega)
    rw [← hX1] at this
    rw [← this]
    rfl
  have o2 : IntKind.u64.wrap ((x0 : Int) * 16) = (X0 : Int) := by rw [IntKind.wrap_u64]; omega
  have hXX : X1 * 18446744073709551616 + X0 = 16 * (x1 * 18446744073709551616 + x0) := by omega
  have g1 : X1 < 16000000000000000000 := by omega
  have g0 : X0 < 18446744073709551616 := by omega
  have HXX := hide hXX
  have HX1 := hide hX1
  clear hXX hX1 hX0
  go_enter Tryz.func255, Tryz.ntmps255
  go_wp2_with fail
  refine (nlz_lit 1000000000000000000 60 4 (by omega) (by decide) (by omega) _).mono ?_
  rintro e w1 ⟨rfl, rfl⟩
  go_wp2_with fail
  refine (bMul_any 2820903858849102350 X1 (by omega) (by omega) _).mono ?_
  rintro e w1 ⟨t1, t0, rfl, rfl, e1, l1⟩
  have k1 : t1 < 18446744073709551616 := by omega
  have E1 := hide e1
  clear e1
  go_wp2_with fail
  refine (bAdd_any t0 X0 0 (by omega) _).mono ?_
  rintro e w1 ⟨s, c, rfl, rfl, e2, l2⟩
  have k2 : c ≤ 1 := by omega
  have E2 := hide e2
  clear e2
  go_wp2_with fail
  refine (bAdd_any t1 X1 c k2 _).mono ?_
  rintro e w1 ⟨qq, c2, rfl, rfl, e3, l3⟩
  have E3 := hide e3
  clear e3
  go_wp2_with fail
  refine (bMul_any 16000000000000000000 qq (by omega) (by omega) _).mono ?_
  rintro e w1 ⟨p1, p0, rfl, rfl, e4, l4⟩
  have k4 : p1 < 18446744073709551616 := by omega
  have E4 := hide e4
  clear e4
  go_wp2_with fail
  refine (bSub_any X0 p0 0 g0 l4 (by omega) _).mono ?_
  rintro e w1 ⟨r0, b, rfl, rfl, e5, l5, l6⟩
  have E5 := hide e5
  clear e5
  go_wp2_with fail
  refine (bSub_any X1 p1 b (by omega) k4 l6 _).mono ?_
  rintro e w1 ⟨r1, b2, rfl, rfl, e6, l7, l8⟩
  obtain ⟨f1, f2, f3⟩ := core_18 X1 X0 t1 t0 s c qq c2 p1 p0 r0 b r1 b2 g1 g0 E1.out l1 E2.out l2 E3.out l3 E4.out l4 E5.out l5 l6 e6 l7 l8
  have F1 := hide f1
  have F2 := hide f2
  clear f1 f2 e6 E1 E2 E3 E4 E5
  rcases (by omega : r1 = 0 ∨ r1 = 1) with rfl | rfl
  · have F1 := F1.out
    by_cases hr : 16000000000000000000 ≤ r0
    · have hq : qq + 1 < 18446744073709551616 := by have := HXX.out; omega
      obtain ⟨r2, hr2⟩ : ∃ r2, r0 = r2 + 16000000000000000000 := ⟨r0 - 16000000000000000000, by omega⟩
      have u1 : IntKind.u64.wrap ((qq : Int) + 1) = ((qq + 1 : Nat) : Int) := by rw [IntKind.wrap_u64]; omega
      have u2 : IntKind.u64.wrap ((r0 : Int) - 16000000000000000000) = (r2 : Int) := by rw [IntKind.wrap_u64]; omega
      have u3 : (16000000000000000000 : Int) ≤ (r0 : Int) := by omega
      have fin : x1 * 18446744073709551616 + x0 = (qq + 1) * 1000000000000000000 + r2 / 16 ∧ r2 / 16 < 1000000000000000000 := by have := HXX.out; have := F2.out; omega
      have FIN := hide fin
      have HR2 := hide hr2
      clear fin hr2 F1
      go_wp2
      go_ret2
      exact ⟨qq + 1, r2 / 16, by first | rfl | (simp; done) | (simp; omega), rfl, FIN.out.1, FIN.out.2, hq⟩
    · have u3 : decide ((16000000000000000000 : Int) ≤ (r0 : Int)) = false := decide_eq_false (by omega)
      have fin : x1 * 18446744073709551616 + x0 = qq * 1000000000000000000 + r0 / 16 ∧ r0 / 16 < 1000000000000000000 := by have := HXX.out; omega
      have FIN := hide fin
      clear fin F1 hr
      go_wp2
      go_ret2
      exact ⟨qq, r0 / 16, by first | rfl | (simp; done) | (simp; omega), rfl, FIN.out.1, FIN.out.2, l3⟩
  · have F1 := F1.out
    have F2' := F2.out
    have hq : qq + 1 < 18446744073709551616 := by have := HXX.out; omega
    obtain ⟨r2, hr2⟩ : ∃ r2, r0 + 18446744073709551616 = r2 + 16000000000000000000 := ⟨r0 + 18446744073709551616 - 16000000000000000000, by omega⟩
    have u1 : IntKind.u64.wrap ((qq : Int) + 1) = ((qq + 1 : Nat) : Int) := by rw [IntKind.wrap_u64]; omega
    have u2 : IntKind.u64.wrap ((r0 : Int) - 16000000000000000000) = (r2 : Int) := by rw [IntKind.wrap_u64]; omega
    by_cases hr : 16000000000000000000 ≤ r2
    · have hq2 : qq + 2 < 18446744073709551616 := by have := HXX.out; omega
      obtain ⟨r3, hr3⟩ : ∃ r3, r2 = r3 + 16000000000000000000 := ⟨r2 - 16000000000000000000, by omega⟩
      have u4 : IntKind.u64.wrap (((qq + 1 : Nat) : Int) + 1) = ((qq + 2 : Nat) : Int) := by rw [IntKind.wrap_u64]; omega
      have u4b : IntKind.u64.wrap ((qq : Int) + 1 + 1) = ((qq + 2 : Nat) : Int) := by rw [IntKind.wrap_u64]; omega
      have u5 : IntKind.u64.wrap ((r2 : Int) - 16000000000000000000) = (r3 : Int) := by rw [IntKind.wrap_u64]; omega
      have u3 : (16000000000000000000 : Int) ≤ (r2 : Int) := by omega
      have fin : x1 * 18446744073709551616 + x0 = (qq + 2) * 1000000000000000000 + r3 / 16 ∧ r3 / 16 < 1000000000000000000 := by have := HXX.out; omega
      have FIN := hide fin
      clear fin hr2 hr3 F1 F2'
      go_wp2
      go_ret2
      exact ⟨qq + 2, r3 / 16, by first | rfl | (simp; done) | (simp; omega), rfl, FIN.out.1, FIN.out.2, hq2⟩
    · have u3 : decide ((16000000000000000000 : Int) ≤ (r2 : Int)) = false := decide_eq_false (by omega)
      have fin : x1 * 18446744073709551616 + x0 = (qq + 1) * 1000000000000000000 + r2 / 16 ∧ r2 / 16 < 1000000000000000000 := by have := HXX.out; omega
      have FIN := hide fin
      clear fin hr hr2 F1 F2'
      go_wp2
      go_ret2
      exact ⟨qq + 1, r2 / 16, by first | rfl | (simp; done) | (simp; omega), rfl, FIN.out.1, FIN.out.2, hq⟩

end Go.Proofs.YtnajekpckbfcdaaGreatDoor

namespace Go.Proofs.YtnajekpckbfcdaaGreatDoor
open Go.RowKit

theorem div0_64 (lo y : Nat) (hlo : lo < 18446744073709551616) (hy : y < 18446744073709551616) (h0 : 0 < y) (w : World) :
    Calls Tryz.prog 283 #[.int .u64 0, .int .u64 lo, .int .u64 y] w fun e w' => e = .returned (.tuple #[.int .u64 (lo / y : Nat), .int .u64 (lo % y : Nat)]) ∧ ∃ n, w' = w.drewN n := by
  have t1 : ((y : Int) == 0) = false := beq_eq_false_iff_ne.2 (by omega)
  have t2 : decide ((y : Int) ≤ 0) = false := decide_eq_false (by omega)
  have t2b : ¬ (y : Int) ≤ 0 := by omega
  have t3 : ¬ (y : Int) = 0 := by omega
  have t4 : ¬ y = 0 := by omega
  have w1 : IntKind.u64.wrap ((lo / y : Nat) : Int) = ((lo / y : Nat) : Int) := wrapN _ (Nat.lt_of_le_of_lt (Nat.div_le_self _ _) hlo)
  have w2 : IntKind.u64.wrap ((lo % y : Nat) : Int) = ((lo % y : Nat) : Int) := wrapN _ (Nat.lt_of_lt_of_le (Nat.mod_lt _ h0) (by omega))
  have w3 : IntKind.u64.wrap ((lo : Int) / (y : Int)) = (lo : Int) / (y : Int) := w1
  have w4 : IntKind.u64.wrap ((lo : Int) % (y : Int)) = (lo : Int) % (y : Int) := w2
  clear w1 w2
  have e1 : (lo : Int).tdiv (y : Int) = ((lo / y : Nat) : Int) := rfl
  have e2 : (lo : Int).tmod (y : Int) = ((lo % y : Nat) : Int) := rfl
  go_enter Tryz.func283, Tryz.ntmps283
  go_wp2_with fail
  go_quiet (fail)
  go_wp2
  go_ret2
  refine ⟨?_, _, rfl⟩
  first | rfl | simp

theorem bitsDiv0 (lo y : Nat) (hlo : lo < 18446744073709551616) (hy : y < 18446744073709551616) (h0 : 0 < y) (w : World) :
    Calls Tryz.prog 253 #[.int .u64 0, .int .u64 lo, .int .u64 y] w fun e w' => e = .returned (.tuple #[.int .u64 (lo / y : Nat), .int .u64 (lo % y : Nat)]) ∧ ∃ n, w' = w.drewN n := by
  have w1 : IntKind.u64.wrap ((lo / y : Nat) : Int) = ((lo / y : Nat) : Int) := wrapN _ (Nat.lt_of_le_of_lt (Nat.div_le_self _ _) hlo)
  have w2 : IntKind.u64.wrap ((lo % y : Nat) : Int) = ((lo % y : Nat) : Int) := wrapN _ (Nat.lt_of_lt_of_le (Nat.mod_lt _ h0) (by omega))
  obtain ⟨q, hq⟩ : ∃ q, lo / y = q := ⟨_, rfl⟩
  obtain ⟨r, hr⟩ : ∃ r, lo % y = r := ⟨_, rfl⟩
  have hc := div0_64 lo y hlo hy h0 w
  rw [hq] at hc w1 ⊢
  rw [hr] at hc w2 ⊢
  have HC := hide hc
  clear hc hq hr
  go_enter Tryz.func253, Tryz.ntmps253
  go_wp2_with fail
  refine HC.out.mono ?_
  rintro e w1 ⟨rfl, n, rfl⟩
  go_wp2
  go_ret2
  exact ⟨by first | rfl | (simp; done), _, rfl⟩

set_option maxRecDepth 100000 in
set_option maxHeartbeats 4000000 in
theorem divWVW_18 (w : World) (zb xb L zc xc : Nat) (cs : Array Value) (xs : List Nat) (hL : L ≤ 1000) (h1 : 1 ≤ L) (hl : xs.length = L) (hxs : ∀ d ∈ xs, d < 18446744073709551616) (hz : Blk w zb 161 cs) (hs : L ≤ cs.size) (hzc : L ≤ zc) (hxc : L ≤ xc) (hzc2 : zc ≤ 100000) (hxc2 : xc ≤ 100000)
    (hx : ∀ i, i < L → w.cell? ⟨xb, i, none⟩ = some (W64 (xs.getD i 0))) :
    Calls Tryz.prog 213 #[.slice (some ⟨zb, 0, none⟩) L zc, .int .u64 0, .slice (some ⟨xb, 0, none⟩) L xc, .int .u64 1000000000000000000] w fun e w' =>
      ∃ (r : Nat) (qs : List Nat) (cs' : Array Value), e = .returned (.int .u64 r) ∧ Upd [zb] w w' ∧ Blk w' zb 161 cs' ∧ cs'.size = cs.size ∧ Wd cs' 0 qs ∧ qs.length = L ∧ (∀ d ∈ qs, d < 18446744073709551616) ∧ val xs = val qs * 1000000000000000000 + r ∧ r < 1000000000000000000 := by
  have hzl := hz.lt
  have HX := hide hx
  have HXS := hide hxs
  have HL := hide hl
  clear hx hxs hl
  rcases (by omega : L = 1 ∨ 2 ≤ L) with rfl | h2
  · obtain ⟨x0, hx0⟩ : ∃ x0, xs.getD 0 0 = x0 := ⟨_, rfl⟩
    have c0 := HX.out 0 (by omega)
    rw [hx0] at c0
    have hxe : xs = [x0] := by
      rcases xs with _ | ⟨a, _ | ⟨b, t⟩⟩
      · have := HL.out; simp at this
      · simp at hx0; rw [hx0]
      · have := HL.out; simp at this
    have hx0l : x0 < 18446744073709551616 := HXS.out x0 (by rw [hxe]; simp)
    have cz := hz.at_ (Array.getElem?_eq_getElem (show 0 < cs.size by omega))
    have hc := bitsDiv0 x0 1000000000000000000 hx0l (by omega) (by omega) w
    obtain ⟨q, hq⟩ : ∃ q, x0 / 1000000000000000000 = q := ⟨_, rfl⟩
    obtain ⟨r, hr⟩ : ∃ r, x0 % 1000000000000000000 = r := ⟨_, rfl⟩
    have hv : val xs = val [q] * 1000000000000000000 + r := by rw [hxe]; simp only [val_cons, val_nil]; omega
    have hrl : r < 1000000000000000000 := by omega
    have hql : q < 18446744073709551616 := by omega
    rw [hq, hr] at hc
    have HC := hide hc
    have HV := hide hv
    have HXE := hide hxe
    clear hc hv hxe hq hr hx0
    go_enter Tryz.func213, Tryz.ntmps213
    go_wp2_with fail
    refine HC.out.mono ?_
    rintro e w1 ⟨rfl, n, rfl⟩
    have hz1 := hz.drewN n
    have fz := hz1.frozen 0
    have cz1 := hz1.at_ (Array.getElem?_eq_getElem (show 0 < cs.size by omega))
    go_wp2
    go_ret
    refine ⟨r, [q], _, rfl, ((Upd.refl _ _).drewN n).setCell (by simp) _, hz1.set_ 0 _, by simp, ?_, rfl, by simpa using hql, HV.out, hrl⟩
    intro i hi
    have hi0 : i = 0 := by simpa using hi
    subst hi0
    rw [Array.getElem?_setIfInBounds_self_of_lt (by omega)]; rfl
  · obtain ⟨m, hm⟩ : ∃ m, L = m + 1 := ⟨L - 1, by omega⟩
    subst hm
    have t1 : (((m + 1 : Nat) : Int) == 1) = false := beq_eq_false_iff_ne.2 (by omega)
    have t1b : (((m : Int) + 1) == 1) = false := beq_eq_false_iff_ne.2 (by omega)
    have t2 : wrap64 ((m : Int) + 1 - 1) = (m : Int) := by unfold wrap64; omega
    have t2b : (m : Int) + 1 - 1 = (m : Int) := by omega
    have t3 : wrap64 (m : Int) = (m : Int) := by unfold wrap64; omega
    go_enter Tryz.func213, Tryz.ntmps213
    go_wp2_with fail
    refine (recip_18 _).mono ?_
    rintro e w1 ⟨rfl, rfl⟩
    go_wp2_with fail
    go_loopw [8, 12] (fun rr i wr => ∃ (k r : Nat) (qs : List Nat) (cs' : Array Value), k ≤ m + 1 ∧ i = .int .i64 ((k : Int) - 1) ∧ rr = .int .u64 r ∧ r < 1000000000000000000 ∧ Upd [zb] w wr ∧ Blk wr zb 161 cs' ∧ cs'.size = cs.size ∧ Hid (Wd cs' k qs) ∧
        Hid (∀ j, j < k → cs'[j]? = cs[j]?) ∧ Hid (qs.length = m + 1 - k) ∧ Hid (∀ d ∈ qs, d < 18446744073709551616) ∧ Hid (val (xs.drop k) = val qs * 1000000000000000000 + r))
      (fun _ i _ => (intOf i + 1).toNat)
    case atStart =>
      refine ⟨m + 1, 0, [], cs, Nat.le_refl _, by go_num, rfl, by omega, Upd.refl _ _, hz, rfl, Wd.nil _ _, fun _ _ => rfl, ?_, ?_, ?_⟩
      · show _ = _; simp
      · show ∀ d ∈ [], _; simp
      · show _ = _; rw [List.drop_of_length_le (by rw [HL.out]; exact Nat.le_refl _)]; simp [val_nil]
    case round =>
      obtain ⟨k, r, qs, cs', hk, rfl, rfl, hr, hu, hb, hsz, hwd, hlo, hql, hqd, hv⟩ := hrel
      rcases Nat.eq_zero_or_pos k with rfl | hkp
      · have b0 : ((0 : Nat) : Int) - 1 = -1 := rfl
        rw [b0]
        go_wp2
        go_ret
        refine ⟨r, qs, cs', rfl, hu, hb, hsz, hwd.out, ?_, hqd.out, ?_, hr⟩
        · have := hql.out; omega
        · have := hv.out; simpa using this
      · obtain ⟨j, rfl⟩ : ∃ j, k = j + 1 := ⟨k - 1, by omega⟩
        obtain ⟨x0, hx0⟩ : ∃ x0, xs.getD j 0 = x0 := ⟨_, rfl⟩
        have hjl : j < xs.length := by rw [HL.out]; omega
        have hx0l : x0 < 18446744073709551616 := by
          rw [← hx0]; exact getD_lt _ HXS.out _
        have cx : wr.cell? ⟨xb, j, none⟩ = some (W64 x0) := by
          have h0 := HX.out j (by omega)
          rw [hx0] at h0
          by_cases hxz : xb = zb
          · subst hxz
            rw [hb.cell, hlo.out j (by omega), ← hz.cell]
            exact h0
          · exact (hu.cell (p := ⟨xb, j, none⟩) (lt_of_cell h0) (by simpa using hxz)).trans h0
        have cz := hb.at_ (Array.getElem?_eq_getElem (show j < cs'.size by omega))
        have fz := hb.frozen j
        have hdv : val (xs.drop j) = x0 + 18446744073709551616 * val (xs.drop (j + 1)) := by
          rw [drop_succ_getD xs j hjl, hx0, val_cons]
        have HDV := hide hdv
        clear hdv hx0
        have u1 : (((j + 1 : Nat) : Int) - 1) = (j : Int) := by omega
        have u2 : wrap64 ((j : Int) - 1) = (j : Int) - 1 := by unfold wrap64; omega
        have u3 : (0 : Int) ≤ (j : Int) := by omega
        have u4 : (j : Int) < (m : Int) + 1 := by omega
        rw [u1]
        go_wp2_with fail
        refine (divWW_18 r x0 hr hx0l _).mono ?_
        rintro e w2 ⟨q, r', rfl, rfl, e1, e2, e3⟩
        have E1 := hide e1
        clear e1
        go_wp2
        go_roundw
        case rel =>
          refine ⟨j, r', q :: qs, cs'.setIfInBounds j (W64 q), by omega, by go_num, rfl, e2, hu.setCell (by simp) _, hb.set_ j _, by simpa using hsz, ?_, ?_, ?_, ?_, ?_⟩
          · show Wd _ _ _
            intro i hi
            rcases i with _ | i
            · rw [Nat.add_zero, Array.getElem?_setIfInBounds_self_of_lt (by omega)]; rfl
            · have := hwd.out i (by simpa using hi)
              rw [Array.getElem?_setIfInBounds_ne (by omega), show j + (i + 1) = j + 1 + i from by omega, this]
              rfl
          · show ∀ i, _
            intro i hi
            rw [Array.getElem?_setIfInBounds_ne (by omega)]
            exact hlo.out i (by omega)
          · show _ = _
            have := hql.out
            rw [List.length_cons]; omega
          · show ∀ d ∈ _, _
            intro d hd
            rcases List.mem_cons.1 hd with rfl | hd
            · exact e3
            · exact hqd.out d hd
          · show _ = _
            have h1 := hv.out
            have h2 := E1.out
            rw [HDV.out, h1, val_cons, Nat.add_mul, Nat.mul_assoc, Nat.mul_add]
            omega
        case measure => first | (simp [intOf]; done) | (simp [intOf]; omega)

set_option maxRecDepth 100000 in
set_option maxHeartbeats 4000000 in
theorem divW_18 (w : World) (Z X : Option Addr) (Lz Cz Lx Cx n : Nat) (wz : List Nat) (hZ : NatS w Z Lz Cz wz) (hX : NatS w X Lx Cx (wo n)) (hL : Lx ≤ 1000) :
    Calls Tryz.prog 167 #[.slice Z Lz Cz, .slice X Lx Cx, .int .u64 1000000000000000000] w fun e w' =>
      ∃ A L C, e = .returned (.tuple #[.slice A L C, .int .u64 (n % 1000000000000000000 : Nat)]) ∧ NatS w' A L C (wo (n / 1000000000000000000)) ∧ Upd (bof Z) w w' ∧ ∀ b ∈ bof A, b ∈ bof Z ∨ w.heap.size ≤ b := by
  have hC1 := hX.2.2.1
  have hC2 := hX.2.2.2.1
  have hC3 := hZ.2.2.2.1
  rcases Nat.eq_zero_or_pos Lx with rfl | hLp
  · have hn : n = 0 := by
      rcases Nat.eq_zero_or_pos n with h | h
      · exact h
      · have := wo_len_pos (by omega : n ≠ 0); rw [hX.1] at this; omega
    subst hn
    go_enter Tryz.func167, Tryz.ntmps167
    go_wp2
    go_ret2
    exact ⟨Z, 0, Cz, rfl, hZ.zero, Upd.refl _ _, fun b hb => .inl hb⟩
  · have t1 : ((Lx : Int) == 0) = false := beq_eq_false_iff_ne.2 (by omega)
    have hmk := make_any w Z Lz Cz Lx wz (by omega) hZ
    have HMK := hide hmk
    clear hmk
    go_enter Tryz.func167, Tryz.ntmps167
    go_wp2_with fail
    refine HMK.out.mono ?_
    rintro e w1 ⟨A', C', rfl, hu, hC', hC4, hr⟩
    rcases hr with ⟨rfl, hL0, rfl⟩ | ⟨b, cs, rfl, hb, hcs, hC0, hbz⟩
    · omega
    · have hX1 := hX.upd hu (by simp)
      obtain ⟨xb, cx, rfl, hbx, hcx, hwx⟩ := hX1.row (by omega)
      have hdv := divWVW_18 w1 b xb Lx C' Cx cs (wo n) hL hLp hX1.1 (wo_lt n) hb (by omega) (by omega) hC1 (by omega) hC2 hX1.cells
      have HDV := hide hdv
      clear hdv
      go_wp2_with fail
      refine HDV.out.mono ?_
      rintro e w2 ⟨r, qs, cs', rfl, hu2, hb2, hsz, hwd, hql, hqd, hv, hrl⟩
      have hnb := norm_blk w2 b Lx C' cs' qs hql hb2 hwd hqd (by omega) (by omega) (by omega) (by omega)
      have HNB := hide hnb
      have HV := hide hv
      have HQD := hide hqd
      have HWD := hide hwd
      clear hnb hv hqd hwd
      go_wp2_with fail
      refine HNB.out.mono ?_
      rintro e w3 ⟨k, rfl, hS, rfl⟩
      go_wp2
      go_ret2
      have hvn : n = val qs * 1000000000000000000 + r := by have := HV.out; rwa [val_wo] at this
      have hq : n / 1000000000000000000 = val qs := by omega
      have hr2 : n % 1000000000000000000 = r := by omega
      refine ⟨_, k, C', by rw [hr2]; rfl, by rw [hq]; exact hS, ?_, by simpa [bof] using hbz⟩
      exact hu.into hu2 (by simp) hbz

end Go.Proofs.YtnajekpckbfcdaaGreatDoor
