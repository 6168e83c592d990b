/-
  The specification: TextDenom, TextRead; textSame, textWhole.
-/
import Derived.Test.YtnajekpckbfcdaaGreatDoorM01
import Derived.Test.YtnajekpckbfcdaaGreatDoorM16
import Derived.Test.YtnajekpckbfcdaaGreatDoorN5
import Derived.Test.YtnajekpckbfcdaaGreatDoorPFnParseDecsx1
set_option linter.unusedVariables false
set_option linter.unusedSimpArgs false
namespace Go.Proofs.YtnajekpckbfcdaaGreatDoor
open Go.RowKit

theorem dv_take (l : List UInt8) (k : Nat) (hk : k < l.length) : dv (l.take (k + 1)) = dv (l.take k) * 10 + (l[k].toNat - 48) := by
  rw [List.take_succ_eq_append_getElem hk, dv_snoc]
theorem dv_take_le (l : List UInt8) (k : Nat) : dv (l.take k) ≤ dv l := by
  have h := dv_append (l.take k) (l.drop k)
  rw [List.take_append_drop] at h
  rw [h]
  exact Nat.le_trans (Nat.le_mul_of_pos_right _ (Nat.pow_pos (by decide))) (Nat.le_add_right _ _)

theorem textNumber_52 (l : List UInt8) (hl : l.length ≤ 100000) (hd : ∀ x ∈ l, isDg x = true) (hv : dv l < 9223372036854775808) (w : World) :
    Calls Tryz.prog 52 #[.string (bs l)] w fun e w' => e = .returned (.int .i64 (dv l)) ∧ w = w' := by
  have z2 : (bs l).size = l.length := bs_size l
  have HV := hide (fun k => Nat.lt_of_le_of_lt (dv_take_le l k) hv)
  have HD := hide hd
  clear hd hv
  go_enter Tryz.func52, Tryz.ntmps52
  go_wp2_with fail
  go_loopw [3, 7] (fun n i wr => ∃ k : Nat, k ≤ l.length ∧ i = .int .i64 k ∧ n = .int .i64 (dv (l.take k)) ∧ wr = w) (fun _ i _ => l.length - (intOf i).toNat)
  case atStart => exact ⟨0, by omega, rfl, rfl, rfl⟩
  case round =>
    obtain ⟨k, hk, rfl, rfl, rfl⟩ := hrel
    rcases (by omega : k < l.length ∨ k = l.length) with hkl | rfl
    · have hkb : k < (bs l).size := by rw [bs_size]; exact hkl
      have hx : (bs l)[k]'hkb = l[k] := bs_get l k _
      obtain ⟨hc1, hc2⟩ := (isDg_iff _).1 (HD.out l[k] (List.getElem_mem _))
      have hstep := dv_take l k hkl
      have hlt := HV.out (k + 1)
      rw [hstep] at hlt
      have HST := hide hstep
      have s1 : (k : Int) < (l.length : Int) := by omega
      clear hstep
      generalize dv (l.take k) = a at *
      go_upto_region 5 with (fail)
      have hd : ∃ d, l[k].toNat = d + 48 ∧ d ≤ 9 := ⟨l[k].toNat - 48, by omega, by omega⟩
      obtain ⟨d, hd, hd9⟩ := hd
      have hx2 : (((bs l)[k]'hkb).toNat : Int) = (d : Int) + 48 := by rw [hx, hd]; omega
      have e1 : l[k].toNat - 48 = d := by omega
      have hlt2 : a * 10 + d < 9223372036854775808 := by omega
      have HST2 : Hid (dv (l.take (k + 1)) = a * 10 + d) := HST.out.trans (by omega)
      clear hx hc1 hc2 hlt HST e1 hd
      go_upto_region 6 with (fail)
      clear hx2
      go_wp2
      go_roundw
      case rel => exact ⟨k + 1, by omega, by go_num, by rw [HST2.out]; go_num, trivial⟩
      case measure => first | (simp [intOf]; done) | (simp [intOf]; omega)
    · have t1 : ¬ ((l.length : Int) < (l.length : Int)) := by omega
      rw [List.take_of_length_le (Nat.le_refl _)]
      go_wp2
      go_ret
      exact ⟨rfl, rfl⟩

/-- The first k bytes are in order. -/
def denPre (l : List UInt8) (k : Nat) : Prop := (∀ x ∈ l.take k, isOt x = true) ∧ (0 < k → isLe (l.headD 0) = true)
theorem denPre.zero (l : List UInt8) : denPre l 0 := ⟨by simp, by omega⟩
theorem denPre.succ {l : List UInt8} {k : Nat} (h : denPre l k) (hk : k < l.length) (ho : isOt l[k] = true) (h0 : k = 0 → isLe l[k] = true) : denPre l (k + 1) := by
  refine ⟨?_, fun _ => ?_⟩
  · rw [List.take_succ_eq_append_getElem hk]
    intro x hx
    rcases List.mem_append.1 hx with hx | hx
    · exact h.1 x hx
    · rw [List.mem_singleton.1 hx]; exact ho
  · rcases Nat.eq_zero_or_pos k with rfl | hp
    · have := h0 rfl
      cases l with
      | nil => simp at hk
      | cons c r => exact this
    · exact h.2 hp
theorem denPre.all {l : List UInt8} (h : denPre l l.length) (h1 : 3 ≤ l.length) (h2 : l.length ≤ 128) : isDen l = true := by
  unfold isDen
  have a := h.1
  rw [List.take_of_length_le (Nat.le_refl _)] at a
  simp only [Bool.and_eq_true, decide_eq_true_eq]
  exact ⟨⟨⟨h1, h2⟩, h.2 (by omega)⟩, List.all_eq_true.2 a⟩
theorem den_bad {l : List UInt8} {k : Nat} (hk : k < l.length) (ho : isOt l[k] = false) : isDen l = false := by
  cases h : isDen l with
  | false => rfl
  | true =>
    unfold isDen at h
    simp only [Bool.and_eq_true, decide_eq_true_eq] at h
    have := List.all_eq_true.1 h.2 l[k] (List.getElem_mem _)
    rw [ho] at this; cases this
theorem den_head {l : List UInt8} (hk : 0 < l.length) (ho : isLe l[0] = false) : isDen l = false := by
  cases h : isDen l with
  | false => rfl
  | true =>
    unfold isDen at h
    simp only [Bool.and_eq_true, decide_eq_true_eq] at h
    have h1 := h.1.2
    cases l with
    | nil => simp at hk
    | cons c r =>
      rw [show (c :: r).headD 0 = (c :: r)[0]'hk from rfl, ho] at h1
      cases h1
theorem isLe_of (c : UInt8) (h : (97 ≤ c.toNat ∧ c.toNat ≤ 122) ∨ (65 ≤ c.toNat ∧ c.toNat ≤ 90)) : isLe c = true := by
  unfold isLe
  rcases h with ⟨h1, h2⟩ | ⟨h1, h2⟩ <;> simp [h1, h2]
theorem isLe_not (c : UInt8) (h : ¬ (97 ≤ c.toNat ∧ c.toNat ≤ 122) ∧ ¬ (65 ≤ c.toNat ∧ c.toNat ≤ 90)) : isLe c = false := by
  cases hh : isLe c with
  | false => rfl
  | true =>
    unfold isLe at hh
    simp only [Bool.or_eq_true, Bool.and_eq_true, decide_eq_true_eq] at hh
    rcases hh with hh | hh
    · exact absurd hh h.1
    · exact absurd hh h.2
theorem isOt_of (c : UInt8) (h : (48 ≤ c.toNat ∧ c.toNat ≤ 57) ∨ c.toNat = 47 ∨ c.toNat = 58 ∨ c.toNat = 46 ∨ c.toNat = 95 ∨ c.toNat = 45) : isOt c = true := by
  rcases h with ⟨h1, h2⟩ | h | h | h | h | h
  · simp [isOt, isDg, h1, h2]
  all_goals (
    have e : c = UInt8.ofNat c.toNat := by simp
    rw [h] at e
    rw [e]; decide)
theorem isOt_not (c : UInt8) (h1 : isLe c = false) (h2 : ¬ (48 ≤ c.toNat ∧ c.toNat ≤ 57)) (h3 : c.toNat ≠ 47 ∧ c.toNat ≠ 58 ∧ c.toNat ≠ 46 ∧ c.toNat ≠ 95 ∧ c.toNat ≠ 45) : isOt c = false := by
  have hg : isDg c = false := by
    cases hh : isDg c with
    | false => rfl
    | true => exact absurd ((isDg_iff c).1 hh) h2
  have e : ∀ k : UInt8, c.toNat ≠ k.toNat → (c == k) = false := fun k hk => by rw [beq_eq_false_iff_ne]; rintro rfl; exact hk rfl
  obtain ⟨a1, a2, a3, a4, a5⟩ := h3
  unfold isOt
  rw [h1, hg, e 47 a1, e 58 a2, e 46 a3, e 95 a4, e 45 a5]; rfl

set_option maxRecDepth 20000 in
set_option maxHeartbeats 4000000 in
theorem TextDenom_33 (l : List UInt8) (hl : l.length ≤ 100000) (w : World) : Calls Tryz.prog 33 #[.string (bs l)] w fun e w' => e = .returned (.bool (isDen l)) ∧ w = w' := by
  have z2 : (bs l).size = l.length := bs_size l
  rcases (by omega : l.length < 3 ∨ 128 < l.length ∨ (3 ≤ l.length ∧ l.length ≤ 128)) with h | h | ⟨h1, h2⟩
  · have hd : isDen l = false := by unfold isDen; rw [decide_eq_false (by omega)]; rfl
    have t1 : (l.length : Int) < 3 := by omega
    rw [hd]
    go_enter Tryz.func33, Tryz.ntmps33
    go_wp2
    go_ret
    exact ⟨rfl, rfl⟩
  · have hd : isDen l = false := by unfold isDen; rw [decide_eq_false (show ¬ l.length ≤ 128 by omega)]; simp
    have t1 : ¬ (l.length : Int) < 3 := by omega
    have t2 : (128 : Int) < (l.length : Int) := by omega
    rw [hd]
    go_enter Tryz.func33, Tryz.ntmps33
    go_wp2
    go_ret
    exact ⟨rfl, rfl⟩
  · have t1 : ¬ (l.length : Int) < 3 := by omega
    have t2 : ¬ (128 : Int) < (l.length : Int) := by omega
    go_enter Tryz.func33, Tryz.ntmps33
    go_wp2_with fail
    go_loopw [17] (fun i wr => ∃ k : Nat, k ≤ l.length ∧ i = .int .i64 k ∧ Hid (denPre l k) ∧ wr = w) (fun i _ => l.length - (intOf i).toNat)
    case atStart => exact ⟨0, by omega, rfl, denPre.zero l, rfl⟩
    case round =>
      obtain ⟨k, hk, rfl, hpre, rfl⟩ := hrel
      rcases (by omega : k < l.length ∨ k = l.length) with hkl | rfl
      · have hkb : k < (bs l).size := by rw [bs_size]; exact hkl
        have hx : (bs l)[k]'hkb = l[k] := bs_get l k _
        have s1 : (k : Int) < (l.length : Int) := by omega
        go_upto_region 7 with (fail)
        clear hx
        have hLe := isLe_of l[k]
        have hLn := isLe_not l[k]
        have hOt := isOt_of l[k]
        have hOn := isOt_not l[k]
        have hbad := den_bad hkl
        have hsucc := denPre.succ hpre.out hkl
        have hhead : k = 0 → isLe l[k] = false → isDen l = false := by rintro rfl; exact den_head hkl
        generalize l[k] = x at *
        have hx255 : x.toNat < 256 := UInt8.toNat_lt x
        obtain ⟨c, hc⟩ : ∃ c, x.toNat = c := ⟨_, rfl⟩
        rw [hc] at hLe hLn hOt hOn hx255 ⊢
        clear hc
        rcases (by omega : (65 ≤ c ∧ c ≤ 90) ∨ (97 ≤ c ∧ c ≤ 122) ∨ c = 45 ∨ c = 46 ∨ c = 47 ∨ (48 ≤ c ∧ c ≤ 57) ∨ c = 58 ∨ c = 95 ∨ c < 45 ∨ (59 ≤ c ∧ c ≤ 64) ∨ (91 ≤ c ∧ c ≤ 94) ∨ c = 96 ∨ 123 ≤ c) with
          h | h | h | h | h | h | h | h | h | h | h | h | h
        iterate 2 (
          focus (
            have hS := hide (hsucc (isLe_ot _ (hLe (by omega))) (fun _ => hLe (by omega)))
            obtain ⟨ha, hb⟩ := h
            clear hLe hLn hOt hOn hbad hsucc hhead hpre hx255
            go_wp2
            go_roundw
            case rel => exact ⟨k + 1, by omega, by go_num, hS, trivial⟩
            case measure => first | (simp [intOf]; done) | (simp [intOf]; omega)))
        iterate 6 (
          focus (
            have ho : isOt x = true := hOt (by omega)
            have hl0 : isLe x = false := hLn (by omega)
            rcases Nat.eq_zero_or_pos k with h0 | h0
            · have hB := hide (hhead h0 hl0)
              have h0i : (k : Int) = 0 := by omega
              have h0b : ((k : Int) == 0) = true := by rw [h0i]; rfl
              clear hLe hLn hOt hOn hbad hsucc hhead hpre hx255 ho hl0
              subst h0
              go_wp2
              go_ret
              exact ⟨by first | (rw [hB.out]; done) | (rw [hB.out]; rfl) | (rw [hB.out]; simp), rfl⟩
            · have hS := hide (hsucc ho (fun e => by omega))
              have h0i : ¬ (k : Int) = 0 := by omega
              have h0b : ((k : Int) == 0) = false := beq_eq_false_iff_ne.2 h0i
              clear hLe hLn hOt hOn hbad hsucc hhead hpre hx255 ho hl0
              go_wp2
              go_roundw
              case rel => exact ⟨k + 1, by omega, by go_num, hS, trivial⟩
              case measure => first | (simp [intOf]; done) | (simp [intOf]; omega)))
        all_goals (
          have hl0 : isLe x = false := hLn (by omega)
          have hB := hide (hbad (hOn hl0 (by omega) (by omega)))
          clear hLe hLn hOt hOn hbad hsucc hhead hpre hl0
          have h0b : ((k : Int) == 0) = true ∨ ((k : Int) == 0) = false := by cases (k : Int) == 0 <;> simp
          have b1 : ((c : Int) == 47) = false := beq_eq_false_iff_ne.2 (by omega)
          have b2 : ((c : Int) == 58) = false := beq_eq_false_iff_ne.2 (by omega)
          have b3 : ((c : Int) == 46) = false := beq_eq_false_iff_ne.2 (by omega)
          have b4 : ((c : Int) == 95) = false := beq_eq_false_iff_ne.2 (by omega)
          have b5 : ((c : Int) == 45) = false := beq_eq_false_iff_ne.2 (by omega)
          have b6 : ((48 : Int) ≤ c ∧ decide ((c : Int) ≤ 57) = false) ∨ ¬ (48 : Int) ≤ c := by
            rcases (by omega : (48 : Int) ≤ c ∨ ¬ (48 : Int) ≤ c) with q | q
            · exact .inl ⟨q, decide_eq_false (by omega)⟩
            · exact .inr q
          have b8 : (91 ≤ c ∧ decide ((c : Int) ≤ 90) = false) ∨ c ≤ 64 := by
            rcases (by omega : 91 ≤ c ∨ c ≤ 64) with q | q
            · exact .inl ⟨q, decide_eq_false (by omega)⟩
            · exact .inr q
          have b9 : (123 ≤ c ∧ decide ((c : Int) ≤ 122) = false) ∨ c ≤ 96 := by
            rcases (by omega : 123 ≤ c ∨ c ≤ 96) with q | q
            · exact .inl ⟨q, decide_eq_false (by omega)⟩
            · exact .inr q
          rcases h0b with h0b | h0b <;> rcases b6 with ⟨b6, b7⟩ | b6 <;> rcases b8 with ⟨b8, b10⟩ | b8 <;> rcases b9 with ⟨b9, b11⟩ | b9
          all_goals first | (exfalso; omega) | (
            go_wp2
            go_ret
            exact ⟨by first | (rw [hB.out]; done) | (rw [hB.out]; rfl) | (rw [hB.out]; simp), rfl⟩))
      · have s1 : ¬ ((l.length : Int) < (l.length : Int)) := by omega
        have hd := hpre.out.all h1 h2
        go_wp2
        go_ret
        exact ⟨by first | rfl | rw [hd], rfl⟩

end Go.Proofs.YtnajekpckbfcdaaGreatDoor

namespace Go.Proofs.YtnajekpckbfcdaaGreatDoor
open Go.RowKit Go.Proofs.YtnajekpckbfcdaaGreatDoorW.PrintWords Go.Proofs.YtnajekpckbfcdaaGreatDoor.PFnParseDecs

/-- A coin of the specification. -/
abbrev SV (d : ByteArray) (a b : Int) : Value := .agg #[.string d, .int .i64 a, .int .i64 b]
/-- What TextRead answers for what is read. -/
def ReadRes (rd : Option (List UInt8 × Nat)) (w : World) (e : Ending) (w' : World) : Prop :=
  ((∃ d m, rd = some (d, m) ∧ e = .returned (.tuple #[SV (bs d) (m / 1000000000000000000 : Nat) (m % 1000000000000000000 : Nat), .string ⟨#[]⟩])) ∨
   (rd = none ∧ ∃ d a b s, e = .returned (.tuple #[SV d a b, .string s]) ∧ 0 < s.size)) ∧ Upd [] w w'

theorem bs_ne {l : List UInt8} (h : l ≠ []) : ¬ (bs l).toList = [] ∧ ((bs l).toList.isEmpty) = false ∧ ((bs l).toList == []) = false := str_ne (by rw [bs_size]; exact List.length_pos_iff.2 h)

theorem te (l : List UInt8) : (l = [] ∧ bs l = ⟨#[]⟩) ∨ (l ≠ [] ∧ ¬ (bs l).toList = [] ∧ ((bs l).toList.isEmpty) = false ∧ ((bs l).toList == []) = false) := by
  cases l with
  | nil => exact .inl ⟨rfl, rfl⟩
  | cons c r => exact .inr ⟨by simp, bs_ne (by simp)⟩

set_option maxRecDepth 20000 in
set_option maxHeartbeats 4000000 in
/-- The first test fails. -/
theorem TextRead_bad (b0 b4 b6 : ByteArray) (W F D : List UInt8) (P : Bool) (hD : D.length ≤ 100000) (h : (W = [] ∧ P = false) ∨ (P = true ∧ F = []) ∨ isDen D = false) (w : World) :
    Calls Tryz.prog 31 #[.agg #[.string b0, .string (bs W), .bool P, .string (bs F), .string b4, .string (bs D), .string b6]] w (ReadRes none w) := by
  have HV := hide (fun w => TextDenom_33 D hD w)
  have u1 : Upd [] w ((w.alloc (.cells #[.string b0, .string (bs W), .bool P, .string (bs F), .string b4, .string (bs D), .string b6] 26)).alloc (.cells #[.string ⟨#[]⟩, .int .i64 0, .int .i64 0] 46)) := ((Upd.refl [] w).alloc _).alloc _
  have hb := (Blk.new w 26 #[.string b0, .string (bs W), .bool P, .string (bs F), .string b4, .string (bs D), .string b6]).alloc (.cells #[.string ⟨#[]⟩, .int .i64 0, .int .i64 0] 46)
  have hR := Blk.new (w.alloc (.cells #[.string b0, .string (bs W), .bool P, .string (bs F), .string b4, .string (bs D), .string b6] 26)) 46 #[.string ⟨#[]⟩, .int .i64 0, .int .i64 0]
  rw [World.size_alloc] at hR
  have f0 := hR.frozen 0
  have f1 := hR.frozen 1
  have f2 := hR.frozen 2
  have hl := hR.lt
  have ez : bs [] = ⟨#[]⟩ := rfl
  go_enter Tryz.func31, Tryz.ntmps31
  go_upto_region 1 with (fail)
  generalize (w.alloc (.cells #[.string b0, .string (bs W), .bool P, .string (bs F), .string b4, .string (bs D), .string b6] 26)).alloc (.cells #[.string ⟨#[]⟩, .int .i64 0, .int .i64 0] 46) = w1 at *
  have c1 := hb.at_ (i := 1) (v := .string (bs W)) rfl
  have c2 := hb.at_ (i := 2) (v := .bool P) rfl
  have c3 := hb.at_ (i := 3) (v := .string (bs F)) rfl
  have c5 := hb.at_ (i := 5) (v := .string (bs D)) rfl
  have r0 := hR.at_ (i := 0) (v := .string ⟨#[]⟩) rfl
  have r1 := hR.at_ (i := 1) (v := .int .i64 0) rfl
  have r2 := hR.at_ (i := 2) (v := .int .i64 0) rfl
  clear hb
  have hend : ∀ w2 : World, Upd [] w1 w2 → Blk w2 (w.heap.size + 1) 46 #[.string ⟨#[]⟩, .int .i64 0, .int .i64 0] := fun w2 hu => hR.grow hu
  have HEND := hide hend
  clear hend hR
  rcases te W with ⟨hW, e1⟩ | ⟨hW, q1, q2, q3⟩ <;> rcases te F with ⟨hF, e3⟩ | ⟨hF, g1, g2, g3⟩ <;> cases P
  all_goals (try rw [e1] at c1)
  all_goals (try rw [e3] at c3)
  all_goals first
    | (have hd : isDen D = false := by simp_all
       rw [hd] at HV
       clear h hd
       go_wp2_with fail
       refine (HV.out _).mono ?_
       rintro e w2 ⟨rfl, rfl⟩
       go_wp2
       refine bodyPost_ret (v := .tuple #[SV ⟨#[]⟩ 0 0, .string ⟨#[105, 110, 118, 97, 108, 105, 100, 32, 100, 101, 99, 105, 109, 97, 108, 32, 99, 111, 105, 110, 32, 101, 120, 112, 114, 101, 115, 115, 105, 111, 110]⟩]) (by simp [results, Tryz.results31, r0, r1, r2, hl, go_sem]) rfl ?_
       exact ⟨.inr ⟨rfl, _, _, _, _, rfl, by decide⟩, ((u1.setCell (by simp) _).setCell (by simp) _).setCell (by simp) _⟩)
    | (clear HV h
       go_wp2
       refine bodyPost_ret (v := .tuple #[SV ⟨#[]⟩ 0 0, .string ⟨#[105, 110, 118, 97, 108, 105, 100, 32, 100, 101, 99, 105, 109, 97, 108, 32, 99, 111, 105, 110, 32, 101, 120, 112, 114, 101, 115, 115, 105, 111, 110]⟩]) (by simp [results, Tryz.results31, r0, r1, r2, hl, go_sem]) rfl ?_
       exact ⟨.inr ⟨rfl, _, _, _, _, rfl, by decide⟩, ((u1.setCell (by simp) _).setCell (by simp) _).setCell (by simp) _⟩)

set_option maxRecDepth 20000 in
set_option maxHeartbeats 4000000 in
/-- The second test fails. -/
theorem TextRead_amt (b0 b4 b6 : ByteArray) (W F D : List UInt8) (P : Bool) (hD : D.length ≤ 100000) (hd : isDen D = true) (hx : (W ≠ [] ∧ P = false ∧ F = []) ∨ (P = true ∧ F ≠ [])) (h : W = [] ∨ 18 < F.length) (w : World) :
    Calls Tryz.prog 31 #[.agg #[.string b0, .string (bs W), .bool P, .string (bs F), .string b4, .string (bs D), .string b6]] w (ReadRes none w) := by
  have HV := hide (fun w => TextDenom_33 D hD w)
  rw [hd] at HV
  have zF : (bs F).size = F.length := bs_size F
  have u1 : Upd [] w ((w.alloc (.cells #[.string b0, .string (bs W), .bool P, .string (bs F), .string b4, .string (bs D), .string b6] 26)).alloc (.cells #[.string ⟨#[]⟩, .int .i64 0, .int .i64 0] 46)) := ((Upd.refl [] w).alloc _).alloc _
  have hb := (Blk.new w 26 #[.string b0, .string (bs W), .bool P, .string (bs F), .string b4, .string (bs D), .string b6]).alloc (.cells #[.string ⟨#[]⟩, .int .i64 0, .int .i64 0] 46)
  have hR := Blk.new (w.alloc (.cells #[.string b0, .string (bs W), .bool P, .string (bs F), .string b4, .string (bs D), .string b6] 26)) 46 #[.string ⟨#[]⟩, .int .i64 0, .int .i64 0]
  rw [World.size_alloc] at hR
  have f0 := hR.frozen 0
  have f1 := hR.frozen 1
  have f2 := hR.frozen 2
  have hl := hR.lt
  have ez : bs [] = ⟨#[]⟩ := rfl
  go_enter Tryz.func31, Tryz.ntmps31
  go_upto_region 1 with (fail)
  generalize (w.alloc (.cells #[.string b0, .string (bs W), .bool P, .string (bs F), .string b4, .string (bs D), .string b6] 26)).alloc (.cells #[.string ⟨#[]⟩, .int .i64 0, .int .i64 0] 46) = w1 at *
  have c1 := hb.at_ (i := 1) (v := .string (bs W)) rfl
  have c2 := hb.at_ (i := 2) (v := .bool P) rfl
  have c3 := hb.at_ (i := 3) (v := .string (bs F)) rfl
  have c5 := hb.at_ (i := 5) (v := .string (bs D)) rfl
  have r0 := hR.at_ (i := 0) (v := .string ⟨#[]⟩) rfl
  have r1 := hR.at_ (i := 1) (v := .int .i64 0) rfl
  have r2 := hR.at_ (i := 2) (v := .int .i64 0) rfl
  clear hb
  have hend : ∀ w2 : World, Upd [] w1 w2 → Blk w2 (w.heap.size + 1) 46 #[.string ⟨#[]⟩, .int .i64 0, .int .i64 0] := fun w2 hu => hR.grow hu
  have HEND := hide hend
  clear hend hR
  have h2 : W = [] ∨ (18 : Int) < (F.length : Int) := by rcases h with h | h; exact .inl h; exact .inr (by omega)
  clear hd
  rcases te W with ⟨hW, e1⟩ | ⟨hW, q1, q2, q3⟩ <;> rcases te F with ⟨hF, e3⟩ | ⟨hF, g1, g2, g3⟩ <;> cases P
  all_goals (try rw [e1] at c1)
  all_goals (try rw [e3] at c3)
  all_goals first
    | (exfalso; simp_all; done)
    | (have h3 := h2.resolve_left hW
       clear h h2 hx
       go_wp2_with fail
       refine (HV.out _).mono ?_
       rintro e w2 ⟨rfl, rfl⟩
       go_wp2
       refine bodyPost_ret (v := .tuple #[SV ⟨#[]⟩ 0 0, .string ⟨#[102, 97, 105, 108, 101, 100, 32, 116, 111, 32, 112, 97, 114, 115, 101, 32, 100, 101, 99, 105, 109, 97, 108, 32, 99, 111, 105, 110, 32, 97, 109, 111, 117, 110, 116]⟩]) (by simp [results, Tryz.results31, r0, r1, r2, hl, go_sem]) rfl ?_
       exact ⟨.inr ⟨rfl, _, _, _, _, rfl, by decide⟩, ((u1.setCell (by simp) _).setCell (by simp) _).setCell (by simp) _⟩)
    | (clear h h2 hx
       go_wp2_with fail
       refine (HV.out _).mono ?_
       rintro e w2 ⟨rfl, rfl⟩
       go_wp2
       refine bodyPost_ret (v := .tuple #[SV ⟨#[]⟩ 0 0, .string ⟨#[102, 97, 105, 108, 101, 100, 32, 116, 111, 32, 112, 97, 114, 115, 101, 32, 100, 101, 99, 105, 109, 97, 108, 32, 99, 111, 105, 110, 32, 97, 109, 111, 117, 110, 116]⟩]) (by simp [results, Tryz.results31, r0, r1, r2, hl, go_sem]) rfl ?_
       exact ⟨.inr ⟨rfl, _, _, _, _, rfl, by decide⟩, ((u1.setCell (by simp) _).setCell (by simp) _).setCell (by simp) _⟩)

/-- The size that is left to pad. -/
def padOf : Value → Nat
  | .string s => 18 - s.size
  | _ => 0
set_option maxRecDepth 20000 in
set_option maxHeartbeats 4000000 in
/-- A part that is read. -/
theorem TextRead_ok (b0 b4 b6 : ByteArray) (W F D : List UInt8) (P : Bool) (hD : D.length ≤ 100000) (hd : isDen D = true) (hx : W ≠ [] ∧ ((P = false ∧ F = []) ∨ (P = true ∧ F ≠ []))) (h18 : F.length ≤ 18)
    (hW1 : W.length ≤ 100000) (hWd : ∀ x ∈ W, isDg x = true) (hFd : ∀ x ∈ F, isDg x = true) (a b : Nat) (ha : dv W = a) (ha2 : a < 9223372036854775808) (hb : dv (F ++ List.replicate (18 - F.length) 48) = b) (w : World) :
    Calls Tryz.prog 31 #[.agg #[.string b0, .string (bs W), .bool P, .string (bs F), .string b4, .string (bs D), .string b6]] w
      fun e w' => e = .returned (.tuple #[SV (bs D) a b, .string ⟨#[]⟩]) ∧ Upd [] w w' := by
  have HNW := hide (fun w => textNumber_52 W hW1 hWd (by omega) w)
  rw [ha] at HNW
  obtain ⟨G, hG⟩ : ∃ G, F ++ List.replicate (18 - F.length) 48 = G := ⟨_, rfl⟩
  have hGl : G.length = 18 := by rw [← hG]; simp; omega
  have hGd : ∀ x ∈ G, isDg x = true := by
    intro x hx
    rw [← hG] at hx
    rcases List.mem_append.1 hx with hx | hx
    · exact hFd x hx
    · rw [List.eq_of_mem_replicate hx]; decide
  rw [hG] at hb
  have hb18 : b < 1000000000000000000 := by
    have := dv_lt G hGd
    rw [hGl, hb] at this
    exact this
  have HNF := hide (fun w => textNumber_52 G (by omega) hGd (by omega) w)
  rw [hb] at HNF
  have HG := hide hG
  have HV := hide (fun w => TextDenom_33 D hD w)
  rw [hd] at HV
  have zF : (bs F).size = F.length := bs_size F
  have u1 : Upd [] w ((w.alloc (.cells #[.string b0, .string (bs W), .bool P, .string (bs F), .string b4, .string (bs D), .string b6] 26)).alloc (.cells #[.string ⟨#[]⟩, .int .i64 0, .int .i64 0] 46)) := ((Upd.refl [] w).alloc _).alloc _
  have hB := (Blk.new w 26 #[.string b0, .string (bs W), .bool P, .string (bs F), .string b4, .string (bs D), .string b6]).alloc (.cells #[.string ⟨#[]⟩, .int .i64 0, .int .i64 0] 46)
  have hR := Blk.new (w.alloc (.cells #[.string b0, .string (bs W), .bool P, .string (bs F), .string b4, .string (bs D), .string b6] 26)) 46 #[.string ⟨#[]⟩, .int .i64 0, .int .i64 0]
  rw [World.size_alloc] at hR
  have f0 := hR.frozen 0
  have f1 := hR.frozen 1
  have f2 := hR.frozen 2
  have hl := hR.lt
  have ez : bs [] = ⟨#[]⟩ := rfl
  go_enter Tryz.func31, Tryz.ntmps31
  go_upto_region 1 with (fail)
  generalize (w.alloc (.cells #[.string b0, .string (bs W), .bool P, .string (bs F), .string b4, .string (bs D), .string b6] 26)).alloc (.cells #[.string ⟨#[]⟩, .int .i64 0, .int .i64 0] 46) = w1 at *
  have c1 := hB.at_ (i := 1) (v := .string (bs W)) rfl
  have c2 := hB.at_ (i := 2) (v := .bool P) rfl
  have c3 := hB.at_ (i := 3) (v := .string (bs F)) rfl
  have c5 := hB.at_ (i := 5) (v := .string (bs D)) rfl
  have r0 := hR.at_ (i := 0) (v := .string ⟨#[]⟩) rfl
  have r1 := hR.at_ (i := 1) (v := .int .i64 0) rfl
  have r2 := hR.at_ (i := 2) (v := .int .i64 0) rfl
  have HB := hide hB
  clear hB
  have hend : ∀ w2 : World, Upd [] w1 w2 → Blk w2 (w.heap.size + 1) 46 #[.string ⟨#[]⟩, .int .i64 0, .int .i64 0] := fun w2 hu => hR.grow hu
  have HEND := hide hend
  clear hend
  have HR := hide hR
  clear hR
  have t18 : ¬ (18 : Int) < (F.length : Int) := by omega
  clear hd hG ha hb hWd hFd hGd ha2 hW1 hb18
  rcases te W with ⟨hW, e1⟩ | ⟨hW, q1, q2, q3⟩ <;> rcases te F with ⟨hF, e3⟩ | ⟨hF, g1, g2, g3⟩ <;> cases P
  all_goals (try rw [e3] at c3)
  all_goals first
    | (exfalso; simp_all; done)
    | (clear hx
       go_wp2_with fail
       refine (HV.out _).mono ?_
       rintro e w2 ⟨rfl, rfl⟩
       clear HV
       go_upto_region 6 with (fail))
  all_goals (
    go_loopw [4] (fun f wr => ∃ k : Nat, F.length + k ≤ 18 ∧ f = .string (bs (F ++ List.replicate k 48)) ∧ wr = w1) (fun f _ => padOf f)
    case atStart => exact ⟨0, by omega, by first | (rw [hF]; rfl) | simp, rfl⟩
    case round =>
      obtain ⟨k, hk, rfl, rfl⟩ := hrel
      rcases (by omega : F.length + k < 18 ∨ k = 18 - F.length) with hlt | rfl
      · obtain ⟨L, hL⟩ : ∃ L, F ++ List.replicate k (48 : UInt8) = L := ⟨_, rfl⟩
        have hL1 : F ++ List.replicate (k + 1) (48 : UInt8) = L ++ [48] := by rw [List.replicate_succ', ← List.append_assoc, hL]
        have hll : L.length = F.length + k := by rw [← hL]; simp
        have z1 : (bs L).size = L.length := bs_size L
        have m1 : (L.length : Int) ≤ 8388608 := by omega
        have m2 : (L.length : Int) < 18 := by omega
        have z2 : (bs (L ++ [48])).size = L.length + 1 := by rw [bs_size]; simp
        rw [hL]
        have HL1 := hide hL1
        clear hL hL1 c1 c5 t18 zF
        go_wp2
        go_roundw
        case rel => exact ⟨k + 1, by omega, by rw [HL1.out, ← bs_append]; rfl, trivial⟩
        case measure =>
          have e : (bs L ++ (⟨#[48]⟩ : ByteArray)).size = L.length + 1 := by rw [ByteArray.size_append, z1]; rfl
          first
            | (simp only [padOf, e, z1]; omega)
            | (show 18 - _ < 18 - _; rw [e, z1]; omega)
      · rw [HG.out]
        have zG : (bs G).size = G.length := bs_size G
        have m2 : ¬ (G.length : Int) < 18 := by omega
        go_upto_region 8 with (fail)
        clear c1 c2 c3 c5 f0 f1 f2 r0 r1 r2 m2 zG zF t18 hW hF
        obtain ⟨r, hr⟩ : ∃ r, w.heap.size = r := ⟨_, rfl⟩
        have hB4 := HB.out.drew
        have hR4 := HR.out.drew
        have u4 := u1.drew
        have hnr : ¬ r + 1 < w.heap.size := by omega
        rw [hr] at hB4 hR4 ⊢
        clear hl
        have n1 := hB4.at_ (i := 1) (v := .string (bs W)) rfl
        have n5 := hB4.at_ (i := 5) (v := .string (bs D)) rfl
        have r0 := hR4.at_ (i := 0) (v := .string ⟨#[]⟩) rfl
        have r1 := hR4.at_ (i := 1) (v := .int .i64 0) rfl
        have r2 := hR4.at_ (i := 2) (v := .int .i64 0) rfl
        have f0 := hR4.frozen 0
        have f1 := hR4.frozen 1
        have f2 := hR4.frozen 2
        have hl := hR4.lt
        have HW2 := hide (fun w => (HNW.out w).mono (fun e w' h => (⟨h.1, h.2.symm⟩ : _ ∧ w' = w)))
        have HF2 := hide (fun w => (HNF.out w).mono (fun e w' h => (⟨h.1, h.2.symm⟩ : _ ∧ w' = w)))
        refine wp_region_still_tail 8 (by kernel_rfl) (by kernel_rfl) ?_
        simp only [List.take_succ_cons, List.take_zero, List.drop_succ_cons, List.drop_zero]
        rw [show ({ wr with drawn := wr.drawn + 1 } : World) = wr.drew from rfl]
        generalize wr.drew = w4 at *
        still_step
        still_step
        still_step
        still_step
        still_call (HW2.out _)
        still_step
        still_call (HF2.out _)
        still_step
        refine wpStill_nil ?_
        go_wp2
        refine bodyPost_ret (v := .tuple #[SV (bs D) a b, .string ⟨#[]⟩]) (by simp [results, Tryz.results31, r0, r1, r2, hl, go_sem]) rfl ?_
        exact ⟨rfl, ((u4.setCell (p := ⟨r + 1, 0, none⟩) (fun h => absurd h hnr) _).setCell (p := ⟨r + 1, 1, none⟩) (fun h => absurd h hnr) _).setCell (p := ⟨r + 1, 2, none⟩) (fun h => absurd h hnr) _⟩)

theorem TextRead_31 (p : Part) (hok : p.Ok) (w : World) : Calls Tryz.prog 31 #[PV p] w (ReadRes p.rd w) := by
  have hD : p.denom.length ≤ 100000 := by have := hok.d140; omega
  cases hrd : p.rd with
  | some x =>
    obtain ⟨he, ha, hx, _, _, hlt⟩ := hok.rd_some hrd
    obtain ⟨h1, h2⟩ := hok.amount ha
    have he' := he
    have ha' := ha
    unfold Part.expr at he'
    unfold Part.amt at ha'
    simp only [Bool.and_eq_true, Bool.not_eq_true', decide_eq_true_eq] at he' ha'
    obtain ⟨⟨e1, e2⟩, e3⟩ := he'
    obtain ⟨a1, a2⟩ := ha'
    have hW : p.whole ≠ [] := by intro e; rw [e] at a1; simp at a1
    have hpf : (p.point = false ∧ p.frac = []) ∨ (p.point = true ∧ p.frac ≠ []) := by
      cases hp : p.point with
      | false => exact .inl ⟨rfl, hok.fp hp⟩
      | true => exact .inr ⟨rfl, by intro e; rw [hp, e] at e2; simp at e2⟩
    have h3 : dv p.digits / 1000000000000000000 = dv p.whole := by omega
    have h4 : dv p.digits % 1000000000000000000 = dv (p.frac ++ List.replicate (18 - p.frac.length) 48) := by omega
    refine (TextRead_ok (bs p.before) (bs p.mid) (bs p.after) p.whole p.frac p.denom p.point hD e3 ⟨hW, hpf⟩ a2 (by have := hok.w25; omega) hok.wd hok.fd (dv p.whole) _ rfl (by have := hok.wv; omega) rfl w).mono ?_
    rintro e w' ⟨rfl, hu⟩
    refine ⟨.inl ⟨p.denom, dv p.digits, by rw [hx], ?_⟩, hu⟩
    rw [h3, h4]
  | none =>
    have hno : p.expr = false ∨ (p.expr = true ∧ p.amt = false) := by
      unfold Part.rd at hrd
      cases h1 : p.expr with
      | false => exact .inl rfl
      | true =>
        cases h2 : p.amt with
        | false => exact .inr ⟨rfl, rfl⟩
        | true => rw [h1, h2] at hrd; simp at hrd
    rcases hno with h | ⟨he, ha⟩
    · refine TextRead_bad (bs p.before) (bs p.mid) (bs p.after) p.whole p.frac p.denom p.point hD ?_ w
      unfold Part.expr at h
      cases hw : p.whole with
      | nil =>
        cases hp : p.point with
        | false => exact .inl ⟨rfl, rfl⟩
        | true =>
          cases hf : p.frac with
          | nil => exact .inr (.inl ⟨rfl, rfl⟩)
          | cons c r => rw [hw, hp, hf] at h; exact .inr (.inr (by simpa using h))
      | cons c r =>
        cases hp : p.point with
        | false => rw [hw, hp] at h; exact .inr (.inr (by simpa using h))
        | true =>
          cases hf : p.frac with
          | nil => exact .inr (.inl ⟨rfl, rfl⟩)
          | cons c r => rw [hw, hp, hf] at h; exact .inr (.inr (by simpa using h))
    · unfold Part.expr at he
      unfold Part.amt at ha
      simp only [Bool.and_eq_true, Bool.not_eq_true'] at he
      obtain ⟨⟨e1, e2⟩, e3⟩ := he
      refine TextRead_amt (bs p.before) (bs p.mid) (bs p.after) p.whole p.frac p.denom p.point hD e3 ?_ ?_ w
      · cases hp : p.point with
        | false =>
          refine .inl ⟨?_, rfl, hok.fp hp⟩
          intro e; rw [e, hp] at e1; simp at e1
        | true => exact .inr ⟨rfl, by intro e; rw [hp, e] at e2; simp at e2⟩
      · cases hw : p.whole with
        | nil => exact .inl rfl
        | cons c r =>
          rw [hw] at ha
          refine .inr ?_
          simp at ha
          omega
theorem TextRead_S26 (x : S26) (h : (toPart x).Ok) (w : World) :
    Calls Tryz.prog 31 #[.agg #[.string x.f0, .string x.f1, .bool x.f2, .string x.f3, .string x.f4, .string x.f5, .string x.f6]] w (ReadRes (toPart x).rd w) := by
  have := TextRead_31 (toPart x) h w
  unfold PV at this
  simp only [toPart, bs_data] at this
  exact this

end Go.Proofs.YtnajekpckbfcdaaGreatDoor

namespace Go.Proofs.YtnajekpckbfcdaaGreatDoor
open Go.RowKit Go.Proofs.YtnajekpckbfcdaaGreatDoor.PFnParseDecs

theorem xcells_get : ∀ (L : List (List UInt8 × Nat)) (k : Nat) (h : k < L.length), (xcells L)[k * 3]? = some (.string (bs L[k].1)) ∧ (xcells L)[k * 3 + 1]? = some (.int .i64 (L[k].2 / 1000000000000000000 : Nat)) ∧ (xcells L)[k * 3 + 2]? = some (.int .i64 (L[k].2 % 1000000000000000000 : Nat))
  | [], k, h => by simp at h
  | c :: r, 0, _ => ⟨rfl, rfl, rfl⟩
  | c :: r, k + 1, h => by
    have := xcells_get r k (by simpa using h)
    rw [show (k + 1) * 3 = k * 3 + 3 by omega, show k * 3 + 3 + 1 = (k * 3 + 1) + 3 by omega, show k * 3 + 3 + 2 = (k * 3 + 2) + 3 by omega]
    exact this
theorem wcells_get : ∀ (L : List (List UInt8 × Nat)) (k : Nat) (h : k < L.length), (wcells L)[k * 2]? = some (.string (bs L[k].1)) ∧ (wcells L)[k * 2 + 1]? = some (.int .i64 (L[k].2 : Nat))
  | [], k, h => by simp at h
  | c :: r, 0, _ => ⟨rfl, rfl⟩
  | c :: r, k + 1, h => by
    have := wcells_get r k (by simpa using h)
    rw [show (k + 1) * 2 = k * 2 + 2 by omega, show k * 2 + 2 + 1 = (k * 2 + 1) + 2 by omega]
    exact this
theorem own_slice {w : World} {base n size : Nat} {e : TypeId} {v : Value} {xs : List Value} (h : w.ownsRow base e size v n xs) : ∃ a c, v = .slice a n c ∧ n ≤ c := by
  rcases h.2 with ⟨h, h0⟩ | ⟨g, cap, cur, h, _, _, hc, _⟩
  · exact ⟨_, _, by rw [h, h0], by omega⟩
  · exact ⟨_, _, h, hc⟩
/-- A row that is not empty: its cells. -/
theorem own_cells {w : World} {base n size : Nat} {e : TypeId} {v : Value} {xs : List Value} (h : w.ownsRow base e size v n xs) (h0 : 0 < n) :
    ∃ g cap, v = .slice (some ⟨g, 0, none⟩) n cap ∧ g < w.heap.size ∧ n ≤ cap ∧ ∀ j u, xs[j]? = some u → w.cell? ⟨g, j, none⟩ = some u := by
  rcases h.2 with ⟨_, h1⟩ | ⟨g, cap, cur, rfl, _, hg, hc, _⟩
  · omega
  · refine ⟨g, cap, rfl, (Array.getElem?_eq_some_iff.1 hg).1, hc, ?_⟩
    intro j u hj
    have := h.cells (g := g) rfl j u hj
    rwa [addr_add0] at this

set_option maxRecDepth 20000 in
set_option maxHeartbeats 4000000 in
theorem textSame_14 (L : List (List UInt8 × Nat)) (A B : Value) (b1 b2 : Nat) (hn : L.length ≤ 1000) (w : World) (hA : w.ownsRow b1 44 3 A L.length (xcells L)) (hB : w.ownsRow b2 46 3 B L.length (xcells L)) :
    Calls Tryz.prog 14 #[A, B] w fun e w' => e = .returned (.bool true) ∧ Upd [] w w' := by
  have Q := eqA46
  rcases Nat.eq_zero_or_pos L.length with h0 | h0
  · obtain ⟨a, c, rfl, _⟩ := own_slice hA
    obtain ⟨a', c', rfl, _⟩ := own_slice hB
    rw [h0]
    clear hA hB hn h0
    go_enter Tryz.func14, Tryz.ntmps14
    go_wp2
    refine wp_loop_rounds 1 ?_
    rw [rounds_succ]
    go_wp2
    go_ret
    exact ⟨rfl, Upd.refl _ _⟩
  obtain ⟨g, ca, rfl, hg, hca, hcA⟩ := own_cells hA h0
  obtain ⟨g', cb, rfl, hg', hcb, hcB⟩ := own_cells hB h0
  have HCA := hide hcA
  have HCB := hide hcB
  obtain ⟨n, hne⟩ : ∃ n, L.length = n := ⟨_, rfl⟩
  have HN := hide hne
  rw [hne] at hn hca hcb ⊢
  clear hne hA hB h0 hcA hcB
  go_enter Tryz.func14, Tryz.ntmps14
  go_wp2_with fail
  go_loopw [14] (fun i wr => ∃ k : Nat, k ≤ n ∧ i = .int .i64 k ∧ Upd [] w wr) (fun i _ => n - (intOf i).toNat)
  case atStart => exact ⟨0, by omega, rfl, Upd.refl _ _⟩
  case round =>
    obtain ⟨k, hk, rfl, hu⟩ := hrel
    rcases (by omega : k < n ∨ k = n) with hlt | rfl
    · have hkl : k < L.length := by have := HN.out; omega
      obtain ⟨e0, e1, e2⟩ := xcells_get L k hkl
      have c0 := (hu.cell (p := ⟨g, k * 3, none⟩) hg (by simp)).trans (HCA.out _ _ e0)
      have c1 := (hu.cell (p := ⟨g, k * 3 + 1, none⟩) hg (by simp)).trans (HCA.out _ _ e1)
      have c2 := (hu.cell (p := ⟨g, k * 3 + 2, none⟩) hg (by simp)).trans (HCA.out _ _ e2)
      have u2 : ∀ o, Upd [] w (wr.alloc o) := fun o => hu.alloc o
      have d0 := fun o => ((u2 o).cell (p := ⟨g', k * 3, none⟩) hg' (by simp)).trans (HCB.out _ _ e0)
      have d1 := fun o => ((u2 o).cell (p := ⟨g', k * 3 + 1, none⟩) hg' (by simp)).trans (HCB.out _ _ e1)
      have d2 := fun o => ((u2 o).cell (p := ⟨g', k * 3 + 2, none⟩) hg' (by simp)).trans (HCB.out _ _ e2)
      have s1 : (k : Int) < (n : Int) := by omega
      clear e0 e1 e2
      generalize bs L[k].1 = d at *
      generalize L[k].2 / 1000000000000000000 = a at *
      generalize L[k].2 % 1000000000000000000 = b at *
      have D0 := hide (d0 (.cells #[.string d, .int .i64 a, .int .i64 b] 44))
      have D1 := hide (d1 (.cells #[.string d, .int .i64 a, .int .i64 b] 44))
      have D2 := hide (d2 (.cells #[.string d, .int .i64 a, .int .i64 b] 44))
      have U2 := u2 (.cells #[.string d, .int .i64 a, .int .i64 b] 44)
      have hT2 := Blk.new wr 44 #[.string d, .int .i64 a, .int .i64 b]
      clear d0 d1 d2 u2
      go_upto_region 6 with (fail)
      clear c0 c1 c2 hu
      obtain ⟨Y, hY⟩ : ∃ Y, wr.heap.size = Y := ⟨_, rfl⟩
      rw [hY] at hT2 ⊢
      have d0 := D0.out
      have d1 := D1.out
      have d2 := D2.out
      clear D0 D1 D2
      generalize wr.alloc (.cells #[.string d, .int .i64 a, .int .i64 b] 44) = w2 at *
      clear hY
      have y0 := hT2.c3a
      have y1 := hT2.c3b
      have y2 := hT2.c3
      go_quiet (fail)
      go_wp2
      go_roundw
      case rel => exact ⟨k + 1, by omega, by go_num, U2.drewN _⟩
      case measure => first | (simp [intOf]; done) | (simp [intOf]; omega)
    · have s1 : ¬ (k : Int) < (k : Int) := by omega
      go_wp2
      go_ret
      exact ⟨rfl, hu⟩

/-- A coin cut to whole ones, as data. -/
def wh (x : List UInt8 × Nat) : List UInt8 × Nat := (x.1, x.2 / 1000000000000000000)
theorem whole_dm (l : List DC) : l.map whole = (l.map dm).map wh := by rw [List.map_map]; rfl
set_option maxRecDepth 20000 in
set_option maxHeartbeats 4000000 in
theorem textWhole_15 (L : List (List UInt8 × Nat)) (A B : Value) (b1 b2 : Nat) (hn : L.length ≤ 1000) (w : World) (hA : w.ownsRow b1 52 2 A L.length (wcells (L.map wh))) (hB : w.ownsRow b2 46 3 B L.length (xcells L)) :
    Calls Tryz.prog 15 #[A, B] w fun e w' => e = .returned (.bool true) ∧ Upd [] w w' := by
  rcases Nat.eq_zero_or_pos L.length with h0 | h0
  · obtain ⟨a, c, rfl, _⟩ := own_slice hA
    obtain ⟨a', c', rfl, _⟩ := own_slice hB
    rw [h0]
    clear hA hB hn h0
    go_enter Tryz.func15, Tryz.ntmps15
    go_wp2
    refine wp_loop_rounds 1 ?_
    rw [rounds_succ]
    go_wp2
    go_ret
    exact ⟨rfl, Upd.refl _ _⟩
  obtain ⟨g, ca, rfl, hg, hca, hcA⟩ := own_cells hA h0
  obtain ⟨g', cb, rfl, hg', hcb, hcB⟩ := own_cells hB h0
  have HCA := hide hcA
  have HCB := hide hcB
  obtain ⟨n, hne⟩ : ∃ n, L.length = n := ⟨_, rfl⟩
  have HN := hide hne
  rw [hne] at hn hca hcb ⊢
  clear hne hA hB h0 hcA hcB
  go_enter Tryz.func15, Tryz.ntmps15
  go_wp2_with fail
  go_loopw [14] (fun i wr => ∃ k : Nat, k ≤ n ∧ i = .int .i64 k ∧ Upd [] w wr) (fun i _ => n - (intOf i).toNat)
  case atStart => exact ⟨0, by omega, rfl, Upd.refl _ _⟩
  case round =>
    obtain ⟨k, hk, rfl, hu⟩ := hrel
    rcases (by omega : k < n ∨ k = n) with hlt | rfl
    · have hkl : k < L.length := by have := HN.out; omega
      obtain ⟨e0, e1, e2⟩ := xcells_get L k hkl
      obtain ⟨e4, e5⟩ := wcells_get (L.map wh) k (by simpa using hkl)
      rw [List.getElem_map] at e4 e5
      have c0 : wr.cell? ⟨g, k * 2, none⟩ = some (.string (bs L[k].1)) := (hu.cell (p := ⟨g, k * 2, none⟩) hg (by simp)).trans (HCA.out _ _ e4)
      have c1 : wr.cell? ⟨g, k * 2 + 1, none⟩ = some (.int .i64 (L[k].2 / 1000000000000000000 : Nat)) := (hu.cell (p := ⟨g, k * 2 + 1, none⟩) hg (by simp)).trans (HCA.out _ _ e5)
      have u2 : ∀ o, Upd [] w (wr.alloc o) := fun o => hu.alloc o
      have d0 := fun o => ((u2 o).cell (p := ⟨g', k * 3, none⟩) hg' (by simp)).trans (HCB.out _ _ e0)
      have d1 := fun o => ((u2 o).cell (p := ⟨g', k * 3 + 1, none⟩) hg' (by simp)).trans (HCB.out _ _ e1)
      have s1 : (k : Int) < (n : Int) := by omega
      clear e0 e1 e2 e4 e5
      generalize bs L[k].1 = d at *
      generalize L[k].2 / 1000000000000000000 = a at *
      have D0 := hide (d0 (.cells #[.string d, .int .i64 a] 52))
      have D1 := hide (d1 (.cells #[.string d, .int .i64 a] 52))
      have U2 := u2 (.cells #[.string d, .int .i64 a] 52)
      have hT2 := Blk.new wr 52 #[.string d, .int .i64 a]
      clear d0 d1 u2
      go_upto_region 6 with (fail)
      clear c0 c1 hu
      obtain ⟨Y, hY⟩ : ∃ Y, wr.heap.size = Y := ⟨_, rfl⟩
      rw [hY] at hT2 ⊢
      have d0 := D0.out
      have d1 := D1.out
      clear D0 D1
      generalize wr.alloc (.cells #[.string d, .int .i64 a] 52) = w2 at *
      clear hY
      have y0 := hT2.fst
      have y1 := hT2.snd
      have hdd : (d.toList == d.toList) = true := by simp
      go_quiet (fail)
      go_wp2
      go_roundw
      case rel => exact ⟨k + 1, by omega, by go_num, U2.drewN _⟩
      case measure => first | (simp [intOf]; done) | (simp [intOf]; omega)
    · have s1 : ¬ (k : Int) < (k : Int) := by omega
      go_wp2
      go_ret
      exact ⟨rfl, hu⟩

end Go.Proofs.YtnajekpckbfcdaaGreatDoor
