/-
  Decimal digits; Log2 of 10; bitLen.
-/
import Derived.Test.YtnajekpckbfcdaaGreatDoorM01
import Derived.Laws.Externs
import Derived.WalkLawsBesides
import Derived.Deep.Cut
import Derived.Test.YtnajekpckbfcdaaGreatDoorM03
import Derived.Laws.BitsAllLaws
import Derived.Lib.BitFns
set_option linter.unusedVariables false
set_option linter.unusedSimpArgs false
namespace Go.Proofs.YtnajekpckbfcdaaGreatDoor
open Go.RowKit

/-- The digit of n's last place. -/
def d10 (n : Nat) : UInt8 := UInt8.ofNat (48 + n % 10)
theorem d10_nat (n : Nat) : (d10 n).toNat = 48 + n % 10 := by
  unfold d10
  rw [UInt8.toNat_ofNat']
  omega
theorem d10_dg (n : Nat) : isDg (d10 n) = true := by rw [isDg_iff, d10_nat]; omega
/-- k decimal digits of n. -/
def pd : Nat → Nat → List UInt8
  | 0, _ => []
  | k + 1, n => pd k (n / 10) ++ [d10 n]
theorem pd_len : ∀ (k n : Nat), (pd k n).length = k
  | 0, _ => rfl
  | k + 1, n => by simp [pd, pd_len k]
theorem pd_dg : ∀ (k n : Nat), ∀ x ∈ pd k n, isDg x = true
  | 0, _, x, h => by simp [pd] at h
  | k + 1, n, x, h => by
    simp only [pd, List.mem_append, List.mem_singleton] at h
    rcases h with h | rfl
    · exact pd_dg k _ x h
    · exact d10_dg n
theorem pd_dv : ∀ (k n : Nat), dv (pd k n) = n % 10 ^ k
  | 0, n => by simp [pd, dv]; omega
  | k + 1, n => by
    rw [pd, dv_snoc, pd_dv k, d10_nat, Nat.pow_succ, Nat.mul_comm (10 ^ k) 10, Nat.mod_mul]
    omega
theorem pd_split : ∀ (a b n : Nat), pd (a + b) n = pd a (n / 10 ^ b) ++ pd b n
  | a, 0, n => by simp [pd]
  | a, b + 1, n => by
    show pd (a + b) (n / 10) ++ [d10 n] = pd a (n / 10 ^ (b + 1)) ++ (pd b (n / 10) ++ [d10 n])
    rw [pd_split a b (n / 10), Nat.div_div_eq_div_mul, Nat.pow_succ, Nat.mul_comm (10 ^ b) 10, List.append_assoc]
theorem pd_zero : ∀ k, pd k 0 = List.replicate k 48
  | 0 => rfl
  | k + 1 => by rw [pd, Nat.zero_div, pd_zero k, List.replicate_succ']; rfl
/-- The first of k + 1 digits. -/
theorem pd_cons (k n : Nat) : pd (k + 1) n = d10 (n / 10 ^ k) :: pd k n := by
  rw [Nat.add_comm, pd_split 1 k n]; rfl
/-- How many digits a number has. -/
def nd (n : Nat) : Nat := if h : n = 0 then 0 else nd (n / 10) + 1
decreasing_by exact Nat.div_lt_self (Nat.pos_of_ne_zero h) (by decide)
theorem nd_zero : nd 0 = 0 := by unfold nd; simp
theorem nd_pos (n : Nat) (h : n ≠ 0) : nd n = nd (n / 10) + 1 := by
  conv => lhs; unfold nd
  rw [dif_neg h]
theorem nd_lt (n : Nat) : n < 10 ^ nd n := by
  induction n using Nat.strongRecOn with
  | _ n ih =>
    by_cases h : n = 0
    · rw [h, nd_zero]; decide
    · have := ih (n / 10) (Nat.div_lt_self (Nat.pos_of_ne_zero h) (by decide))
      rw [nd_pos n h, Nat.pow_succ]
      omega
theorem nd_le : ∀ (k n : Nat), n < 10 ^ k → nd n ≤ k
  | 0, n, h => by
    have : n = 0 := by simpa using h
    rw [this, nd_zero]; exact Nat.le_refl _
  | k + 1, n, h => by
    by_cases h0 : n = 0
    · rw [h0, nd_zero]; omega
    · rw [nd_pos n h0]
      have := nd_le k (n / 10) (by rw [Nat.pow_succ] at h; omega)
      omega
/-- The first digit of a number that is not 0. -/
theorem nd_first (n : Nat) (h : n ≠ 0) : ∃ k, nd n = k + 1 ∧ n / 10 ^ k % 10 ≠ 0 ∧ 10 ^ k ≤ n := by
  induction n using Nat.strongRecOn with
  | _ n ih =>
    by_cases h1 : n / 10 = 0
    · refine ⟨0, ?_, ?_, ?_⟩
      · rw [nd_pos n h, h1, nd_zero]
      · simp; omega
      · simp; omega
    · obtain ⟨k, e1, e2, e3⟩ := ih (n / 10) (Nat.div_lt_self (Nat.pos_of_ne_zero h) (by decide)) h1
      refine ⟨k + 1, ?_, ?_, ?_⟩
      · rw [nd_pos n h, e1]
      · rw [Nat.pow_succ, Nat.mul_comm (10 ^ k) 10, ← Nat.div_div_eq_div_mul]; exact e2
      · rw [Nat.pow_succ]; omega
/-- What stands behind the zeros ahead. -/
theorem pd_strip (k n : Nat) (h : n < 10 ^ k) : pd k n = List.replicate (k - nd n) 48 ++ pd (nd n) n := by
  have hle := nd_le k n h
  have e : k = (k - nd n) + nd n := by omega
  conv => lhs; rw [e]
  rw [pd_split, Nat.div_eq_of_lt (nd_lt n), pd_zero]

end Go.Proofs.YtnajekpckbfcdaaGreatDoor

namespace Go.Proofs.YtnajekpckbfcdaaGreatDoor
open Go.RowKit

theorem e_bits (x : Nat) (w : World) : (callFunc 311 #[.float .f64 x]).run Tryz.prog w = .ok (.value (.int .u64 x)) w := by
  rw [run_callFunc_extern Tryz.func311 (by kernel_rfl) (by kernel_rfl) (by kernel_rfl) (e := Extern.MathFloatBits.float64bits) (by kernel_rfl)]
  rfl
theorem e_from (n : Nat) (w : World) : (callFunc 312 #[.int .u64 (n : Int)]).run Tryz.prog w = .ok (.value (.float .f64 n)) w := by
  rw [run_callFunc_extern Tryz.func312 (by kernel_rfl) (by kernel_rfl) (by kernel_rfl) (e := Extern.MathFloatBits.float64frombits) (by kernel_rfl)]
  rfl
theorem e_log (w : World) : (callFunc 300 #[.float .f64 4603804719079489536]).run Tryz.prog w = .ok (.value (.float .f64 13825510489450817230)) w := by
  rw [run_callFunc_extern Tryz.func300 (by kernel_rfl) (by kernel_rfl) (by kernel_rfl) (e := Extern.MathLog.archLog) (by kernel_rfl)]
  kernel_rfl

/-- What is asked of the bits of 10. -/
structure Ten (x y z u v r : Nat) : Prop where
  abs : bits .andNot .u64 (x : Int) 9223372036854775808 = (x : Int)
  inf : (FloatKind.f64.format.order x 9218868437227405311 == some Ordering.gt) = false
  nan : (FloatKind.f64.format.order x x != some Ordering.eq) = false
  zero : (FloatKind.f64.format.order x 0 == some Ordering.eq) = false
  norm : (FloatKind.f64.format.order x 4503599627370496 == some Ordering.lt) = false
  ex : bits BinOp.and IntKind.u64 ((x : Int) / 4503599627370496) 2047 = 1026
  man : bits BinOp.or IntKind.u64 (bits BinOp.andNot IntKind.u64 (x : Int) 9218868437227405312) 4602678819172646912 = (y : Int)
  half : (FloatKind.f64.format.order y 4602678819172646912 == some Ordering.eq) = false
  mul : ∀ w : World, (binOp .mul 275 (.float .f64 z) (.float .f64 4609176140021203710)).run Tryz.prog w = .ok (.float .f64 u) w
  four : floatOfInt .f64 4 = v
  add : ∀ w : World, (binOp .add 275 (.float .f64 u) (.float .f64 v)).run Tryz.prog w = .ok (.float .f64 r) w
  log : ∀ w : World, (callFunc 300 #[.float .f64 y]).run Tryz.prog w = .ok (.value (.float .f64 z)) w
theorem Abs_of {x y z u v r : Nat} (h : Ten x y z u v r) (w : World) : Calls Tryz.prog 315 #[.float .f64 x] w fun e w' => e = .returned (.float .f64 x) ∧ w' = w := by
  have h1 := e_bits x
  have h2 := e_from x
  have h3 := h.abs
  go_enter Tryz.func315, Tryz.ntmps315
  go_wp2
  go_ret
  exact ⟨rfl, rfl⟩
theorem IsInf_of {x y z u v r : Nat} (h : Ten x y z u v r) (w : World) : Calls Tryz.prog 308 #[.float .f64 x, .int .i64 0] w fun e w' => e = .returned (.bool false) ∧ w' = w := by
  have HA := hide (fun w => Abs_of h w)
  go_enter Tryz.func308, Tryz.ntmps308
  go_wp2_with fail
  refine (HA.out _).mono ?_
  rintro e w2 ⟨rfl, rfl⟩
  have h2 := h.inf
  go_wp2
  go_ret
  exact ⟨by first | rfl | rw [h2], rfl⟩
theorem IsNaN_of {x y z u v r : Nat} (h : Ten x y z u v r) (w : World) : Calls Tryz.prog 309 #[.float .f64 x] w fun e w' => e = .returned (.bool false) ∧ w' = w := by
  have h2 := h.nan
  go_enter Tryz.func309, Tryz.ntmps309
  go_wp2
  go_ret
  exact ⟨by first | rfl | (simp only [h2]; done) | (rw [h2]; rfl), rfl⟩
theorem normalize_of {x y z u v r : Nat} (h : Ten x y z u v r) (w : World) : Calls Tryz.prog 310 #[.float .f64 x] w fun e w' => e = .returned (.tuple #[.float .f64 x, .int .i64 0]) ∧ w' = w := by
  have HA := hide (fun w => Abs_of h w)
  have h2 := h.norm
  go_enter Tryz.func310, Tryz.ntmps310
  go_wp2_with fail
  refine (HA.out _).mono ?_
  rintro e w2 ⟨rfl, rfl⟩
  go_wp2
  go_ret2
  exact ⟨rfl, rfl⟩
set_option maxRecDepth 100000 in
theorem frexp_of {x y z u v r : Nat} (h : Ten x y z u v r) (w : World) : Calls Tryz.prog 299 #[.float .f64 x] w fun e w' => e = .returned (.tuple #[.float .f64 y, .int .i64 4]) ∧ w' = w := by
  have HI := hide (fun w => IsInf_of h w)
  have HN := hide (fun w => IsNaN_of h w)
  have HM := hide (fun w => normalize_of h w)
  have h1 := e_bits x
  have h2 := h.zero
  go_enter Tryz.func299, Tryz.ntmps299
  go_wp2_with fail
  refine (HI.out _).mono ?_
  rintro e w2 ⟨rfl, rfl⟩
  go_wp2_with fail
  refine (HN.out _).mono ?_
  rintro e w3 ⟨rfl, rfl⟩
  go_wp2_with fail
  refine (HM.out _).mono ?_
  rintro e w4 ⟨rfl, rfl⟩
  have h3 := h.ex
  have h4 := h.man
  have h5 := e_from y
  have k1 : wrap64 1026 = 1026 := by unfold wrap64; omega
  have k2 : wrap64 (1026 - 1023) = 3 := by unfold wrap64; omega
  have k3 : wrap64 (3 + 1) = 4 := by unfold wrap64; omega
  have k4 : wrap64 4 = 4 := by unfold wrap64; omega
  go_wp2
  go_ret2
  exact ⟨rfl, rfl⟩
theorem Frexp_of {x y z u v r : Nat} (h : Ten x y z u v r) (w : World) : Calls Tryz.prog 287 #[.float .f64 x] w fun e w' => e = .returned (.tuple #[.float .f64 y, .int .i64 4]) ∧ w' = w := by
  have HF := hide (fun w => frexp_of h w)
  go_enter Tryz.func287, Tryz.ntmps287
  go_wp2_with fail
  refine (HF.out _).mono ?_
  rintro e w2 ⟨rfl, rfl⟩
  go_wp2
  go_ret2
  exact ⟨rfl, rfl⟩
theorem Log_of {x y z u v r : Nat} (h : Ten x y z u v r) (w : World) : Calls Tryz.prog 288 #[.float .f64 y] w fun e w' => e = .returned (.float .f64 z) ∧ w' = w := by
  have h1 := h.log
  go_enter Tryz.func288, Tryz.ntmps288
  go_wp2
  go_ret
  exact ⟨rfl, rfl⟩
theorem log2_of {x y z u v r : Nat} (h : Ten x y z u v r) (w : World) : Calls Tryz.prog 269 #[.float .f64 x] w fun e w' => e = .returned (.float .f64 r) ∧ w' = w := by
  have HF := hide (fun w => Frexp_of h w)
  have HL := hide (fun w => Log_of h w)
  have h2 := h.half
  have h3 := h.mul
  have h4 := h.four
  have h5 := h.add
  go_enter Tryz.func269, Tryz.ntmps269
  go_wp2_with fail
  refine (HF.out _).mono ?_
  rintro e w2 ⟨rfl, rfl⟩
  go_wp2_with fail
  refine (HL.out _).mono ?_
  rintro e w3 ⟨rfl, rfl⟩
  go_wp2
  go_ret
  exact ⟨rfl, rfl⟩
theorem Log2_of {x y z u v r : Nat} (h : Ten x y z u v r) (w : World) : Calls Tryz.prog 242 #[.float .f64 x] w fun e w' => e = .returned (.float .f64 r) ∧ w' = w := by
  have HF := hide (fun w => log2_of h w)
  go_enter Tryz.func242, Tryz.ntmps242
  go_wp2_with fail
  refine (HF.out _).mono ?_
  rintro e w2 ⟨rfl, rfl⟩
  go_wp2
  go_ret
  exact ⟨rfl, rfl⟩
theorem ten : Ten 4621819117588971520 4603804719079489536 13825510489450817230 13827654785158443579 4616189618054758400 4614662735865160561 where
  abs := by kernel_rfl
  inf := by kernel_rfl
  nan := by kernel_rfl
  zero := by kernel_rfl
  norm := by kernel_rfl
  ex := by kernel_rfl
  man := by kernel_rfl
  half := by kernel_rfl
  mul := fun w => run_float_arith w .mul 275 .f64 _ _ _ (by kernel_rfl)
  four := by kernel_rfl
  add := fun w => run_float_arith w .add 275 .f64 _ _ _ (by kernel_rfl)
  log := e_log
/-- math.Log2(10). -/
theorem Log2_242 (w : World) : Calls Tryz.prog 242 #[.float .f64 4621819117588971520] w fun e w' => e = .returned (.float .f64 4614662735865160561) ∧ w' = w := Log2_of ten w

/-- The buffer's size for a number of b bits is enough for its digits. -/
def okB (b : Nat) : Bool :=
  match FloatKind.f64.format.div (floatOfInt .f64 (b : Int)) 4614662735865160561 with
  | some q => match floatToIntVal .f64 q .i64 with
    | some k => decide (0 ≤ k) && decide (k ≤ 100) && decide (2 ^ b ≤ 10 ^ (k.toNat + 1))
    | none => false
  | none => false
theorem okB_all : ((List.range 129).all okB) = true := by kernel_rfl
theorem size_of (b : Nat) (hb : b ≤ 128) : ∃ (q : Nat) (k : Nat), FloatKind.f64.format.div (floatOfInt .f64 (b : Int)) 4614662735865160561 = some q ∧ floatToIntVal .f64 q .i64 = some (k : Int) ∧ k ≤ 100 ∧ 2 ^ b ≤ 10 ^ (k + 1) := by
  have h := List.all_eq_true.1 okB_all b (List.mem_range.2 (by omega))
  unfold okB at h
  split at h
  · rename_i q hq
    split at h
    · rename_i k hk
      simp only [Bool.and_eq_true, decide_eq_true_eq] at h
      refine ⟨q, k.toNat, hq, ?_, by omega, h.2⟩
      rw [hk]
      congr 1
      omega
    · cases h
  · cases h

end Go.Proofs.YtnajekpckbfcdaaGreatDoor

namespace Go.Proofs.YtnajekpckbfcdaaGreatDoor
open Go.RowKit

theorem bitLen_lt (x : Nat) (hx : x < 2 ^ 64) : x < 2 ^ Lib.bitLen x := by
  induction x using Nat.strongRecOn with
  | _ x ih =>
    by_cases h : x = 0
    · rw [h]; exact Nat.pow_pos (by decide)
    · rw [Lib.bitLen_half x h hx]
      have := ih (x / 2) (by omega) (by omega)
      rw [Nat.pow_add]
      omega
theorem or_step (a s : Nat) (h : a < 18446744073709551616) : ∃ a' : Nat, bits .or .u64 (a : Int) ((a : Int) / (s : Int)) = (a' : Int) ∧ a ≤ a' ∧ a' < 18446744073709551616 := by
  have hd : a / s < 18446744073709551616 := Nat.lt_of_le_of_lt (Nat.div_le_self _ _) h
  refine ⟨a ||| (a / s), ?_, Nat.left_le_or, ?_⟩
  · have e : ((a : Int) / (s : Int)) = ((a / s : Nat) : Int) := by simp
    rw [e, u64_or_nat _ _ h hd]
  · exact Nat.or_lt_two_pow (n := 64) h hd
theorem val_top (ws : List Nat) (L : Nat) (hL : ws.length = L + 1) (hd : ∀ d ∈ ws, d < 18446744073709551616) (b : Nat) (hb : ws.getD L 0 < 2 ^ b) : val ws < 2 ^ (64 * L + b) := by
  rcases List.eq_nil_or_concat ws with rfl | ⟨a, t, rfl⟩
  · simp at hL
  · rw [List.concat_eq_append] at *
    have hal : a.length = L := by simpa using hL
    have ht : (a ++ [t]).getD L 0 = t := by simp [List.getD, hal]
    rw [ht] at hb
    have h1 := val_lt a (fun d hda => hd d (List.mem_append_left _ hda))
    rw [hal] at h1
    rw [val_snoc, hal, Nat.pow_add, Nat.pow_mul]
    have e : (2 ^ 64 : Nat) = 18446744073709551616 := by decide
    rw [e]
    have h2 : 18446744073709551616 ^ L * (t + 1) ≤ 18446744073709551616 ^ L * 2 ^ b := Nat.mul_le_mul_left _ hb
    rw [Nat.mul_add, Nat.mul_one] at h2
    omega

set_option maxRecDepth 20000 in
set_option maxHeartbeats 2000000 in
theorem bitLen_241 (w : World) (A : Option Addr) (L C n : Nat) (h : NatS w A (L + 1) C (wo n)) (hL : L ≤ 100) :
    Calls Tryz.prog 241 #[.slice A (L + 1) C] w fun e w' => ∃ b : Nat, e = .returned (.int .i64 b) ∧ n < 2 ^ b ∧ b ≤ 64 * (L + 1) ∧ w' = w := by
  obtain ⟨bb, cs, rfl, hb, hcs, hw⟩ := h.row (by have := h.2.2.1; omega)
  have hc := h.cells L (by omega)
  have hlen : (wo n).length = L + 1 := h.1
  have hwd := wo_lt n
  have htop := val_top (wo n) L hlen hwd
  rw [val_wo] at htop
  have ht : (wo n).getD L 0 < 18446744073709551616 := by
    have : (wo n).getD L 0 ∈ wo n := by simp [List.getD, List.getElem?_eq_getElem (show L < (wo n).length by omega)]
    exact hwd _ this
  have HTOP := hide htop
  clear h hb hcs hw hlen hwd htop
  generalize (wo n).getD L 0 = t at *
  obtain ⟨t1, o1, l1, g1⟩ := or_step t 2 ht
  obtain ⟨t2, o2, l2, g2⟩ := or_step t1 4 g1
  obtain ⟨t3, o3, l3, g3⟩ := or_step t2 16 g2
  obtain ⟨t4, o4, l4, g4⟩ := or_step t3 256 g3
  obtain ⟨t5, o5, l5, g5⟩ := or_step t4 65536 g4
  obtain ⟨t6, o6, l6, g6⟩ := or_step t5 4294967296 g5
  have e5 : (t5 : Int) / 65536 / 65536 = (t5 : Int) / ((4294967296 : Nat) : Int) := by omega
  rw [← e5] at o6
  have p1 : bits .or .u64 (t : Int) ((t : Int) / 2) = (t1 : Int) := o1
  have p2 : bits .or .u64 (t1 : Int) ((t1 : Int) / 4) = (t2 : Int) := o2
  have p3 : bits .or .u64 (t2 : Int) ((t2 : Int) / 16) = (t3 : Int) := o3
  have p4 : bits .or .u64 (t3 : Int) ((t3 : Int) / 256) = (t4 : Int) := o4
  have p5 : bits .or .u64 (t4 : Int) ((t4 : Int) / 65536) = (t5 : Int) := o5
  have P1 := hide p1
  have P2 := hide p2
  have P3 := hide p3
  have P4 := hide p4
  have P5 := hide p5
  have P6 := hide o6
  clear o1 o2 o3 o4 o5 o6 p1 p2 p3 p4 p5 e5
  have HB := hide (fun w => Tryz.bits_Len (t6 : Int) w (by omega) (by omega))
  have hb1 := bitLen_lt t6 g6
  have hb2 : Lib.bitLen t6 ≤ 64 := Lib.bitLen_le t6 64 (by omega) (by omega)
  have hm : t < 2 ^ Lib.bitLen t6 := by omega
  have HFIN := hide (HTOP.out _ hm)
  simp only [Int.toNat_natCast] at HB
  generalize Lib.bitLen t6 = bl at *
  go_enter Tryz.func241, Tryz.ntmps241
  go_upto_region 5 with (fail)
  rw [P1.out]
  go_upto_region 6 with (fail)
  rw [P2.out]
  go_upto_region 7 with (fail)
  rw [P3.out]
  go_upto_region 8 with (fail)
  rw [P4.out]
  go_upto_region 9 with (fail)
  rw [P5.out]
  go_upto_region 10 with (fail)
  rw [P6.out]
  go_wp2_with fail
  refine (HB.out _).mono ?_
  rintro e w2 ⟨rfl, rfl⟩
  go_wp2
  go_ret
  refine ⟨64 * L + bl, ?_, HFIN.out, by omega, rfl⟩
  refine ret_int ?_
  omega

end Go.Proofs.YtnajekpckbfcdaaGreatDoor
