/-
  nat.itoa; Append, MarshalText.
-/
import Derived.Test.YtnajekpckbfcdaaGreatDoorO1
import Derived.Test.YtnajekpckbfcdaaGreatDoorM05
import Derived.Deep.Cut
import Derived.Test.YtnajekpckbfcdaaGreatDoorM09
import Derived.Test.YtnajekpckbfcdaaGreatDoorM15
import Derived.Test.YtnajekpckbfcdaaGreatDoorN4
set_option linter.unusedVariables false
set_option linter.unusedSimpArgs false
namespace Go.Proofs.YtnajekpckbfcdaaGreatDoor
open Go.RowKit

/-- Bytes as cells. -/
def bcells (l : List UInt8) : Array Value := (l.map fun c => Value.int .u8 (c.toNat : Nat)).toArray
theorem bcells_size (l : List UInt8) : (bcells l).size = l.length := by simp [bcells]
theorem bcells_set (l : List UInt8) (i : Nat) (c : UInt8) : (bcells l).setIfInBounds i (.int .u8 (c.toNat : Nat)) = bcells (l.set i c) := by
  apply Array.ext'
  simp [bcells, List.map_set]
theorem bcells_get (l : List UInt8) (i : Nat) (h : i < l.length) : (bcells l)[i]? = some (.int .u8 (l[i].toNat : Nat)) := by simp [bcells, h]
/-- p digits of n at the end of I bytes. -/
def buf (I p n : Nat) : List UInt8 := List.replicate (I - p) 0 ++ pd p n
theorem buf_len (I p n : Nat) (h : p ≤ I) : (buf I p n).length = I := by unfold buf; rw [List.length_append, List.length_replicate, pd_len]; omega
theorem buf_zero (I n : Nat) : buf I 0 n = List.replicate I 0 := by simp [buf, pd]
theorem buf_put (I p n : Nat) (h : p < I) : (buf I p n).set (I - p - 1) (d10 (n / 10 ^ p)) = buf I (p + 1) n := by
  unfold buf
  obtain ⟨k, hk⟩ : ∃ k, I - p = k + 1 := ⟨I - p - 1, by omega⟩
  rw [hk, show I - (p + 1) = k by omega, pd_cons, List.replicate_succ', List.append_assoc, Nat.add_sub_cancel, List.set_append_right _ _ (by simp)]
  simp
/-- .. and zeros ahead of them. -/
def bufz (I i p n : Nat) : List UInt8 := List.replicate i 0 ++ (List.replicate (I - p - i) 48 ++ pd p n)
theorem bufz_start (I p n : Nat) : bufz I (I - p) p n = buf I p n := by unfold bufz buf; rw [Nat.sub_self]; rfl
theorem bufz_put (I i p n : Nat) (h : i + 1 ≤ I - p) : (bufz I (i + 1) p n).set i 48 = bufz I i p n := by
  unfold bufz
  rw [List.replicate_succ', List.append_assoc, List.set_append_right _ _ (by simp)]
  have e : I - p - i = (I - p - (i + 1)) + 1 := by omega
  rw [e, List.replicate_succ]
  simp
theorem bufz_end (I p n : Nat) (h : n < 10 ^ p) (hp : p ≤ I) : bufz I 0 p n = pd I n := by
  unfold bufz
  have e : I = (I - p) + p := by omega
  conv => rhs; rw [e]
  rw [pd_split, Nat.div_eq_of_lt h, pd_zero]
  rfl
theorem d10_in (n m k : Nat) (hk : k < 19) : d10 (n / 10 ^ m % 10000000000000000000 / 10 ^ k) = d10 (n / 10 ^ (m + k)) := by
  unfold d10
  have h1 : (10000000000000000000 : Nat) = 10 ^ k * (10 * 10 ^ (18 - k)) := by
    rw [show (10000000000000000000 : Nat) = 10 ^ 19 by decide, ← Nat.pow_succ', ← Nat.pow_add]
    congr 1
    omega
  rw [h1, Nat.mod_mul_right_div_self, Nat.mod_mul_right_mod, Nat.div_div_eq_div_mul, ← Nat.pow_add]

set_option maxRecDepth 20000 in
set_option maxHeartbeats 4000000 in
theorem convertWords_246 (w : World) (Q : Option Addr) (L C n g I : Nat) (stk : Value) (hQ : NatS w Q L C (wo n)) (hs : Blk w g 5 (bcells (List.replicate I 0))) (hI : I ≤ 200) (hn : n < 10 ^ I) (hL : L ≤ 1000) :
    Calls Tryz.prog 246 #[.slice Q L C, stk, .slice (some ⟨g, 0, none⟩) I I, .int .u64 10, .int .i64 19, .int .u64 10000000000000000000, .slice none 0 0] w
      fun e w' => e = .returned (.tuple #[]) ∧ Blk w' g 5 (bcells (pd I n)) ∧ Upd (g :: bof Q) w w' := by
  have hg := hs.lt
  go_enter Tryz.func246, Tryz.ntmps246
  have HN := hide hn
  have h0 : buf I 0 n = List.replicate I 0 := buf_zero I n
  rw [← h0] at hs
  clear h0 hn
  go_upto_region 19 with (fail)
  go_loopw [0, 19, 20] (fun q i r wr => ∃ (m p : Nat) (A' : Option Addr) (L' C' : Nat), q = .slice A' L' C' ∧ NatS wr A' L' C' (wo (n / 10 ^ m)) ∧ Hid (m = p ∨ (p = I ∧ I ≤ m)) ∧ p ≤ I ∧ i = .int .i64 ((I - p : Nat) : Int) ∧ (∃ r0 : Nat, r = .int .u64 r0) ∧ Blk wr g 5 (bcells (buf I p n)) ∧ Upd (g :: bof Q) w wr ∧ L' ≤ 1000 ∧ (∀ b ∈ bof A', b ∈ bof Q ∨ w.heap.size ≤ b))
    (fun _ i _ _ => (intOf i).toNat)
  case atStart => exact ⟨0, 0, Q, L, C, rfl, by simpa using hQ, .inl rfl, Nat.zero_le _, by rw [Nat.sub_zero], ⟨0, rfl⟩, hs, Upd.refl _ _, hL, fun b hb => .inl hb⟩
  case round =>
    obtain ⟨m, p, A', L', C', rfl, hQ', hmp, hpI, rfl, ⟨r0, rfl⟩, hb, hu, hL', hA'⟩ := hrel
    rcases Nat.eq_zero_or_pos L' with rfl | hLp
    · have hz : n / 10 ^ m = 0 := by
        rcases Nat.eq_zero_or_pos (n / 10 ^ m) with h | h
        · exact h
        · have h1 := wo_len_pos (by omega : n / 10 ^ m ≠ 0)
          rw [hQ'.1] at h1; omega
      have hlt : n < 10 ^ m := by
        rcases Nat.lt_or_ge n (10 ^ m) with h | h
        · exact h
        · have := Nat.div_pos h (Nat.pow_pos (by decide)); omega
      have hfin : n < 10 ^ p := by
        rcases hmp.out with h | ⟨h, _⟩
        · rw [← h]; exact hlt
        · rw [h]; exact HN.out
      have HE := hide (bufz_end I p n hfin hpI)
      have HP := hide (fun i h => bufz_put I i p n h)
      rw [← bufz_start I p n] at hb
      obtain ⟨J, hJ⟩ : ∃ J, I - p = J := ⟨_, rfl⟩
      rw [hJ] at hb HP ⊢
      clear hQ' hQ hs hlt hfin hz hmp hA' HN
      have hJI : J ≤ I := by omega
      clear hJ hpI
      obtain ⟨wo_, rfl⟩ : ∃ wo_ : World, wo_ = wr := ⟨_, rfl⟩
      go_upto_region 36 with (fail)
      go_loopw [19] (fun i wr => ∃ k : Nat, k ≤ J ∧ i = .int .i64 k ∧ Blk wr g 5 (bcells (bufz I k p n)) ∧ Upd (g :: bof Q) w wr) (fun i _ => (intOf i).toNat)
      case atStart => exact ⟨J, Nat.le_refl _, rfl, hb, hu⟩
      case round =>
        clear hb hu
        obtain ⟨k, hk, rfl, hb, hu⟩ := hrel
        rcases k with _ | k
        · rw [HE.out] at hb
          go_wp2
          go_end0
          exact ⟨rfl, hb, hu⟩
        · have hput := hb.set_ k (.int .u8 ((48 : UInt8).toNat : Nat))
          rw [bcells_set, HP.out k hk] at hput
          have hput' : Blk (wr.setCell ⟨g, k, none⟩ (.int .u8 48)) g 5 (bcells (bufz I k p n)) := hput
          have f0 := hb.frozen k
          have hsz : k < (bcells (bufz I (k + 1) p n)).size := by rw [bcells_size]; unfold bufz; simp; omega
          have c0 := hb.at_ (i := k) (v := (bcells (bufz I (k + 1) p n))[k]) (by rw [Array.getElem?_eq_getElem hsz])
          have hu2 := hu.setCell (p := ⟨g, k, none⟩) (by simp) (.int .u8 48)
          have HP2 := hide hput'
          clear hput hput' hb
          generalize (bcells (bufz I (k + 1) p n))[k] = old at c0
          go_wp2
          go_roundw
          case rel => exact ⟨k, by omega, by go_num, HP2.out, hu2⟩
          case measure => first | (simp [intOf]; done) | (simp [intOf]; omega)
    · have hpos : n / 10 ^ m ≠ 0 := by
        intro h
        rw [h, wo_zero] at hQ'
        have := hQ'.1
        simp at this; omega
      have hmI : m < I := by
        rcases Nat.lt_or_ge m I with h | h
        · exact h
        · exact absurd (Nat.div_eq_of_lt (Nat.lt_of_lt_of_le HN.out (Nat.pow_le_pow_right (by decide) h))) hpos
      have hmp' : m = p := by
        rcases hmp.out with h | ⟨_, h⟩
        · exact h
        · omega
      subst hmp'
      have hd := divW_19 wr A' A' L' C' L' C' (n / 10 ^ m) (wo (n / 10 ^ m)) hQ' hQ' hL'
      have HD := hide hd
      have hgA : g ∉ bof A' := fun h => by
        obtain ⟨h1, h2, h3, h4, h5⟩ := hQ'
        rcases h5 with ⟨rfl, _⟩ | ⟨b, cs', rfl, hb', _⟩
        · simp [bof] at h
        · simp only [bof, List.mem_singleton] at h
          exact hb.ne_ hb' (by decide) h
      obtain ⟨J, hJ⟩ : ∃ J, I - m = J := ⟨_, rfl⟩
      have HJ := hide hJ
      have hJp : 0 < J := by omega
      rw [hJ]
      have hlen : ∀ x, x ≤ n → (wo x).length ≤ 11 := fun x hx => wo_len_le (Nat.lt_of_le_of_lt hx (Nat.lt_of_lt_of_le HN.out (Nat.le_trans (Nat.pow_le_pow_right (by decide) hI) (by decide))))
      have HLEN := hide hlen
      obtain ⟨R, hR⟩ : ∃ R, n / 10 ^ m % 10000000000000000000 = R := ⟨_, rfl⟩
      have hRlt : R < 10000000000000000000 := by omega
      rw [hR] at HD
      have hdig : ∀ k, k < 19 → d10 (R / 10 ^ k) = d10 (n / 10 ^ (m + k)) := fun k hk => by rw [← hR]; exact d10_in n m k hk
      have HDIG := hide hdig
      have hA'' := hide hA'
      clear hd hQ' hmp hpos hJ hlen hR hdig hA' hpI hmI
      go_wp2_with fail
      refine HD.out.mono ?_
      rintro e w2 ⟨A2, L2, C2, rfl, hS, hu2, hA2⟩
      have hb2 := hb.upd hu2 hgA
      have u2 : Upd (g :: bof Q) w w2 := hu.trans hu2 (fun k hk hlt => by
        rcases hA''.out k hk with h | h
        · exact List.mem_cons_of_mem _ h
        · omega)
      have hgA2 : g ∉ bof A2 := fun h => by
        obtain ⟨h1, h2, h3, h4, h5⟩ := hS
        rcases h5 with ⟨rfl, _⟩ | ⟨b, cs', rfl, hb', _⟩
        · simp [bof] at h
        · simp only [bof, List.mem_singleton] at h
          exact hb2.ne_ hb' (by decide) h
      have hs2 := hu.size
      have HA2 := hide (fun b hb => (by
        rcases hA2 b hb with h | h
        · exact hA''.out b h
        · exact .inr (Nat.le_trans hs2 h)) : ∀ b ∈ bof A2, b ∈ bof Q ∨ w.heap.size ≤ b)
      have HS := hide hS
      clear HD hb hu hu2 hA2 hA'' hS hgA
      obtain ⟨wo_, rfl⟩ : ∃ wo_ : World, wo_ = wr := ⟨_, rfl⟩
      go_upto_region 22 with (fail)
      go_loopw [19, 20, 21] (fun i r j wr => ∃ k : Nat, k ≤ 19 ∧ k ≤ J ∧ i = .int .i64 ((J - k : Nat) : Int) ∧ r = .int .u64 ((R / 10 ^ k : Nat) : Int) ∧ j = .int .i64 k ∧ Blk wr g 5 (bcells (buf I (m + k) n)) ∧ Upd [g] w2 wr) (fun _ _ j _ => 19 - (intOf j).toNat)
      case atStart => exact ⟨0, by omega, by omega, by rw [Nat.sub_zero], by simp, rfl, hb2, Upd.refl _ _⟩
      case round =>
        clear hb2
        obtain ⟨k, hk, hkJ, rfl, rfl, rfl, hb, hui⟩ := hrel
        rcases (by omega : (k < 19 ∧ k < J) ∨ (k = 19 ∨ k = J)) with ⟨hk1, hk2⟩ | hend
        · obtain ⟨q, hq⟩ : ∃ q, J - k = q + 1 := ⟨J - k - 1, by omega⟩
          obtain ⟨t, ht⟩ : ∃ t, R / 10 ^ (k + 1) = t := ⟨_, rfl⟩
          obtain ⟨d, hd⟩ : ∃ d, R / 10 ^ k % 10 = d := ⟨_, rfl⟩
          have hd9 : d < 10 := by omega
          have hr : R / 10 ^ k = t * 10 + d := by
            have e : R / 10 ^ (k + 1) = R / 10 ^ k / 10 := by rw [Nat.pow_succ, Nat.div_div_eq_div_mul]
            omega
          have hrlt : t * 10 + d < 10000000000000000000 := by
            rw [← hr]
            exact Nat.lt_of_le_of_lt (Nat.div_le_self _ _) hRlt
          have hpi : m + k < I := by have := HJ.out; omega
          have hput := hb.set_ q (.int .u8 ((d10 (n / 10 ^ (m + k))).toNat : Nat))
          have eq1 : q = I - (m + k) - 1 := by have := HJ.out; omega
          rw [bcells_set] at hput
          have hbs : (buf I (m + k) n).set q (d10 (n / 10 ^ (m + k))) = buf I (m + (k + 1)) n := by
            have := buf_put I (m + k) n hpi
            rw [← eq1] at this
            exact this
          rw [hbs, ← HDIG.out k hk1, d10_nat, hd] at hput
          have hput' : Hid (Blk (wr.setCell ⟨g, q, none⟩ (.int .u8 (48 + (d : Int)))) g 5 (bcells (buf I (m + (k + 1)) n))) := by
            have e : ((48 + d : Nat) : Int) = 48 + (d : Int) := by omega
            rw [e] at hput
            exact hput
          have f0 := hb.frozen q
          have hsz : q < (bcells (buf I (m + k) n)).size := by rw [bcells_size, buf_len _ _ _ (by omega)]; omega
          have c0 := hb.at_ (i := q) (v := (bcells (buf I (m + k) n))[q]) (by rw [Array.getElem?_eq_getElem hsz])
          have hu3 := hui.setCell (p := ⟨g, q, none⟩) (by simp) (.int .u8 (48 + (d : Int)))
          have hqI : q < I := by omega
          have HK := hide (show R / 10 ^ (k + 1) = t from ht)
          have HQ' := hide (show J - (k + 1) = q by omega)
          rw [hq, hr]
          generalize (bcells (buf I (m + k) n))[q] = old at c0
          have q1 : ((t * 10 + d : Nat) : Int) / 10 = (t : Int) := by omega
          have q2 : ((t * 10 + d : Nat) : Int) - (t : Int) * 10 = (d : Int) := by omega
          have s1 : (k : Int) < 19 := by omega
          clear ht hd hr hput hb hq eq1 hbs hsz hpi hui
          go_upto_region 26 with (fail)
          rw [show ((t : Int) * 10 + (d : Int)) / 10 = (t : Int) by omega]
          clear q1
          go_upto_region 27 with (fail)
          rw [show (t : Int) * 10 + (d : Int) - (t : Int) * 10 = (d : Int) by omega]
          go_wp2
          go_roundw
          case rel => exact ⟨k + 1, by omega, by omega, by rw [HQ'.out], by rw [HK.out], by go_num, hput'.out, hu3⟩
          case measure => first | (simp [intOf]; done) | (simp [intOf]; omega)
        · have hge : (k : Int) = 19 ∨ ((k : Int) < 19 ∧ J - k = 0) := by omega
          have hkJ1 : 1 ≤ k := by omega
          have hS3 := HS.out.upd hui (by
            intro b hb' hm
            simp at hm
            subst hm
            exact hgA2 hb')
          have u3 : Upd (g :: bof Q) w wr := u2.trans hui (fun x hx _ => by simp at hx; subst hx; simp)
          have hdd : n / 10 ^ m / 10000000000000000000 = n / 10 ^ (m + 19) := by
            rw [Nat.div_div_eq_div_mul, Nat.pow_add]
          rw [hdd] at hS3
          have hL2 : L2 ≤ 1000 := by
            have h1 := hS3.1
            have h2 := HLEN.out (n / 10 ^ (m + 19)) (Nat.div_le_self _ _)
            omega
          have hmp2 : Hid (m + 19 = m + k ∨ (m + k = I ∧ I ≤ m + 19)) := by
            have := HJ.out
            show _ ∨ _
            omega
          have hIk : I - (m + k) = J - k := by have := HJ.out; omega
          have HIK := hide hIk
          have hpk : m + k ≤ I := by have := HJ.out; omega
          have HREL := hide (⟨hS3, hb, u3⟩ : NatS wr A2 L2 C2 (wo (n / 10 ^ (m + 19))) ∧ Blk wr g 5 (bcells (buf I (m + k) n)) ∧ Upd (g :: bof Q) w wr)
          clear hS3 hb u3 hdd hui u2 hgA2 HS hIk
          obtain ⟨r1, hr1⟩ : ∃ r1, R / 10 ^ k = r1 := ⟨_, rfl⟩
          rw [hr1]
          clear hr1
          rcases hge with h19 | ⟨hk19, hJ0⟩
          · have s1 : ¬ (k : Int) < 19 := by omega
            go_wp2
            go_roundw
            case rel => exact ⟨m + 19, m + k, A2, L2, C2, rfl, HREL.out.1, hmp2, hpk, by rw [HIK.out], ⟨_, rfl⟩, HREL.out.2.1, HREL.out.2.2, hL2, HA2.out⟩
            case measure => first | (simp [intOf]; done) | (simp [intOf]; omega)
          · rw [hJ0]
            rw [hJ0] at HIK
            go_wp2
            go_roundw
            case rel => exact ⟨m + 19, m + k, A2, L2, C2, rfl, HREL.out.1, hmp2, hpk, by first | (rw [HIK.out]; done) | (rw [HIK.out]; rfl), ⟨_, rfl⟩, HREL.out.2.1, HREL.out.2.2, hL2, HA2.out⟩
            case measure => first | (simp [intOf]; done) | (simp [intOf]; omega)

end Go.Proofs.YtnajekpckbfcdaaGreatDoor

namespace Go.Proofs.YtnajekpckbfcdaaGreatDoor
open Go.RowKit

/-- The variable leafSize holds 8. -/
def Leaf (w : World) : Prop := w.cell? ⟨12, 0, none⟩ = some (.int .i64 8)
theorem divisors_245 (w : World) (h : Leaf w) (stk : Value) (m : Nat) (hm : m ≤ 8) (b : Value) (k : Value) (bb : Value) :
    Calls Tryz.prog 245 #[stk, .int .i64 m, b, k, bb] w fun e w' => e = .returned (.slice none 0 0) ∧ w' = w := by
  have c := h
  unfold Leaf at c
  have s1 : (m : Int) ≤ 8 := by omega
  go_enter Tryz.func245, Tryz.ntmps245
  go_wp2
  go_ret
  exact ⟨rfl, rfl⟩

theorem info5 : (Tryz.prog.info? 5).map (fun i => (i.zero, i.size, i.bytes)) = some (some (.int .u8 0), 1, 1) := by kernel_rfl
theorem made_bytes (n : Nat) : madeCells #[.int .u8 0] n = bcells (List.replicate n 0) := by
  apply Array.ext'
  have e : (fun x : Nat => ([Value.int IntKind.u8 0][x % 1]?).getD default) = fun _ => Value.int .u8 0 := by
    funext x
    simp [Nat.mod_one]
  simp [madeCells, bcells, e, List.map_const']

set_option maxRecDepth 100000 in
set_option maxHeartbeats 8000000 in
theorem itoa_207 (w : World) (X : Option Addr) (L C n : Nat) (hX : NatS w X (L + 1) C (wo n)) (hL : L ≤ 1) (hl : Leaf w) :
    Calls Tryz.prog 207 #[.slice X (L + 1) C, .bool false, .int .i64 10] w
      fun e w' => ∃ g i I : Nat, e = .returned (.slice (some ⟨g, i, none⟩) (nd n) (nd n)) ∧ I = i + nd n ∧ Blk w' g 5 (bcells (pd I n)) ∧ Upd [] w w' ∧ w.heap.size ≤ g := by
  have hBL := bitLen_241 w X L C n hX (by omega)
  have HBL := hide hBL
  go_enter_defers Tryz.func207, Tryz.ntmps207
  go_wp2_with fail
  refine HBL.out.mono ?_
  rintro e w2 ⟨b, rfl, hnb, hb, rfl⟩
  obtain ⟨q, k, hq, hk, hk100, hkb⟩ := size_of b (by omega)
  have hdiv : ∀ w : World, (binOp .quo 275 (.float .f64 (floatOfInt .f64 (b : Int))) (.float .f64 4614662735865160561)).run Tryz.prog w = .ok (.float .f64 q) w := fun w => run_float_arith w .quo 275 .f64 _ _ _ hq
  have h10 : floatOfInt .f64 10 = 4621819117588971520 := by kernel_rfl
  go_wp2_with fail
  refine (Log2_242 _).mono ?_
  rintro e w3 ⟨rfl, rfl⟩
  have hcv : ∀ w : World, (convert 275 3 (.float .f64 q)).run Tryz.prog w = .ok (.int .i64 (k : Int)) w := fun w => run_convert_float_int w 275 3 .f64 .i64 q k (by kernel_rfl) Tryz.underlying3 hk
  go_upto_region 6 with (fail)
  have e1 : (k : Int) + 1 = ((k + 1 : Nat) : Int) := by omega
  rw [e1]
  obtain ⟨I, hI⟩ : ∃ I, k + 1 = I := ⟨_, rfl⟩
  rw [hI] at hkb ⊢
  have hnI : n < 10 ^ I := Nat.lt_of_lt_of_le hnb hkb
  have hI1 : 1 ≤ I := by omega
  have hI200 : I ≤ 200 := by omega
  have HNI := hide hnI
  clear e1 hcv hdiv h10 hq hk hk100 hkb hI hnI hnb hb HBL
  obtain ⟨i0, hi, hz0, hz1, hz2⟩ := info_parts info5
  have hmk : ∀ w : World, (Instr.makeSlice 78 (.int .i64 (I : Int)) (.int .i64 (I : Int))).run Tryz.prog w = .ok (.slice (some ⟨w.heap.size, 0, none⟩) I I) (w.alloc (.cells (bcells (List.replicate I 0)) 5)) := fun w => by
    have := run_make_rowN (P := Tryz.prog) 78 5 i0 _ Tryz.underlying78 hi hz0 .i64 .i64 I I (Nat.le_refl _) (by rw [hz2]; omega) (by omega) w
    rw [hz1, Nat.mul_one] at this
    rw [← made_bytes]
    exact this
  have hand : bits BinOp.and IntKind.u64 10 (IntKind.u64.wrap (-10)) = 2 := by kernel_rfl
  have hw3 := hX.2.2.1
  have hL8 : L + 1 ≤ 8 := by omega
  go_upto_region 35 with (fail)
  have hB := Blk.new w3 5 (bcells (List.replicate I 0))
  have u4 := (Upd.refl [] w3).alloc (.cells (bcells (List.replicate I 0)) 5)
  have hX4 := hX.alloc (.cells (bcells (List.replicate I 0)) 5)
  have hl4 : Leaf (w3.alloc (.cells (bcells (List.replicate I 0)) 5)) := (u4.cell (p := ⟨12, 0, none⟩) (lt_of_cell hl) (by simp)).trans hl
  generalize w3.alloc (.cells (bcells (List.replicate I 0)) 5) = w4 at *
  obtain ⟨g, hg⟩ : ∃ g, w3.heap.size = g := ⟨_, rfl⟩
  have hg3 : w3.heap.size ≤ g := by omega
  rw [hg] at hB ⊢
  clear hg hand hmk hX hl
  go_wp2_with fail
  refine (getStack_any _).mono ?_
  rintro e w5 ⟨p, rfl, hp, hu5, hpw⟩
  have u5 := u4.on0 hu5
  have hX5 := hX4.upd hu5 (by simp)
  have hB5 := hB.grow hu5
  have hl5 : Leaf w5 := (hu5.cell (p := ⟨12, 0, none⟩) (lt_of_cell hl4) (by simp)).trans hl4
  clear u4 hX4 hB hl4 hu5
  go_wp2_with fail
  refine (maxPow_10 _).mono ?_
  rintro e w6 ⟨rfl, rfl⟩
  go_wp2_with fail
  refine (divisors_245 _ hl5 _ (L + 1) hL8 _ _ _).mono ?_
  rintro e w6 ⟨rfl, rfl⟩
  go_wp2_with fail
  refine (set_any w6 none X 0 0 (L + 1) C n [] (NatS.nil _) hX5 (by omega)).mono ?_
  rintro e w7 ⟨A7, L7, C7, rfl, hS7, hu7, hA7⟩
  have u7 : Upd [] w3 w7 := u5.trans hu7 (by simp [bof])
  have hB7 := hB5.upd hu7 (by simp [bof])
  have hp7 := hp.upd hu7 (by simp [bof])
  have hL7 : L7 ≤ 1000 := by
    have h1 := hS7.1
    have h2 := hX5.1
    omega
  go_wp2_with fail
  refine (convertWords_246 w7 A7 L7 C7 n g I _ hS7 hB7 hI200 HNI.out hL7).mono ?_
  rintro e w8 ⟨rfl, hB8, hu8⟩
  have hn0 : n ≠ 0 := by
    intro h
    have h1 := hX5.1
    rw [h, wo_zero] at h1
    simp at h1
  obtain ⟨kf, hkf, hfd, _⟩ := nd_first n hn0
  have hndI := nd_le I n HNI.out
  have u8 : Upd [] w3 w8 := u7.trans hu8 (fun x hx hlt => by
    rcases List.mem_cons.1 hx with rfl | hx
    · omega
    · rcases hA7 x hx with h | h
      · simp [bof] at h
      · have := u5.size; omega)
  have hp8 := hp7.upd hu8 (by
    intro h
    rcases List.mem_cons.1 h with h | h
    · exact hp7.ne_ hB7 (by decide) h
    · exact (hS7.not_mem hp7 (by decide)) h)
  have hpc := hp8.at_ (i := 0) rfl
  obtain ⟨z, hz⟩ : ∃ z, I - nd n = z := ⟨_, rfl⟩
  have hcell : ∀ j, j < z → w8.cell? ⟨g, j, none⟩ = some (.int .u8 48) := by
    intro j hj
    refine hB8.at_ ?_
    rw [bcells_get _ _ (by rw [pd_len]; omega)]
    congr 2
    have e : (pd I n)[j]'(by rw [pd_len]; omega) = 48 := by
      have h1 : (pd I n)[j]? = some 48 := by
        rw [pd_strip I n HNI.out, List.getElem?_append_left (by rw [List.length_replicate]; omega), List.getElem?_replicate, if_pos (by omega)]
      rw [List.getElem?_eq_getElem (by rw [pd_len]; omega)] at h1
      injection h1
    rw [e]; rfl
  have hcz : ∃ c : Nat, w8.cell? ⟨g, z, none⟩ = some (.int .u8 (c : Int)) ∧ c ≠ 48 := by
    refine ⟨((pd I n)[z]'(by rw [pd_len]; omega)).toNat, hB8.at_ (bcells_get _ _ (by rw [pd_len]; omega)), ?_⟩
    have h1 : (pd I n)[z]? = some (d10 (n / 10 ^ kf)) := by
      rw [pd_strip I n HNI.out, List.getElem?_append_right (by rw [List.length_replicate]; omega)]
      rw [List.length_replicate, hz, Nat.sub_self, hkf, pd_cons]
      rfl
    rw [List.getElem?_eq_getElem (by rw [pd_len]; omega)] at h1
    injection h1 with h1
    rw [h1, d10_nat]
    omega
  obtain ⟨c, hc, hc48⟩ := hcz
  have HC := hide hcell
  have hzI : z < I := by omega
  have hIz : I = z + nd n := by omega
  have HIZ := hide hIz
  have hIz2 : I - z = nd n := by omega
  have HIZ2 := hide hIz2
  have HB8 := hide hB8
  have hcb : ((c : Int) == 48) = false := beq_eq_false_iff_ne.2 (by omega)
  clear hcell hS7 hB7 hp7 hu8 hA7 hX5 hB5 hp hpw hl5 hu7 u7 u5 hL7 hfd hkf hndI hz hIz hIz2 hB8 hn0
  go_wp2_with fail
  go_loopw [7] (fun i wr => ∃ j : Nat, j ≤ z ∧ i = .int .i64 j ∧ wr = w8) (fun i _ => z - (intOf i).toNat)
  case atStart => exact ⟨0, Nat.zero_le _, rfl, rfl⟩
  case round =>
    obtain ⟨j, hj, rfl, rfl⟩ := hrel
    have hjI : j < I := by omega
    rcases (by omega : j < z ∨ j = z) with hlt | rfl
    · have c0 := HC.out j hlt
      go_wp2
      go_roundw
      case rel => exact ⟨j + 1, by omega, by go_num, trivial⟩
      case measure => first | (simp [intOf]; done) | (simp [intOf]; omega)
    · have hne : ¬ I = j := by omega
      have hle : (j : Int) ≤ (I : Int) := by omega
      go_wp2
      refine leaves_cons (f := 170) (args := #[.pointer (some ⟨p, 0, none⟩)]) (by simp) (by simp [go_sem]) ?_
      refine (free_d _ .returning _ hpc).mono ?_
      rintro e u' w'' ⟨rfl, rfl, rfl⟩
      refine ⟨_, results_tmp rfl _ _ _, ?_⟩
      refine ⟨g, j, I, ?_, HIZ.out, HB8.out, u8, hg3⟩
      rw [HIZ2.out]
      rfl

end Go.Proofs.YtnajekpckbfcdaaGreatDoor

namespace Go.Proofs.YtnajekpckbfcdaaGreatDoor
open Go.RowKit

def bvals (l : List UInt8) : List Value := l.map fun c => Value.int .u8 (c.toNat : Nat)
theorem addr_addo (g i j : Nat) : (⟨g, i, none⟩ : Addr).add j = ⟨g, i + j, none⟩ := by
  by_cases h : j = 0
  · subst h; simp [Addr.add]
  · simp [Addr.add, h]
/-- The digits of n, in a row of the call's own. -/
def DigRow (w : World) (base n : Nat) (v : Value) : Prop := w.ownsRow base 5 1 v (nd n) (bvals (pd (nd n) n))

end Go.Proofs.YtnajekpckbfcdaaGreatDoor
