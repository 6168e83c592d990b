/-
  LegacyNewDecFromStr, ParseDecCoin, ParseDecCoins.
-/
import Derived.Test.YtnajekpckbfcdaaGreatDoorM13
import Derived.Test.YtnajekpckbfcdaaGreatDoorM12
import Derived.Test.YtnajekpckbfcdaaGreatDoorM11
import Derived.Deep.AppendLies
import Derived.Deep.Cut
import Derived.RegionTactic
import Derived.ChangeAlike
set_option linter.unusedVariables false
set_option linter.unusedSimpArgs false
namespace Go.Proofs.YtnajekpckbfcdaaGreatDoor
open Go.RowKit

/-- An error's value, with its text. -/
def ErrV (w : World) (v : Value) (s : ByteArray) : Prop := ∃ p, v = .iface 148 (.pointer (some ⟨p, 0, none⟩)) ∧ Blk w p 150 #[.string s]
theorem ErrV.grow {w w' : World} {v : Value} {s : ByteArray} (h : ErrV w v s) (hu : Upd [] w w') : ErrV w' v s := by
  obtain ⟨p, h1, h2⟩ := h
  exact ⟨p, h1, h2.grow hu⟩

theorem errNew_61 (s : ByteArray) (w : World) : Calls Tryz.prog 61 #[.string s] w fun e w' => ∃ v, e = .returned v ∧ ErrV w' v s ∧ Upd [] w w' := by
  go_enter Tryz.func61, Tryz.ntmps61
  go_wp2
  go_ret
  exact ⟨_, rfl, ⟨w.heap.size, by simp, Blk.new _ _ _⟩, (Upd.refl _ _).alloc _⟩

theorem ValidateDenom_ok (l : List UInt8) (hl : l.length ≤ 100000) (hd : isDen l = true) (w : World) : Calls Tryz.prog 63 #[.string (bs l)] w fun e w' => e = .returned .nilIface ∧ Upd [] w w' := by
  have HZ := hide (fun w => zzDenom_88 l hl w)
  rw [hd] at HZ
  clear hd
  go_enter Tryz.func63, Tryz.ntmps63
  go_wp2_with fail
  refine (HZ.out _).mono ?_
  rintro e w2 ⟨rfl, n, rfl⟩
  go_wp2
  go_ret
  exact ⟨rfl, (Upd.refl _ _).drewN _⟩

theorem NewDecCoin_64 (l : List UInt8) (hl : l.length ≤ 100000) (hd : isDen l = true) (p : Nat) (A : Option Addr) (a : Nat) (w : World) (h : IntV w p A a) :
    Calls Tryz.prog 64 #[.string (bs l), DV p] w fun e w' => e = .returned (CV (bs l) p) ∧ Upd [] w w' := by
  have HV := hide (fun w => ValidateDenom_ok l hl hd w)
  have hs : ((a : Int).sign == -1) = false := by
    rw [beq_eq_false_iff_ne]
    cases a with
    | zero => decide
    | succ a => rw [Int.sign_eq_one_of_pos (by omega)]; decide
  have q4 := n_nil_nil
  have HS := hide hs
  clear hd hs
  go_enter Tryz.func64, Tryz.ntmps64
  go_wp2_with fail
  refine (HV.out _).mono ?_
  rintro e w2 ⟨rfl, hu2⟩
  have hb := ((Blk.new w 85 #[.pointer (some ⟨p, 0, none⟩)]).alloc (.cells #[.string ⟨#[]⟩, .pointer none] 87)).grow hu2
  have hR := (Blk.new (w.alloc (.cells #[.pointer (some ⟨p, 0, none⟩)] 85)) 87 #[.string ⟨#[]⟩, .pointer none]).grow hu2
  rw [World.size_alloc] at hR
  have u2 := (((Upd.refl [] w).alloc (.cells #[.pointer (some ⟨p, 0, none⟩)] 85)).alloc (.cells #[.string ⟨#[]⟩, .pointer none] 87)).on0 hu2
  have hI2 := h.grow u2
  have c0 := hb.one
  clear hu2 HV
  go_wp2_with fail
  refine (IsNegative_any w2 p A a hI2).mono ?_
  rintro e w3 ⟨rfl, hu3⟩
  rw [HS.out]
  have u3 := u2.on0 hu3
  have hb3 := hb.grow hu3
  have hR3 := hR.grow hu3
  clear u2 hb hR c0 hu3
  have c0 := hb3.one
  have r0 := hR3.fst
  have r1 := hR3.snd
  have f0 := hR3.frozen 0
  have f1 := hR3.frozen 1
  have hl := hR3.lt
  go_wp2
  refine bodyPost_ret (v := CV (bs l) p) (by simp [results, Tryz.results64, r0, r1, hl, go_sem]) rfl ?_
  exact ⟨rfl, (u3.setCell (by simp) _).setCell (by simp) _⟩

end Go.Proofs.YtnajekpckbfcdaaGreatDoor

namespace Go.Proofs.YtnajekpckbfcdaaGreatDoor
open Go.RowKit

theorem bs_append (a b : List UInt8) : bs a ++ bs b = bs (a ++ b) := by
  apply ByteArray.ext
  simp [bs, ByteArray.data_append]
theorem rep_bs (n : Nat) : (⟨(Lib.repeatL [48] n).toArray⟩ : ByteArray) = bs (List.replicate n 48) := by
  have : Lib.repeatL [48] n = List.replicate n 48 := by
    induction n with
    | zero => rfl
    | succ n ih => rw [Lib.repeatL, ih, List.replicate_succ]; rfl
  rw [this]; rfl
theorem digits_bs (l : List UInt8) (h : ∀ x ∈ l, isDg x = true) : Digits (bs l) := by
  intro j hj
  rw [bs_get]
  exact (isDg_iff _).1 (h _ (List.getElem_mem _))
theorem pre_bs (l : List UInt8) : ∀ j, j ≤ l.length → pre (bs l) j = dv (l.take j)
  | 0, _ => rfl
  | j + 1, h => by
    rw [pre, pre_bs l j (by omega), List.take_succ_eq_append_getElem (by omega), dv_snoc]
    unfold dg
    rw [dif_pos (by rw [bs_size]; omega), bs_get]
theorem pre_bs_all (l : List UInt8) : pre (bs l) (bs l).size = dv l := by
  rw [bs_size, pre_bs l _ (Nat.le_refl _), List.take_of_length_le (Nat.le_refl _)]

/-- The package's variables, as the program's text lays them. -/
structure Gl (w : World) : Prop where
  nums : Nums w
  eof : ∃ a, Eof w a
  len1 : ∃ a, w.cell? ⟨1, 0, none⟩ = some (.iface 148 (.pointer (some a)))
  size : 15 ≤ w.heap.size
theorem Gl.grow {w w' : World} (h : Gl w) (hu : Upd [] w w') : Gl w' := by
  refine ⟨h.nums.grow hu, ?_, ?_, Nat.le_trans h.size hu.size⟩
  · obtain ⟨a, ha⟩ := h.eof
    exact ⟨a, ha.upd hu (by simp)⟩
  · obtain ⟨a, ha⟩ := h.len1
    exact ⟨a, (hu.cell (p := ⟨1, 0, none⟩) (by have := h.size; show 1 < _; omega) (by simp)).trans ha⟩

theorem own_blk {w : World} {base : Nat} {e : TypeId} {v : Value} {n : Nat} {xs : List Value} (h : w.ownsRow base e 1 v n xs) (hn : 0 < n) :
    ∃ (g cap : Nat) (cur : Array Value), v = .slice (some ⟨g, 0, none⟩) n cap ∧ base ≤ g ∧ Blk w g e cur ∧ n ≤ cap ∧ ∀ (j : Nat) (u : Value), xs[j]? = some u → cur[j]? = some u := by
  rcases h.2 with ⟨_, h0⟩ | ⟨g, cap, cur, hv, hb, hg, hc, _, hs, ht⟩
  · omega
  · refine ⟨g, cap, cur, hv, hb, hg, hc, ?_⟩
    intro j u hj
    rw [← ht, List.getElem?_take] at hj
    split at hj
    · simpa using hj
    · cases hj

end Go.Proofs.YtnajekpckbfcdaaGreatDoor

namespace Go.Proofs.YtnajekpckbfcdaaGreatDoor
open Go.RowKit

/-- A decimal and no error; an error. -/
def StrOk (w : World) (m : Nat) (e : Ending) (w' : World) : Prop :=
  ∃ p A, e = .returned (.tuple #[DV p, .nilIface]) ∧ IntV w' p A m ∧ Upd [] w w' ∧ w.heap.size ≤ p ∧ ∀ b ∈ bof A, w.heap.size ≤ b
theorem head_not_minus (l : List UInt8) (h0 : 0 < l.length) (h : ∀ x ∈ l, isDg x = true ∨ x = 46) (hx : 0 < (bs l).size) : (((((bs l)[0]'hx).toNat : Nat) : Int) == 45) = false := by
  rw [bs_get, beq_eq_false_iff_ne]
  rcases h (l[0]'h0) (List.getElem_mem _) with h | h
  · have := (isDg_iff _).1 h
    omega
  · rw [h]; decide

set_option maxHeartbeats 4000000 in
set_option maxRecDepth 20000 in
theorem FromStr_plain (W Z : List UInt8) (hW : ∀ x ∈ W, isDg x = true) (hW0 : 0 < W.length) (hW1 : W.length ≤ 25) (hZ : Z = W ++ List.replicate 18 48) (hv : dv Z < 2 ^ 256) (w : World) (hG : Gl w) :
    Calls Tryz.prog 62 #[.string (bs W)] w (StrOk w (dv Z)) := by
  have z1 : (bs W).size = W.length := bs_size W
  have hne := head_not_minus W hW0 (fun x hx => .inl (hW x hx)) (by omega)
  have hno : (46 : UInt8) ∉ W := fun hm => absurd (hW _ hm) (by decide)
  have HSP := hide (fun w => zzSplit_89 W 46 (by omega) w)
  rw [spl_none 46 W hno] at HSP
  have t0 : (0 : Int) < (W.length : Int) := by omega
  have t1 : ¬ (W.length : Int) = 0 := by omega
  have t2 : ((W.length : Int) == 0) = false := beq_eq_false_iff_ne.2 t1
  have hZd : ∀ x ∈ Z, isDg x = true := by
    rw [hZ]
    intro x hx
    rcases List.mem_append.1 hx with hx | hx
    · exact hW x hx
    · rw [List.eq_of_mem_replicate hx]; decide
  have hZl : Z.length = W.length + 18 := by rw [hZ]; simp
  obtain ⟨Y, hY⟩ : ∃ Y : List UInt8, Y = List.replicate 18 48 := ⟨_, rfl⟩
  have hYl : Y.length = 18 := by rw [hY]; simp
  have hrep : ∀ w, Calls Tryz.prog 90 #[.string (bs [48]), .int .i64 18] w fun e w' => e = .returned (.string (bs Y)) ∧ Below w.heap.size w w' := by
    intro w
    have := Tryz.strings_Repeat (bs [48]) 18 w (by omega) (by rw [bs_size]; decide)
    rw [show (bs [48]).data.toList = [48] from rfl, rep_bs, ← hY] at this
    exact this
  have es : bs W ++ bs Y = bs Z := by rw [bs_append, hZ, hY]
  have z2 : (bs Y).size = 18 := by rw [bs_size, hYl]
  have m1 : (W.length : Int) ≤ 8388608 := by omega
  have HR := hide hrep
  have HSS := hide (fun (w : World) (pz : Nat) (a : Addr) (hz : Blk w pz 133 #[.bool false, .slice none 0 0]) (he : Eof w a) (h1 : 15 ≤ w.heap.size) (h2 : 15 ≤ pz) => SetString_digits w pz (bs Z) a hz (digits_bs Z hZd) (by rw [bs_size]; omega) (by rw [bs_size]; omega) he h1 h2)
  rw [pre_bs_all] at HSS
  have HV := hide hv
  have ES := hide es
  have hG0 := hG.size
  clear hY hYl hW hno hZd hZ es hrep hv hZl
  generalize dv Z = m at *
  go_enter Tryz.func62, Tryz.ntmps62
  go_wp2_with fail
  have hR1 := Blk.new w 85 #[.pointer none]
  have u1 := (Upd.refl [] w).alloc (.cells #[.pointer none] 85)
  refine (HSP.out _).mono ?_
  rintro e w2 ⟨v, rfl, hown, hbl⟩
  have hu2 := Upd.of_below hbl []
  obtain ⟨g, cap, cur, rfl, hg, hcur, hcap, hcs⟩ := own_blk hown (by simp)
  have u2 := u1.on0 hu2
  have hR2 := hR1.grow hu2
  have cc0 : w2.cell? ⟨g, 0, none⟩ = some (.string (bs W)) := hcur.at_ (hcs 0 _ rfl)
  clear u1 hR1 hu2 hbl hown HSP hne
  simp only [List.length_singleton]
  go_wp2_with fail
  refine (HR.out _).mono ?_
  rintro e w3 ⟨rfl, hb3⟩
  have hu3 := Upd.of_below hb3 []
  have u3 := u2.on0 hu3
  have hR3 := hR2.grow hu3
  clear u2 hR2 hb3 hu3 hcur cc0 hcs HR
  go_upto_region 22 with (fail)
  rw [ES.out]
  have hz4 := Blk.new w3 133 #[.bool false, .slice none 0 0]
  have hR4 := hR3.alloc (.cells #[.bool false, .slice none 0 0] 133)
  have u4 := u3.alloc (.cells #[.bool false, .slice none 0 0] 133)
  have hG4 := hG.grow u4
  have hs3 := u3.size
  obtain ⟨a3, ha3⟩ := hG4.eof
  have hl3 := hR3.lt
  clear u3 hR3
  go_wp2_with fail
  refine (HSS.out _ w3.heap.size a3 hz4 ha3 hG4.size (by omega)).mono ?_
  rintro e w5 ⟨A5, rfl, hI5, hu5, hA5⟩
  have u5 := u4.on hu5 hs3
  have hR5 := hR4.upd hu5 (by simp only [List.mem_singleton]; omega)
  have hG5 := hG.grow u5
  have hn5 := hG5.nums
  have hl5 := hR5.lt
  clear hz4 hR4 u4 hG4 hu5 HSS ha3 hG hG5
  go_upto_region 28 with (fail)
  have hD6 := Blk.new w5 85 #[.pointer (some ⟨w3.heap.size, 0, none⟩)]
  have u6 := u5.alloc (.cells #[.pointer (some ⟨w3.heap.size, 0, none⟩)] 85)
  have hI6 := hI5.alloc (.cells #[.pointer (some ⟨w3.heap.size, 0, none⟩)] 85)
  have hR6 := hR5.alloc (.cells #[.pointer (some ⟨w3.heap.size, 0, none⟩)] 85)
  have hn6 := hn5.grow ((Upd.refl [] w5).alloc (.cells #[.pointer (some ⟨w3.heap.size, 0, none⟩)] 85))
  have c6 := hD6.one
  go_wp2_with fail
  refine (InRange_nat _ w3.heap.size A5 m hI6 HV.out hn6).mono ?_
  rintro e w7 ⟨rfl, hu7⟩
  have hD7 := hD6.grow hu7
  have hI7 := hI6.grow hu7
  have hR7 := hR6.grow hu7
  have u7 := u6.on0 hu7
  have hA := hide (fun b hb => Nat.le_trans hs3 (Nat.le_trans (by simp) (hA5 b hb)) : ∀ b ∈ bof A5, w.heap.size ≤ b)
  clear hD6 hI6 hR6 u6 c6 hu7 hn6 hn5 u5 hI5 hR5 hA5
  have c7 := hD7.one
  have r7 := hR7.one
  have f7 := hR7.frozen 0
  have hl7 := hR7.lt
  go_wp2
  refine bodyPost_ret (v := .tuple #[DV w3.heap.size, .nilIface]) (by simp [results, Tryz.results62, r7, hl7, go_sem]) rfl ?_
  exact ⟨w3.heap.size, A5, rfl, hI7.set_far hR7 (by decide) (by omega) _ _, u7.setCell (by simp) _, hs3, hA.out⟩

set_option maxHeartbeats 4000000 in
set_option maxRecDepth 20000 in
theorem FromStr_point (N W F Z : List UInt8) (f r : Nat) (hf : F.length = f) (hr : f + r = 18) (hN : N = W ++ 46 :: F) (hW : ∀ x ∈ W, isDg x = true) (hF : ∀ x ∈ F, isDg x = true) (hF0 : 0 < f) (hW0 : 0 < W.length) (hW1 : W.length ≤ 25) (hZ : Z = W ++ (F ++ List.replicate r 48)) (hv : dv Z < 2 ^ 256) (w : World) (hG : Gl w) :
    Calls Tryz.prog 62 #[.string (bs N)] w (StrOk w (dv Z)) := by
  have hNl : N.length = W.length + (f + 1) := by rw [hN]; simp [hf]
  have z1 : (bs N).size = N.length := bs_size N
  have z3 : (bs W).size = W.length := bs_size W
  have z4 : (bs F).size = f := by rw [bs_size, hf]
  have hb0 : 0 < (bs N).size := by omega
  have hN0 : 0 < N.length := by omega
  have hne := head_not_minus N hN0 (fun x hx => by
    rw [hN] at hx
    rcases List.mem_append.1 hx with hx | hx
    · exact .inl (hW x hx)
    · rcases List.mem_cons.1 hx with rfl | hx
      · exact .inr rfl
      · exact .inl (hF x hx)) hb0
  have hno : (46 : UInt8) ∉ W := fun hm => absurd (hW _ hm) (by decide)
  have hno2 : (46 : UInt8) ∉ F := fun hm => absurd (hF _ hm) (by decide)
  have HSP := hide (fun w => zzSplit_89 N 46 (by omega) w)
  rw [hN, spl_some 46 F W hno, spl_none 46 F hno2, ← hN] at HSP
  have t0 : (0 : Int) < (N.length : Int) := by omega
  have t1 : ¬ (N.length : Int) = 0 := by omega
  have t2 : ((N.length : Int) == 0) = false := beq_eq_false_iff_ne.2 t1
  have t3 : ((f : Int) == 0) = false := beq_eq_false_iff_ne.2 (by omega)
  have t4 : ((W.length : Int) == 0) = false := beq_eq_false_iff_ne.2 (by omega)
  have t3' : ¬ (f : Int) = 0 := by omega
  have t4' : ¬ (W.length : Int) = 0 := by omega
  have t5 : decide ((18 : Int) < (f : Int)) = false := decide_eq_false (by omega)
  have t6 : (18 : Int) - (f : Int) = (r : Int) := by omega
  have m2 : (f : Int) ≤ 8388608 := by omega
  have m3 : ((W.length + f : Nat) : Int) ≤ 8388608 := by omega
  have m4 : (r : Int) ≤ 8388608 := by omega
  have hZd : ∀ x ∈ Z, isDg x = true := by
    rw [hZ]
    intro x hx
    rcases List.mem_append.1 hx with hx | hx
    · exact hW x hx
    · rcases List.mem_append.1 hx with hx | hx
      · exact hF x hx
      · rw [List.eq_of_mem_replicate hx]; decide
  have hZl : Z.length = W.length + 18 := by rw [hZ]; simp [hf]; omega
  obtain ⟨Y, hY⟩ : ∃ Y : List UInt8, Y = List.replicate r 48 := ⟨_, rfl⟩
  have hYl : Y.length = r := by rw [hY]; simp
  have hrep : ∀ w, Calls Tryz.prog 90 #[.string (bs [48]), .int .i64 r] w fun e w' => e = .returned (.string (bs Y)) ∧ Below w.heap.size w w' := by
    intro w
    have := Tryz.strings_Repeat (bs [48]) r w (by omega) (by rw [bs_size]; simp; omega)
    rw [show (bs [48]).data.toList = [48] from rfl, rep_bs, ← hY] at this
    exact this
  have es : bs W ++ bs F ++ bs Y = bs Z := by rw [bs_append, bs_append, hZ, hY, List.append_assoc]
  have z5 : (bs W ++ bs F).size = W.length + f := by rw [bs_append, bs_size]; simp [hf]
  have z2 : (bs Y).size = r := by rw [bs_size, hYl]
  have m1 : (W.length : Int) ≤ 8388608 := by omega
  have HR := hide hrep
  have HSS := hide (fun (w : World) (pz : Nat) (a : Addr) (hz : Blk w pz 133 #[.bool false, .slice none 0 0]) (he : Eof w a) (h1 : 15 ≤ w.heap.size) (h2 : 15 ≤ pz) => SetString_digits w pz (bs Z) a hz (digits_bs Z hZd) (by rw [bs_size]; omega) (by rw [bs_size]; omega) he h1 h2)
  rw [pre_bs_all] at HSS
  have HV := hide hv
  have ES := hide es
  have hG0 := hG.size
  have T6 := hide t6
  clear t6 hf hN hNl hF hno2 hr hY hYl hW hno hZd hZ es hrep hv hZl
  generalize dv Z = m at *
  go_enter Tryz.func62, Tryz.ntmps62
  go_wp2_with fail
  have hR1 := Blk.new w 85 #[.pointer none]
  have u1 := (Upd.refl [] w).alloc (.cells #[.pointer none] 85)
  refine (HSP.out _).mono ?_
  rintro e w2 ⟨v, rfl, hown, hbl⟩
  have hu2 := Upd.of_below hbl []
  obtain ⟨g, cap, cur, rfl, hg, hcur, hcap, hcs⟩ := own_blk hown (by simp)
  have u2 := u1.on0 hu2
  have hR2 := hR1.grow hu2
  have cc0 : w2.cell? ⟨g, 0, none⟩ = some (.string (bs W)) := hcur.at_ (hcs 0 _ rfl)
  have cc1 : w2.cell? ⟨g, 1, none⟩ = some (.string (bs F)) := hcur.at_ (hcs 1 _ rfl)
  clear u1 hR1 hu2 hbl hown HSP hne
  simp only [List.length_cons, List.length_nil, Nat.zero_add]
  go_upto_region 12 with (fail)
  clear t0 t1 t2 cc0 m1 m3 m4
  go_upto_region 14 with (fail)
  go_upto_region 15 with (fail)
  clear cc1 hcur hcs
  go_upto_region 17 with (fail)
  go_upto_region 20 with (fail)
  rw [T6.out]
  refine (HR.out _).mono ?_
  rintro e w3 ⟨rfl, hb3⟩
  have hu3 := Upd.of_below hb3 []
  have u3 := u2.on0 hu3
  have hR3 := hR2.grow hu3
  clear u2 hR2 hb3 hu3 HR t3 t4 t3' t4' t5
  have m3 : (W.length : Int) + (f : Int) ≤ 8388608 := by have := T6.out; omega
  have m4 : (r : Int) ≤ 8388608 := by have := T6.out; omega
  go_upto_region 22 with (fail)
  clear m3 m4
  rw [ES.out]
  have hz4 := Blk.new w3 133 #[.bool false, .slice none 0 0]
  have hR4 := hR3.alloc (.cells #[.bool false, .slice none 0 0] 133)
  have u4 := u3.alloc (.cells #[.bool false, .slice none 0 0] 133)
  have hG4 := hG.grow u4
  have hs3 := u3.size
  obtain ⟨a3, ha3⟩ := hG4.eof
  have hl3 := hR3.lt
  clear u3 hR3
  go_wp2_with fail
  refine (HSS.out _ w3.heap.size a3 hz4 ha3 hG4.size (by omega)).mono ?_
  rintro e w5 ⟨A5, rfl, hI5, hu5, hA5⟩
  have u5 := u4.on hu5 hs3
  have hR5 := hR4.upd hu5 (by simp only [List.mem_singleton]; omega)
  have hG5 := hG.grow u5
  have hn5 := hG5.nums
  have hl5 := hR5.lt
  clear hz4 hR4 u4 hG4 hu5 HSS ha3 hG hG5
  go_upto_region 28 with (fail)
  have hD6 := Blk.new w5 85 #[.pointer (some ⟨w3.heap.size, 0, none⟩)]
  have u6 := u5.alloc (.cells #[.pointer (some ⟨w3.heap.size, 0, none⟩)] 85)
  have hI6 := hI5.alloc (.cells #[.pointer (some ⟨w3.heap.size, 0, none⟩)] 85)
  have hR6 := hR5.alloc (.cells #[.pointer (some ⟨w3.heap.size, 0, none⟩)] 85)
  have hn6 := hn5.grow ((Upd.refl [] w5).alloc (.cells #[.pointer (some ⟨w3.heap.size, 0, none⟩)] 85))
  have c6 := hD6.one
  go_wp2_with fail
  refine (InRange_nat _ w3.heap.size A5 m hI6 HV.out hn6).mono ?_
  rintro e w7 ⟨rfl, hu7⟩
  have hD7 := hD6.grow hu7
  have hI7 := hI6.grow hu7
  have hR7 := hR6.grow hu7
  have u7 := u6.on0 hu7
  have hA := hide (fun b hb => Nat.le_trans hs3 (Nat.le_trans (by simp) (hA5 b hb)) : ∀ b ∈ bof A5, w.heap.size ≤ b)
  clear hD6 hI6 hR6 u6 c6 hu7 hn6 hn5 u5 hI5 hR5 hA5
  have c7 := hD7.one
  have r7 := hR7.one
  have f7 := hR7.frozen 0
  have hl7 := hR7.lt
  go_wp2
  refine bodyPost_ret (v := .tuple #[DV w3.heap.size, .nilIface]) (by simp [results, Tryz.results62, r7, hl7, go_sem]) rfl ?_
  exact ⟨w3.heap.size, A5, rfl, hI7.set_far hR7 (by decide) (by omega) _ _, u7.setCell (by simp) _, hs3, hA.out⟩

end Go.Proofs.YtnajekpckbfcdaaGreatDoor

namespace Go.Proofs.YtnajekpckbfcdaaGreatDoor
open Go.RowKit

theorem Part.Ok.md_head {p : Part} (h : p.Ok) (c : UInt8) (hc : (p.mid ++ p.denom).head? = some c) : isDg c = false ∧ c ≠ 46 := by
  cases hm : p.mid with
  | nil => rw [hm, List.nil_append] at hc; exact h.dh c hc
  | cons x r =>
    rw [hm] at hc
    simp at hc
    subst hc
    have hb := h.mb x (by rw [hm]; simp)
    constructor
    · cases hd : isDg x with
      | false => rfl
      | true => rw [isDg_bl x hd] at hb; cases hb
    · rintro rfl; exact absurd hb (by decide)
theorem Part.Ok.den_head {p : Part} (h : p.Ok) (hd : p.denom ≠ []) : ∃ c r, p.denom = c :: r ∧ bl c = false := by
  cases hdd : p.denom with
  | nil => exact absurd hdd hd
  | cons c r => exact ⟨c, r, rfl, h.den_bl c (by rw [hdd]; simp)⟩
theorem isDen_ne {l : List UInt8} (h : isDen l = true) : l ≠ [] := by rintro rfl; cases h

/-- What lies behind the number in a coin's text. -/
def Part.tail (p : Part) : List UInt8 := if p.denom = [] then [] else p.mid ++ p.denom
theorem Part.core_num (p : Part) (hn : p.num ≠ []) : p.core = p.num ++ p.tail := by
  unfold Part.core Part.tail
  split
  · simp
  · first | rfl | rw [if_neg hn]
theorem Part.expr_parts {p : Part} (he : p.expr = true) : isDen p.denom = true ∧ p.num ≠ [] ∧ (p.point = true → p.frac ≠ []) ∧ (p.point = false → p.whole ≠ []) := by
  unfold Part.expr at he
  simp only [Bool.and_eq_true, Bool.not_eq_true'] at he
  obtain ⟨⟨h1, h2⟩, h3⟩ := he
  refine ⟨h3, ?_, ?_, ?_⟩
  · unfold Part.num
    cases hp : p.point with
    | true => simp
    | false =>
      rw [hp] at h1
      cases hw : p.whole with
      | nil => rw [hw] at h1; simp at h1
      | cons a r => simp
  · intro hp hf
    rw [hp, hf] at h2; simp at h2
  · intro hp hw
    rw [hp, hw] at h1; simp at h1
theorem zzDecCoin_yes (p : Part) (h : p.Ok) (he : p.expr = true) (w : World) : Calls Tryz.prog 60 #[.string (bs p.core)] w (Match3 p.core p.num p.denom w) := by
  have hcl := h.core_len
  obtain ⟨hD, hn, h1, h2⟩ := Part.expr_parts he
  have hd := isDen_ne hD
  have hcore := p.core_num hn
  have ht : p.tail = p.mid ++ p.denom := by unfold Part.tail; rw [if_neg hd]
  rw [ht] at hcore
  by_cases hp : p.point = true
  · have hnum : p.num = p.whole ++ 46 :: p.frac := by unfold Part.num; rw [if_pos hp]
    exact zzDecCoin_point_yes p.core p.num p.whole p.frac p.mid p.denom p.num.length p.whole.length rfl hnum h.wd h.fd (h1 hp) (fun c hc => (h.md_head c hc).1) rfl hcore h.mb hD (h.den_head hd) (by omega) w
  · have hp' : p.point = false := by simpa using hp
    have hnum : p.num = p.whole := by unfold Part.num; rw [if_neg hp]; simp
    have hw0 : 0 < p.num.length := by rw [hnum]; exact List.length_pos_iff.2 (h2 hp')
    exact zzDecCoin_plain_yes p.core p.num p.mid p.denom p.num.length (by rw [hnum]; exact h.wd) hw0 (fun c hc => h.md_head c hc) rfl hcore h.mb hD (h.den_head hd) (by omega) w

theorem Part.Ok.dv_small {p : Part} (h : p.Ok) (ha : p.amt = true) : dv p.digits < 1000000000000000000 * 1000000000000000000 := by
  have hw := h.wv
  have hh := h.amount ha
  omega
theorem FromStr_good (p : Part) (h : p.Ok) (he : p.expr = true) (ha : p.amt = true) (w : World) (hG : Gl w) : Calls Tryz.prog 62 #[.string (bs p.num)] w (StrOk w (dv p.digits)) := by
  obtain ⟨hD, hn, h1, h2⟩ := Part.expr_parts he
  have hw25 := h.w25
  have hsm : dv p.digits < 2 ^ 256 := Nat.lt_trans (h.dv_small ha) (by decide)
  unfold Part.amt at ha
  simp only [Bool.and_eq_true, Bool.not_eq_true', decide_eq_true_eq] at ha
  have hw0 : 0 < p.whole.length := by
    cases hww : p.whole with
    | nil => rw [hww] at ha; simp at ha
    | cons a r => simp
  cases hp : p.point with
  | false =>
    have hf := h.fp hp
    have hnum : p.num = p.whole := by unfold Part.num; rw [hp]; simp
    rw [hnum]
    exact FromStr_plain p.whole p.digits h.wd hw0 hw25 (by unfold Part.digits; rw [hf]; simp) hsm w hG
  | true =>
    have hf0 : 0 < p.frac.length := List.length_pos_iff.2 (h1 hp)
    have hnum : p.num = p.whole ++ 46 :: p.frac := by unfold Part.num; rw [if_pos hp]
    exact FromStr_point p.num p.whole p.frac p.digits p.frac.length (18 - p.frac.length) rfl (by omega) hnum h.wd h.fd hf0 hw0 hw25 rfl hsm w hG

end Go.Proofs.YtnajekpckbfcdaaGreatDoor

namespace Go.Proofs.YtnajekpckbfcdaaGreatDoor
open Go.RowKit

def CoinOk (w : World) (d : List UInt8) (m : Nat) (e : Ending) (w' : World) : Prop :=
  ∃ p A, e = .returned (.tuple #[CV (bs d) p, .nilIface]) ∧ IntV w' p A m ∧ Upd [] w w' ∧ w.heap.size ≤ p ∧ ∀ b ∈ bof A, w.heap.size ≤ b
theorem q93 (w : World) (a : Option Addr) (n c : Nat) : (binOp .eql 93 (.slice a n c) (.slice none 0 0)).run Tryz.prog w = .ok (.bool a.isNone) w :=
  Lib.run_eql_slice_nil w 93 9 a n c 0 0 Tryz.underlying93

set_option maxRecDepth 20000 in
set_option maxHeartbeats 1000000 in
/-- All is right. -/
theorem ParseDecCoin_good (p : Part) (h : p.Ok) (he : p.expr = true) (ha : p.amt = true) (l : List UInt8) (hl : trim l = p.core) (hll : l.length ≤ 100000) (w : World) (hG : Gl w) :
    Calls Tryz.prog 40 #[.string (bs l)] w (CoinOk w p.denom (dv p.digits)) := by
  have HT := hide (fun w => zzTrim_42 l hll w)
  rw [hl] at HT
  have HZ := hide (fun w => zzDecCoin_yes p h he w)
  have HF := hide (fun w hG => FromStr_good p h he ha w hG)
  have hdd := (Part.expr_parts he).1
  have hdl : p.denom.length ≤ 100000 := by have := h.d140; omega
  have HV := hide (fun w => ValidateDenom_ok p.denom hdl hdd w)
  have HN := hide (fun w q A a hI => NewDecCoin_64 p.denom hdl hdd q A a w hI)
  clear hl hll he h ha hdd hdl
  generalize p.core = c at *
  generalize p.num = nn at *
  generalize p.denom = dd at *
  generalize dv p.digits = m at *
  have Q := q93
  go_enter Tryz.func40, Tryz.ntmps40
  go_wp2_with fail
  have hR := Blk.new w 87 #[.string ⟨#[]⟩, .pointer none]
  have u1 := (Upd.refl [] w).alloc (.cells #[.string ⟨#[]⟩, .pointer none] 87)
  refine (HT.out _).mono ?_
  rintro e w2 ⟨rfl, n, hw2⟩
  have u2 : Upd [] w w2 := by rw [hw2]; exact u1.drewN n
  have hR2 : Blk w2 w.heap.size 87 #[.string ⟨#[]⟩, .pointer none] := by rw [hw2]; exact hR.drewN n
  clear hw2 u1 hR HT
  go_wp2_with fail
  refine (HZ.out _).mono ?_
  rintro e w3 ⟨g, rfl, hg, hu3, hgs⟩
  have u3 := u2.on0 hu3
  have hR3 := hR2.grow hu3
  clear u2 hR2 hu3 HZ
  have g1 := hg.c3b
  have g2 := hg.c3
  go_upto_region 5 with (fail)
  go_region
  all_goals (
    have u3d := u3.drew
    have hR3d := hR3.drew
    generalize w3.drew = w4 at *
    have hG4 := hG.grow u3d
    go_wp2_with fail
    refine (HF.out _ hG4).mono ?_
    rintro e w5 ⟨q, A, rfl, hI5, hu5, hq5, hA5⟩
    have u5 := u3d.on0 hu5
    have hR5 := hR3d.grow hu5
    have hs4 := u3d.size
    have hA := hide (fun b hb => Nat.le_trans hs4 (hA5 b hb) : ∀ b ∈ bof A, w.heap.size ≤ b)
    clear hG4 hu5 hA5
    have u6 := u5.alloc (.cells #[.pointer (some ⟨q, 0, none⟩)] 85)
    have hR6 := hR5.alloc (.cells #[.pointer (some ⟨q, 0, none⟩)] 85)
    have hI6 := hI5.alloc (.cells #[.pointer (some ⟨q, 0, none⟩)] 85)
    have hD6 := Blk.new w5 85 #[.pointer (some ⟨q, 0, none⟩)]
    have nn1 := n_nil_nil
    clear hR5 u5 hI5
    go_wp2_with fail
    refine (HV.out _).mono ?_
    rintro e w7 ⟨rfl, hu7⟩
    have u7 := u6.on0 hu7
    have hR7 := hR6.grow hu7
    have hI7 := hI6.grow hu7
    have hD7 := hD6.grow hu7
    have d7 := hD7.one
    clear u6 hR6 hI6 hD6 hu7 HV
    go_wp2_with fail
    refine (HN.out _ q A m hI7).mono ?_
    rintro e w8 ⟨rfl, hu8⟩
    have u8 := u7.on0 hu8
    have hR8 := hR7.grow hu8
    have hI8 := hI7.grow hu8
    have r0 := hR8.fst
    have r1 := hR8.snd
    have f0 := hR8.frozen 0
    have f1 := hR8.frozen 1
    have hl8 := hR8.lt
    have hlw := hR3d.lt
    clear u7 hR7 hI7 hD7 d7 hu8 HN
    go_wp2
    refine bodyPost_ret (v := .tuple #[CV (bs dd) q, .nilIface]) (by simp [results, Tryz.results40, r0, r1, hl8, go_sem]) rfl ?_
    refine ⟨q, A, rfl, (hI8.set_far hR8 (by decide) (by omega) _ _).set_far (hR8.set_ 0 _) (by decide) (by omega) _ _, (u8.setCell (by simp) _).setCell (by simp) _, by omega, hA.out⟩)

theorem Part.rd_some {p : Part} {d : List UInt8} {m : Nat} (hr : p.rd = some (d, m)) : p.expr = true ∧ p.amt = true ∧ d = p.denom ∧ m = dv p.digits := by
  unfold Part.rd at hr
  split at hr
  · rename_i hh
    simp only [Bool.and_eq_true] at hh
    simp only [Option.some.injEq, Prod.mk.injEq] at hr
    exact ⟨hh.1, hh.2, hr.1.symm, hr.2.symm⟩
  · cases hr
theorem ParseDecCoin_some (p : Part) (h : p.Ok) (d : List UInt8) (m : Nat) (hr : p.rd = some (d, m)) (l : List UInt8) (hl : trim l = p.core) (hll : l.length ≤ 100000) (w : World) (hG : Gl w) :
    Calls Tryz.prog 40 #[.string (bs l)] w (CoinOk w d m) := by
  obtain ⟨he, ha, rfl, rfl⟩ := Part.rd_some hr
  exact ParseDecCoin_good p h he ha l hl hll w hG

end Go.Proofs.YtnajekpckbfcdaaGreatDoor

namespace Go.Proofs.YtnajekpckbfcdaaGreatDoor
open Go.RowKit

set_option maxRecDepth 20000 in
theorem ParseDecCoins_blank (l : List UInt8) (hl : trim l = []) (hll : l.length ≤ 100000) (w : World) :
    Calls Tryz.prog 26 #[.string (bs l)] w fun e w' => e = .returned (.tuple #[.slice none 0 0, .nilIface]) ∧ Upd [] w w' := by
  have HT := hide (fun w => zzTrim_42 l hll w)
  rw [hl] at HT
  have z0 : (bs []).size = 0 := rfl
  clear hl hll
  go_enter Tryz.func26, Tryz.ntmps26
  go_wp2_with fail
  refine (HT.out _).mono ?_
  rintro e w2 ⟨rfl, n, rfl⟩
  go_wp2
  go_ret2
  exact ⟨rfl, (Upd.refl _ _).drewN _⟩

theorem info87 : (Tryz.prog.info? 87).map (fun i => (i.zero, i.size, i.bytes)) = some (some (.agg #[.string ⟨#[]⟩, .pointer none]), 2, 24) := by kernel_rfl

theorem spl_mem_len (c : UInt8) : ∀ (l : List UInt8), ∀ q ∈ spl c l, q.length ≤ l.length
  | [], q, hq => by simp [spl] at hq; simp [hq]
  | x :: r, q, hq => by
    rw [spl] at hq
    split at hq
    · rcases List.mem_cons.1 hq with rfl | hq
      · simp
      · have := spl_mem_len c r q hq; simp; omega
    · cases hs : spl c r with
      | nil => exact absurd hs (spl_ne c r)
      | cons h t =>
        rw [hs] at hq
        rcases List.mem_cons.1 hq with rfl | hq
        · have := spl_mem_len c r h (by rw [hs]; simp); simp; omega
        · have := spl_mem_len c r q (by rw [hs]; simp [hq]); simp; omega

/-- The pieces, as ParseDecCoins meets them. -/
structure Pieces (w : World) (g : Nat) (ps : List Part) (n : Nat) : Prop where
  len : ps.length = n
  ok : ∀ p ∈ ps, p.Ok
  row : ∃ cur : Array Value, Blk w g 9 cur ∧ ∀ (k : Nat) (h : k < ps.length), ∃ q : List UInt8, cur[k]? = some (.string (bs q)) ∧ trim q = ps[k].core ∧ q.length ≤ 100000
theorem Pieces.grow {w w' : World} {g n : Nat} {ps : List Part} (h : Pieces w g ps n) (hu : Upd [] w w') : Pieces w' g ps n := by
  obtain ⟨cur, h1, h2⟩ := h.row
  exact ⟨h.len, h.ok, cur, h1.grow hu, h2⟩
theorem Pieces.get {w : World} {g n : Nat} {ps : List Part} (h : Pieces w g ps n) (k : Nat) (hk : k < ps.length) : ∃ q : List UInt8, w.cell? ⟨g, k, none⟩ = some (.string (bs q)) ∧ trim q = ps[k].core ∧ q.length ≤ 100000 := by
  obtain ⟨cur, h1, h2⟩ := h.row
  obtain ⟨q, h3, h4, h5⟩ := h2 k hk
  exact ⟨q, h1.at_ h3, h4, h5⟩

theorem Pieces.set {w : World} {g n G : Nat} {ps : List Part} {cs : Array Value} {t : TypeId} (h : Pieces w g ps n) (hG : Blk w G t cs) (ht : t ≠ 9) (i : Nat) (u : Value) : Pieces (w.setCell ⟨G, i, none⟩ u) g ps n := by
  obtain ⟨cur, h1, h2⟩ := h.row
  exact ⟨h.len, h.ok, cur, h1.far (p := ⟨G, i, none⟩) (fun e => hG.ne_ h1 ht e.symm) u, h2⟩
theorem row_at {cur : Array Value} {m : Nat} (h : Hid (cur.size = m)) (i : Nat) (hi : i < m) : ∃ v, cur[i]? = some v := ⟨cur[i]'(by rw [h.out]; exact hi), Array.getElem?_eq_getElem _⟩

end Go.Proofs.YtnajekpckbfcdaaGreatDoor
