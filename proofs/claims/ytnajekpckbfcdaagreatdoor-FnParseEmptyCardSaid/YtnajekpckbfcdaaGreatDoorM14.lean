/-
  zzDecCoin.
-/
import Derived.Test.YtnajekpckbfcdaaGreatDoorM13
import Derived.Deep.Cut
import Derived.RegionTactic
import Derived.ChangeAlike
set_option linter.unusedVariables false
set_option linter.unusedSimpArgs false
namespace Go.Proofs.YtnajekpckbfcdaaGreatDoor
open Go.RowKit

/-- What zzDecCoin hands back where nothing matches, and where all does. -/
def NoMatch (w : World) (e : Ending) (w' : World) : Prop := e = .returned (.slice none 0 0) ∧ Upd [] w w'
def Match3 (s a b : List UInt8) (w : World) (e : Ending) (w' : World) : Prop :=
  ∃ g, e = .returned (.slice (some ⟨g, 0, none⟩) 3 3) ∧ Blk w' g 9 #[.string (bs s), .string (bs a), .string (bs b)] ∧ Upd [] w w' ∧ w.heap.size ≤ g

/-- No digits, no point ahead. -/
theorem zzDecCoin_none (l : List UInt8) (hl : l.length ≤ 100000) (h1 : ∀ c, l.head? = some c → isDg c = false ∧ c ≠ 46) (w : World) :
    Calls Tryz.prog 60 #[.string (bs l)] w (NoMatch w) := by
  have HD := hide (fun w => zzDigits_87 [] [] l (by simp) (fun c hc => (h1 c hc).1) (by simpa using hl) w)
  simp only [List.nil_append, List.length_nil] at HD
  have z1 : (bs l).size = l.length := bs_size l
  have n0 : ((0 : Nat) : Int) = 0 := rfl
  rcases Nat.eq_zero_or_pos l.length with hz | hp
  · have t1 : decide ((0 : Int) < (l.length : Int)) = false := decide_eq_false (by omega)
    go_enter Tryz.func60, Tryz.ntmps60
    go_wp2_with fail
    refine (HD.out _).mono ?_
    rintro e w2 ⟨rfl, n, rfl⟩
    go_wp2
    go_ret
    exact ⟨rfl, (Upd.refl _ _).drewN _⟩
  · have t1 : decide ((0 : Int) < (l.length : Int)) = true := decide_eq_true (by omega)
    have hne : ¬ ((l[0]'hp).toNat : Int) = 46 := by
      intro h
      have : l[0]'hp = 46 := (u8_eq _ 46 (by omega)).1 (by simpa using h)
      refine (h1 (l[0]'hp) ?_).2 this
      cases l with
      | nil => simp at hp
      | cons a r => rfl
    have hx : ((bs l)[0]'(by rw [bs_size]; exact hp)) = l[0]'hp := bs_get l 0 _
    have hne2 : ((((bs l)[0]'(by rw [bs_size]; exact hp)).toNat : Int) == 46) = false := by rw [hx]; simpa using hne
    clear hne hx
    go_enter Tryz.func60, Tryz.ntmps60
    go_wp2_with fail
    refine (HD.out _).mono ?_
    rintro e w2 ⟨rfl, n, rfl⟩
    go_wp2
    go_ret
    exact ⟨rfl, (Upd.refl _ _).drewN _⟩

/-- A point with no digit behind it. -/
theorem zzDecCoin_nofrac (l W R : List UInt8) (m : Nat) (hm : m = W.length) (hl0 : l = W ++ 46 :: R) (hW : ∀ x ∈ W, isDg x = true) (hR : ∀ c, R.head? = some c → isDg c = false) (hl : l.length ≤ 100000) (w : World) :
    Calls Tryz.prog 60 #[.string (bs l)] w (NoMatch w) := by
  have z1 : (bs l).size = l.length := bs_size l
  have zl : l.length = m + (R.length + 1) := by rw [hl0]; simp [hm]
  have HD := hide (fun w => zzDigits_87 [] W (46 :: R) hW (fun c hc => by simp at hc; subst hc; rfl) (by simp; omega) w)
  have HF := hide (fun w => zzDigits_87 (W ++ [46]) [] R (by simp) hR (by simp; omega) w)
  have e2 : W ++ [46] ++ [] ++ R = l := by rw [hl0]; simp
  have e3 : (W ++ [46]).length = m + 1 := by simp [hm]
  simp only [List.nil_append, List.length_nil, Nat.zero_add, ← hl0, ← hm] at HD
  rw [e2, e3] at HF
  simp only [List.length_nil, Nat.add_zero] at HF
  have n0 : ((0 : Nat) : Int) = 0 := rfl
  have hml : m < (bs l).size := by omega
  have hc46 : (((((bs l)[m]'hml).toNat : Nat) : Int) == 46) = true := by
    have e : (bs l)[m]'hml = 46 := by
      rw [bs_get l m hml]
      simp only [hl0]
      rw [List.getElem_append_right (by omega)]
      simp [hm]
    rw [e]; rfl
  have u0 : wrap64 ((m : Int) + 1) = ((m + 1 : Nat) : Int) := by unfold wrap64; omega
  have t0 : decide ((m : Int) < (l.length : Int)) = true := decide_eq_true (by omega)
  have hmm : m < l.length := by omega
  clear hW hR hl0 n0 e2 e3 hm zl
  go_enter Tryz.func60, Tryz.ntmps60
  go_wp2_with fail
  refine (HD.out _).mono ?_
  rintro e w2 ⟨rfl, q0, rfl⟩
  clear HD
  go_wp2_with fail
  refine (HF.out _).mono ?_
  rintro e w3 ⟨rfl, q1, rfl⟩
  clear HF hc46
  go_wp2
  go_ret
  exact ⟨rfl, (Upd.refl _ _).drewN _⟩

set_option maxHeartbeats 1000000 in
theorem zzDecCoin_plain_empty (l N  M D : List UInt8) (n : Nat) (hW : ∀ x ∈ N, isDg x = true) (hn : 0 < n) (hR : ∀ c, (M ++ D).head? = some c → isDg c = false ∧ c ≠ 46) (hN : N.length = n) (hl0 : l = N ++ (M ++ D)) (hM : ∀ x ∈ M, bl x = true) (hD : D = []) (hl : l.length ≤ 100000) (w : World) :
    Calls Tryz.prog 60 #[.string (bs l)] w (NoMatch w) := by
  have z1 : (bs l).size = l.length := bs_size l
  have zl : l.length = n + (M.length + D.length) := by rw [hl0]; simp [hN]
  have hle : n + M.length ≤ l.length := by omega
  have HB := hide (fun (i : Nat) (h1 : n ≤ i) (h2 : i < n + M.length) (h : i < (bs l).size) => (show bl ((bs l)[i]'h) = true from by
    rw [bs_get l i h]
    have e : l[i]'(by omega) = M[i - n]'(by omega) := by
      simp only [hl0]
      rw [List.getElem_append_right (by omega), List.getElem_append_left (by omega)]
      congr 1; omega
    rw [e]; exact hM _ (List.getElem_mem _)))
  have hdl : D.length = 0 := by rw [hD]; rfl
  have HV := hide (fun w => zzDenom_88 [] (by simp) w)
  rw [show isDen [] = false from rfl] at HV
  have HD := hide (fun w => zzDigits_87 [] N (M ++ D) hW (fun c hc => (hR c hc).1) (by simp only [List.length_append, List.length_nil]; omega) w)
  simp only [List.nil_append, List.length_nil, Nat.zero_add, ← hl0, hN] at HD
  have n0 : ((0 : Nat) : Int) = 0 := rfl
  have hn0 : ¬ (n : Int) = 0 := by omega
  have hn1 : ((n : Int) == 0) = false := beq_eq_false_iff_ne.2 hn0
  have hcase : l.length = n ∨ ∃ h : n < (bs l).size, (((((bs l)[n]'h).toNat : Nat) : Int) == 46) = false := by
    cases hmd : M ++ D with
    | nil => left; rw [hl0, hmd]; simp [hN]
    | cons c r =>
      right
      have hlt : n < (bs l).size := by rw [bs_size, hl0, hmd]; simp [hN]
      refine ⟨hlt, ?_⟩
      have e : (bs l)[n]'hlt = c := by
        rw [bs_get l n hlt]
        simp only [hl0, hmd]
        rw [List.getElem_append_right (by omega)]
        simp [hN]
      rw [e, beq_eq_false_iff_ne]
      intro h
      exact (hR c (by rw [hmd]; rfl)).2 ((u8_eq _ 46 (by omega)).1 (by simpa using h))
  have ZL := hide zl
  have HDL := hide hdl
  clear hW hR hM hl0 hN n0 zl hdl hD
  rcases hcase with hc | ⟨hlt, hc⟩
  · have t0 : decide ((n : Int) < (l.length : Int)) = false := decide_eq_false (by omega)
    have t0' : ¬ (n : Int) < (l.length : Int) := by omega
    have hc0 : l.length ≤ n := by omega
    clear hc
    go_enter Tryz.func60, Tryz.ntmps60
    go_wp2_with fail
    refine (HD.out _).mono ?_
    rintro e w2 ⟨rfl, q0, rfl⟩
    clear HD
    go_wp2
    go_loopw [5] (fun v wr => ∃ i : Nat, n ≤ i ∧ i ≤ n + M.length ∧ v = .int .i64 i ∧ Upd [] w wr) (fun v _ => l.length - (intOf v).toNat)
    case atStart => exact ⟨n, Nat.le_refl _, by omega, rfl, by first | exact (Upd.refl _ _).drewN _ | exact ((Upd.refl _ _).drewN _).drewN _⟩
    case round =>
      obtain ⟨i, hi1, hi2, rfl, hu⟩ := hrel
      rcases (by omega : i < n + M.length ∨ i = n + M.length) with hlt | heq0
      · exfalso; have := ZL.out; omega
      · have heq := hide heq0
        have hge : n + M.length ≤ i := by omega
        clear heq0
        have hil : i = l.length := by have := ZL.out; have := heq.out; have := HDL.out; omega
        subst hil
        have t1 : decide ((l.length : Int) < (l.length : Int)) = false := decide_eq_false (by omega)
        have hx : (bs l).extract l.length l.length = bs [] := by rw [bs_extract]; simp
        go_wp2_with fail
        refine (HV.out _).mono ?_
        rintro e w3 ⟨rfl, q, rfl⟩
        go_wp2
        go_ret
        exact ⟨rfl, hu.drewN _⟩
  · have hlt' : n < l.length := by omega
    have t0 : decide ((n : Int) < (l.length : Int)) = true := decide_eq_true (by omega)
    go_enter Tryz.func60, Tryz.ntmps60
    go_wp2_with fail
    refine (HD.out _).mono ?_
    rintro e w2 ⟨rfl, q0, rfl⟩
    clear HD
    go_wp2
    clear hc t0
    go_loopw [5] (fun v wr => ∃ i : Nat, n ≤ i ∧ i ≤ n + M.length ∧ v = .int .i64 i ∧ Upd [] w wr) (fun v _ => l.length - (intOf v).toNat)
    case atStart => exact ⟨n, Nat.le_refl _, by omega, rfl, by first | exact (Upd.refl _ _).drewN _ | exact ((Upd.refl _ _).drewN _).drewN _⟩
    case round =>
      obtain ⟨i, hi1, hi2, rfl, hu⟩ := hrel
      rcases (by omega : i < n + M.length ∨ i = n + M.length) with hlt | heq0
      · have hil : i < (bs l).size := by omega
        have hb := HB.out i hi1 hlt hil
        have HZ := hide (fun w => zzBlank_66 ((bs l)[i]'hil) w)
        rw [hb] at HZ
        clear hb
        have t1 : decide ((i : Int) < (l.length : Int)) = true := decide_eq_true (by omega)
        have u1 : wrap64 ((i : Int) + 1) = ((i + 1 : Nat) : Int) := by unfold wrap64; omega
        go_wp2_with fail
        refine (HZ.out _).mono ?_
        rintro e w3 ⟨rfl, q, rfl⟩
        clear HZ
        go_wp2
        go_roundw
        case rel => exact ⟨i + 1, by omega, by omega, by first | rfl | (rw [u1]) | go_num, hu.drewN _⟩
        case measure => simp [intOf]; omega
      · have heq := hide heq0
        have hge : n + M.length ≤ i := by omega
        clear heq0
        have hil : i = l.length := by have := ZL.out; have := heq.out; have := HDL.out; omega
        subst hil
        have t1 : decide ((l.length : Int) < (l.length : Int)) = false := decide_eq_false (by omega)
        have hx : (bs l).extract l.length l.length = bs [] := by rw [bs_extract]; simp
        go_wp2_with fail
        refine (HV.out _).mono ?_
        rintro e w3 ⟨rfl, q, rfl⟩
        go_wp2
        go_ret
        exact ⟨rfl, hu.drewN _⟩

set_option maxHeartbeats 1000000 in
theorem zzDecCoin_point_empty (l N W F M D : List UInt8) (n : Nat) (m : Nat) (hm : m = W.length) (hNN : N = W ++ 46 :: F) (hW : ∀ x ∈ W, isDg x = true) (hF : ∀ x ∈ F, isDg x = true) (hFne : F ≠ []) (hR : ∀ c, (M ++ D).head? = some c → isDg c = false) (hN : N.length = n) (hl0 : l = N ++ (M ++ D)) (hM : ∀ x ∈ M, bl x = true) (hD : D = []) (hl : l.length ≤ 100000) (w : World) :
    Calls Tryz.prog 60 #[.string (bs l)] w (NoMatch w) := by
  have z1 : (bs l).size = l.length := bs_size l
  have zl : l.length = n + (M.length + D.length) := by rw [hl0]; simp [hN]
  have hle : n + M.length ≤ l.length := by omega
  have HB := hide (fun (i : Nat) (h1 : n ≤ i) (h2 : i < n + M.length) (h : i < (bs l).size) => (show bl ((bs l)[i]'h) = true from by
    rw [bs_get l i h]
    have e : l[i]'(by omega) = M[i - n]'(by omega) := by
      simp only [hl0]
      rw [List.getElem_append_right (by omega), List.getElem_append_left (by omega)]
      congr 1; omega
    rw [e]; exact hM _ (List.getElem_mem _)))
  have hdl : D.length = 0 := by rw [hD]; rfl
  have HV := hide (fun w => zzDenom_88 [] (by simp) w)
  rw [show isDen [] = false from rfl] at HV
  have hW0 : m = W.length := hm
  have HD := hide (fun w => zzDigits_87 [] W (46 :: (F ++ (M ++ D))) hW (fun c hc => by simp at hc; subst hc; rfl) (by have := congrArg List.length hl0; simp [hNN] at this; simp; omega) w)
  have HF := hide (fun w => zzDigits_87 (W ++ [46]) F (M ++ D) hF hR (by have := congrArg List.length hl0; simp [hNN] at this; simp; omega) w)
  have e1 : W ++ 46 :: (F ++ (M ++ D)) = l := by rw [hl0, hNN]; simp
  have e2 : W ++ [46] ++ F ++ (M ++ D) = l := by rw [hl0, hNN]; simp
  have e3 : (W ++ [46]).length = m + 1 := by simp [hm]
  have e4 : n = m + 1 + F.length := by rw [← hN, hNN]; simp [hm]; omega
  simp only [List.nil_append, List.length_nil, Nat.zero_add, e1, ← hm] at HD
  rw [e2, e3, ← e4] at HF
  have n0 : ((0 : Nat) : Int) = 0 := rfl
  have hml : m < (bs l).size := by omega
  have hc46 : (((((bs l)[m]'hml).toNat : Nat) : Int) == 46) = true := by
    have e : (bs l)[m]'hml = 46 := by
      rw [bs_get l m hml]
      simp only [← e1]
      rw [List.getElem_append_right (by omega)]
      simp [hm]
    rw [e]; rfl
  have hfl : 0 < F.length := by cases F with
    | nil => exact absurd rfl hFne
    | cons a r => simp
  have hmn : m + 1 < n := by omega
  have t1 : ((n : Int) == (m : Int) + 1) = false := beq_eq_false_iff_ne.2 (by omega)
  have t1' : ((n : Int) == ((m + 1 : Nat) : Int)) = false := beq_eq_false_iff_ne.2 (by omega)
  have hn0 : ¬ (n : Int) = 0 := by omega
  have hn1 : ((n : Int) == 0) = false := beq_eq_false_iff_ne.2 hn0
  have u0 : wrap64 ((m : Int) + 1) = ((m + 1 : Nat) : Int) := by unfold wrap64; omega
  have t0 : decide ((m : Int) < (l.length : Int)) = true := decide_eq_true (by omega)
  have hmm : m < l.length := by omega
  have ZL := hide zl
  have HDL := hide hdl
  clear hW hR hM hl0 hN n0 hNN hFne hF e1 e2 e3 e4 hm hW0 hfl zl hdl hD
  go_enter Tryz.func60, Tryz.ntmps60
  go_wp2_with fail
  refine (HD.out _).mono ?_
  rintro e w2 ⟨rfl, q0, rfl⟩
  clear HD
  go_wp2_with fail
  refine (HF.out _).mono ?_
  rintro e w3 ⟨rfl, q1, rfl⟩
  clear HF hc46
  go_wp2
  · skip
    go_loopw [5] (fun v wr => ∃ i : Nat, n ≤ i ∧ i ≤ n + M.length ∧ v = .int .i64 i ∧ Upd [] w wr) (fun v _ => l.length - (intOf v).toNat)
    case atStart => exact ⟨n, Nat.le_refl _, by omega, rfl, by first | exact (Upd.refl _ _).drewN _ | exact ((Upd.refl _ _).drewN _).drewN _⟩
    case round =>
      obtain ⟨i, hi1, hi2, rfl, hu⟩ := hrel
      rcases (by omega : i < n + M.length ∨ i = n + M.length) with hlt | heq0
      · have hil : i < (bs l).size := by omega
        have hb := HB.out i hi1 hlt hil
        have HZ := hide (fun w => zzBlank_66 ((bs l)[i]'hil) w)
        rw [hb] at HZ
        clear hb
        have t1 : decide ((i : Int) < (l.length : Int)) = true := decide_eq_true (by omega)
        have u1 : wrap64 ((i : Int) + 1) = ((i + 1 : Nat) : Int) := by unfold wrap64; omega
        go_wp2_with fail
        refine (HZ.out _).mono ?_
        rintro e w3 ⟨rfl, q, rfl⟩
        clear HZ
        go_wp2
        go_roundw
        case rel => exact ⟨i + 1, by omega, by omega, by first | rfl | (rw [u1]) | go_num, hu.drewN _⟩
        case measure => simp [intOf]; omega
      · have heq := hide heq0
        have hge : n + M.length ≤ i := by omega
        clear heq0
        have hil : i = l.length := by have := ZL.out; have := heq.out; have := HDL.out; omega
        subst hil
        have t1 : decide ((l.length : Int) < (l.length : Int)) = false := decide_eq_false (by omega)
        have hx : (bs l).extract l.length l.length = bs [] := by rw [bs_extract]; simp
        go_wp2_with fail
        refine (HV.out _).mono ?_
        rintro e w3 ⟨rfl, q, rfl⟩
        go_wp2
        go_ret
        exact ⟨rfl, hu.drewN _⟩

set_option maxHeartbeats 1000000 in
theorem zzDecCoin_plain_no (l N  M D : List UInt8) (n : Nat) (hW : ∀ x ∈ N, isDg x = true) (hn : 0 < n) (hR : ∀ c, (M ++ D).head? = some c → isDg c = false ∧ c ≠ 46) (hN : N.length = n) (hl0 : l = N ++ (M ++ D)) (hM : ∀ x ∈ M, bl x = true) (hD : isDen D = false) (hne : ∃ c r, D = c :: r ∧ bl c = false) (hl : l.length ≤ 100000) (w : World) :
    Calls Tryz.prog 60 #[.string (bs l)] w (NoMatch w) := by
  have z1 : (bs l).size = l.length := bs_size l
  have zl : l.length = n + (M.length + D.length) := by rw [hl0]; simp [hN]
  have hle : n + M.length ≤ l.length := by omega
  have HB := hide (fun (i : Nat) (h1 : n ≤ i) (h2 : i < n + M.length) (h : i < (bs l).size) => (show bl ((bs l)[i]'h) = true from by
    rw [bs_get l i h]
    have e : l[i]'(by omega) = M[i - n]'(by omega) := by
      simp only [hl0]
      rw [List.getElem_append_right (by omega), List.getElem_append_left (by omega)]
      congr 1; omega
    rw [e]; exact hM _ (List.getElem_mem _)))
  have HE := hide (fun (i : Nat) (h1 : i = n + M.length) (h : i < (bs l).size) => (show bl ((bs l)[i]'h) = false from by
    obtain ⟨c, r, rfl, hc⟩ := hne
    rw [bs_get l i h]
    have e : l[i]'(by omega) = c := by
      simp only [hl0]
      rw [List.getElem_append_right (by omega), List.getElem_append_right (by omega)]
      simp only [h1, hN, Nat.add_sub_cancel_left, Nat.sub_self, List.getElem_cons_zero]
    rw [e]; exact hc))
  have hdl : 0 < D.length := by obtain ⟨c, r, rfl, _⟩ := hne; simp
  have HX := hide (show (bs l).extract (n + M.length) l.length = bs D by
    rw [bs_extract, List.take_of_length_le (Nat.le_refl _), hl0, ← List.append_assoc, List.drop_left' (by simp [hN])])
  have HN := hide (show (bs l).extract 0 n = bs N by
    rw [bs_extract, hl0, List.take_left' hN]; rfl)
  have HV := hide (fun w => zzDenom_88 D (by omega) w)
  rw [hD] at HV
  have HD := hide (fun w => zzDigits_87 [] N (M ++ D) hW (fun c hc => (hR c hc).1) (by simp only [List.length_append, List.length_nil]; omega) w)
  simp only [List.nil_append, List.length_nil, Nat.zero_add, ← hl0, hN] at HD
  have n0 : ((0 : Nat) : Int) = 0 := rfl
  have hn0 : ¬ (n : Int) = 0 := by omega
  have hn1 : ((n : Int) == 0) = false := beq_eq_false_iff_ne.2 hn0
  have hcase : l.length = n ∨ ∃ h : n < (bs l).size, (((((bs l)[n]'h).toNat : Nat) : Int) == 46) = false := by
    cases hmd : M ++ D with
    | nil => left; rw [hl0, hmd]; simp [hN]
    | cons c r =>
      right
      have hlt : n < (bs l).size := by rw [bs_size, hl0, hmd]; simp [hN]
      refine ⟨hlt, ?_⟩
      have e : (bs l)[n]'hlt = c := by
        rw [bs_get l n hlt]
        simp only [hl0, hmd]
        rw [List.getElem_append_right (by omega)]
        simp [hN]
      rw [e, beq_eq_false_iff_ne]
      intro h
      exact (hR c (by rw [hmd]; rfl)).2 ((u8_eq _ 46 (by omega)).1 (by simpa using h))
  have ZL := hide zl
  have HDL := hide hdl
  clear hW hR hM hl0 hN n0 hne hD zl hdl
  rcases hcase with hc | ⟨hlt, hc⟩
  · exfalso; have := ZL.out; have := HDL.out; omega
  · have hlt' : n < l.length := by omega
    have t0 : decide ((n : Int) < (l.length : Int)) = true := decide_eq_true (by omega)
    go_enter Tryz.func60, Tryz.ntmps60
    go_wp2_with fail
    refine (HD.out _).mono ?_
    rintro e w2 ⟨rfl, q0, rfl⟩
    clear HD
    go_wp2
    clear hc t0
    go_loopw [5] (fun v wr => ∃ i : Nat, n ≤ i ∧ i ≤ n + M.length ∧ v = .int .i64 i ∧ Upd [] w wr) (fun v _ => l.length - (intOf v).toNat)
    case atStart => exact ⟨n, Nat.le_refl _, by omega, rfl, by first | exact (Upd.refl _ _).drewN _ | exact ((Upd.refl _ _).drewN _).drewN _⟩
    case round =>
      obtain ⟨i, hi1, hi2, rfl, hu⟩ := hrel
      rcases (by omega : i < n + M.length ∨ i = n + M.length) with hlt | heq0
      · have hil : i < (bs l).size := by omega
        have hb := HB.out i hi1 hlt hil
        have HZ := hide (fun w => zzBlank_66 ((bs l)[i]'hil) w)
        rw [hb] at HZ
        clear hb
        have t1 : decide ((i : Int) < (l.length : Int)) = true := decide_eq_true (by omega)
        have u1 : wrap64 ((i : Int) + 1) = ((i + 1 : Nat) : Int) := by unfold wrap64; omega
        go_wp2_with fail
        refine (HZ.out _).mono ?_
        rintro e w3 ⟨rfl, q, rfl⟩
        clear HZ
        go_wp2
        go_roundw
        case rel => exact ⟨i + 1, by omega, by omega, by first | rfl | (rw [u1]) | go_num, hu.drewN _⟩
        case measure => simp [intOf]; omega
      · have heq := hide heq0
        have hge : n + M.length ≤ i := by omega
        clear heq0
        have hil : i < (bs l).size := by have := ZL.out; have := heq.out; have := HDL.out; omega
        have hb := HE.out i heq.out hil
        have HZ := hide (fun w => zzBlank_66 ((bs l)[i]'hil) w)
        rw [hb] at HZ
        clear hb
        have hx : (bs l).extract i l.length = bs D := by rw [heq.out]; exact HX.out
        have t1 : decide ((i : Int) < (l.length : Int)) = true := decide_eq_true (by omega)
        go_wp2_with fail
        refine (HZ.out _).mono ?_
        rintro e w3 ⟨rfl, q, rfl⟩
        have hu3 := hu.drewN q
        clear HZ hu
        generalize wr.drewN q = w4 at hu3 ⊢
        go_wp2_with fail
        refine (HV.out _).mono ?_
        rintro e w5 ⟨rfl, q5, rfl⟩
        go_wp2
        go_ret
        exact ⟨rfl, hu3.drewN _⟩

set_option maxHeartbeats 1000000 in
theorem zzDecCoin_point_no (l N W F M D : List UInt8) (n : Nat) (m : Nat) (hm : m = W.length) (hNN : N = W ++ 46 :: F) (hW : ∀ x ∈ W, isDg x = true) (hF : ∀ x ∈ F, isDg x = true) (hFne : F ≠ []) (hR : ∀ c, (M ++ D).head? = some c → isDg c = false) (hN : N.length = n) (hl0 : l = N ++ (M ++ D)) (hM : ∀ x ∈ M, bl x = true) (hD : isDen D = false) (hne : ∃ c r, D = c :: r ∧ bl c = false) (hl : l.length ≤ 100000) (w : World) :
    Calls Tryz.prog 60 #[.string (bs l)] w (NoMatch w) := by
  have z1 : (bs l).size = l.length := bs_size l
  have zl : l.length = n + (M.length + D.length) := by rw [hl0]; simp [hN]
  have hle : n + M.length ≤ l.length := by omega
  have HB := hide (fun (i : Nat) (h1 : n ≤ i) (h2 : i < n + M.length) (h : i < (bs l).size) => (show bl ((bs l)[i]'h) = true from by
    rw [bs_get l i h]
    have e : l[i]'(by omega) = M[i - n]'(by omega) := by
      simp only [hl0]
      rw [List.getElem_append_right (by omega), List.getElem_append_left (by omega)]
      congr 1; omega
    rw [e]; exact hM _ (List.getElem_mem _)))
  have HE := hide (fun (i : Nat) (h1 : i = n + M.length) (h : i < (bs l).size) => (show bl ((bs l)[i]'h) = false from by
    obtain ⟨c, r, rfl, hc⟩ := hne
    rw [bs_get l i h]
    have e : l[i]'(by omega) = c := by
      simp only [hl0]
      rw [List.getElem_append_right (by omega), List.getElem_append_right (by omega)]
      simp only [h1, hN, Nat.add_sub_cancel_left, Nat.sub_self, List.getElem_cons_zero]
    rw [e]; exact hc))
  have hdl : 0 < D.length := by obtain ⟨c, r, rfl, _⟩ := hne; simp
  have HX := hide (show (bs l).extract (n + M.length) l.length = bs D by
    rw [bs_extract, List.take_of_length_le (Nat.le_refl _), hl0, ← List.append_assoc, List.drop_left' (by simp [hN])])
  have HN := hide (show (bs l).extract 0 n = bs N by
    rw [bs_extract, hl0, List.take_left' hN]; rfl)
  have HV := hide (fun w => zzDenom_88 D (by omega) w)
  rw [hD] at HV
  have hW0 : m = W.length := hm
  have HD := hide (fun w => zzDigits_87 [] W (46 :: (F ++ (M ++ D))) hW (fun c hc => by simp at hc; subst hc; rfl) (by have := congrArg List.length hl0; simp [hNN] at this; simp; omega) w)
  have HF := hide (fun w => zzDigits_87 (W ++ [46]) F (M ++ D) hF hR (by have := congrArg List.length hl0; simp [hNN] at this; simp; omega) w)
  have e1 : W ++ 46 :: (F ++ (M ++ D)) = l := by rw [hl0, hNN]; simp
  have e2 : W ++ [46] ++ F ++ (M ++ D) = l := by rw [hl0, hNN]; simp
  have e3 : (W ++ [46]).length = m + 1 := by simp [hm]
  have e4 : n = m + 1 + F.length := by rw [← hN, hNN]; simp [hm]; omega
  simp only [List.nil_append, List.length_nil, Nat.zero_add, e1, ← hm] at HD
  rw [e2, e3, ← e4] at HF
  have n0 : ((0 : Nat) : Int) = 0 := rfl
  have hml : m < (bs l).size := by omega
  have hc46 : (((((bs l)[m]'hml).toNat : Nat) : Int) == 46) = true := by
    have e : (bs l)[m]'hml = 46 := by
      rw [bs_get l m hml]
      simp only [← e1]
      rw [List.getElem_append_right (by omega)]
      simp [hm]
    rw [e]; rfl
  have hfl : 0 < F.length := by cases F with
    | nil => exact absurd rfl hFne
    | cons a r => simp
  have hmn : m + 1 < n := by omega
  have t1 : ((n : Int) == (m : Int) + 1) = false := beq_eq_false_iff_ne.2 (by omega)
  have t1' : ((n : Int) == ((m + 1 : Nat) : Int)) = false := beq_eq_false_iff_ne.2 (by omega)
  have hn0 : ¬ (n : Int) = 0 := by omega
  have hn1 : ((n : Int) == 0) = false := beq_eq_false_iff_ne.2 hn0
  have u0 : wrap64 ((m : Int) + 1) = ((m + 1 : Nat) : Int) := by unfold wrap64; omega
  have t0 : decide ((m : Int) < (l.length : Int)) = true := decide_eq_true (by omega)
  have hmm : m < l.length := by omega
  have ZL := hide zl
  have HDL := hide hdl
  clear hW hR hM hl0 hN n0 hNN hFne hF e1 e2 e3 e4 hm hW0 hfl hne hD zl hdl
  go_enter Tryz.func60, Tryz.ntmps60
  go_wp2_with fail
  refine (HD.out _).mono ?_
  rintro e w2 ⟨rfl, q0, rfl⟩
  clear HD
  go_wp2_with fail
  refine (HF.out _).mono ?_
  rintro e w3 ⟨rfl, q1, rfl⟩
  clear HF hc46
  go_wp2
  · skip
    go_loopw [5] (fun v wr => ∃ i : Nat, n ≤ i ∧ i ≤ n + M.length ∧ v = .int .i64 i ∧ Upd [] w wr) (fun v _ => l.length - (intOf v).toNat)
    case atStart => exact ⟨n, Nat.le_refl _, by omega, rfl, by first | exact (Upd.refl _ _).drewN _ | exact ((Upd.refl _ _).drewN _).drewN _⟩
    case round =>
      obtain ⟨i, hi1, hi2, rfl, hu⟩ := hrel
      rcases (by omega : i < n + M.length ∨ i = n + M.length) with hlt | heq0
      · have hil : i < (bs l).size := by omega
        have hb := HB.out i hi1 hlt hil
        have HZ := hide (fun w => zzBlank_66 ((bs l)[i]'hil) w)
        rw [hb] at HZ
        clear hb
        have t1 : decide ((i : Int) < (l.length : Int)) = true := decide_eq_true (by omega)
        have u1 : wrap64 ((i : Int) + 1) = ((i + 1 : Nat) : Int) := by unfold wrap64; omega
        go_wp2_with fail
        refine (HZ.out _).mono ?_
        rintro e w3 ⟨rfl, q, rfl⟩
        clear HZ
        go_wp2
        go_roundw
        case rel => exact ⟨i + 1, by omega, by omega, by first | rfl | (rw [u1]) | go_num, hu.drewN _⟩
        case measure => simp [intOf]; omega
      · have heq := hide heq0
        have hge : n + M.length ≤ i := by omega
        clear heq0
        have hil : i < (bs l).size := by have := ZL.out; have := heq.out; have := HDL.out; omega
        have hb := HE.out i heq.out hil
        have HZ := hide (fun w => zzBlank_66 ((bs l)[i]'hil) w)
        rw [hb] at HZ
        clear hb
        have hx : (bs l).extract i l.length = bs D := by rw [heq.out]; exact HX.out
        have t1 : decide ((i : Int) < (l.length : Int)) = true := decide_eq_true (by omega)
        go_wp2_with fail
        refine (HZ.out _).mono ?_
        rintro e w3 ⟨rfl, q, rfl⟩
        have hu3 := hu.drewN q
        clear HZ hu
        generalize wr.drewN q = w4 at hu3 ⊢
        go_wp2_with fail
        refine (HV.out _).mono ?_
        rintro e w5 ⟨rfl, q5, rfl⟩
        go_wp2
        go_ret
        exact ⟨rfl, hu3.drewN _⟩

set_option maxHeartbeats 1000000 in
theorem zzDecCoin_plain_yes (l N  M D : List UInt8) (n : Nat) (hW : ∀ x ∈ N, isDg x = true) (hn : 0 < n) (hR : ∀ c, (M ++ D).head? = some c → isDg c = false ∧ c ≠ 46) (hN : N.length = n) (hl0 : l = N ++ (M ++ D)) (hM : ∀ x ∈ M, bl x = true) (hD : isDen D = true) (hne : ∃ c r, D = c :: r ∧ bl c = false) (hl : l.length ≤ 100000) (w : World) :
    Calls Tryz.prog 60 #[.string (bs l)] w (Match3 l N D w) := by
  have z1 : (bs l).size = l.length := bs_size l
  have zl : l.length = n + (M.length + D.length) := by rw [hl0]; simp [hN]
  have hle : n + M.length ≤ l.length := by omega
  have HB := hide (fun (i : Nat) (h1 : n ≤ i) (h2 : i < n + M.length) (h : i < (bs l).size) => (show bl ((bs l)[i]'h) = true from by
    rw [bs_get l i h]
    have e : l[i]'(by omega) = M[i - n]'(by omega) := by
      simp only [hl0]
      rw [List.getElem_append_right (by omega), List.getElem_append_left (by omega)]
      congr 1; omega
    rw [e]; exact hM _ (List.getElem_mem _)))
  have HE := hide (fun (i : Nat) (h1 : i = n + M.length) (h : i < (bs l).size) => (show bl ((bs l)[i]'h) = false from by
    obtain ⟨c, r, rfl, hc⟩ := hne
    rw [bs_get l i h]
    have e : l[i]'(by omega) = c := by
      simp only [hl0]
      rw [List.getElem_append_right (by omega), List.getElem_append_right (by omega)]
      simp only [h1, hN, Nat.add_sub_cancel_left, Nat.sub_self, List.getElem_cons_zero]
    rw [e]; exact hc))
  have hdl : 0 < D.length := by obtain ⟨c, r, rfl, _⟩ := hne; simp
  have HX := hide (show (bs l).extract (n + M.length) l.length = bs D by
    rw [bs_extract, List.take_of_length_le (Nat.le_refl _), hl0, ← List.append_assoc, List.drop_left' (by simp [hN])])
  have HN := hide (show (bs l).extract 0 n = bs N by
    rw [bs_extract, hl0, List.take_left' hN]; rfl)
  have HV := hide (fun w => zzDenom_88 D (by omega) w)
  rw [hD] at HV
  have HD := hide (fun w => zzDigits_87 [] N (M ++ D) hW (fun c hc => (hR c hc).1) (by simp only [List.length_append, List.length_nil]; omega) w)
  simp only [List.nil_append, List.length_nil, Nat.zero_add, ← hl0, hN] at HD
  have n0 : ((0 : Nat) : Int) = 0 := rfl
  have hn0 : ¬ (n : Int) = 0 := by omega
  have hn1 : ((n : Int) == 0) = false := beq_eq_false_iff_ne.2 hn0
  have hcase : l.length = n ∨ ∃ h : n < (bs l).size, (((((bs l)[n]'h).toNat : Nat) : Int) == 46) = false := by
    cases hmd : M ++ D with
    | nil => left; rw [hl0, hmd]; simp [hN]
    | cons c r =>
      right
      have hlt : n < (bs l).size := by rw [bs_size, hl0, hmd]; simp [hN]
      refine ⟨hlt, ?_⟩
      have e : (bs l)[n]'hlt = c := by
        rw [bs_get l n hlt]
        simp only [hl0, hmd]
        rw [List.getElem_append_right (by omega)]
        simp [hN]
      rw [e, beq_eq_false_iff_ne]
      intro h
      exact (hR c (by rw [hmd]; rfl)).2 ((u8_eq _ 46 (by omega)).1 (by simpa using h))
  have ZL := hide zl
  have HDL := hide hdl
  clear hW hR hM hl0 hN n0 hne hD zl hdl
  rcases hcase with hc | ⟨hlt, hc⟩
  · exfalso; have := ZL.out; have := HDL.out; omega
  · have hlt' : n < l.length := by omega
    have t0 : decide ((n : Int) < (l.length : Int)) = true := decide_eq_true (by omega)
    go_enter Tryz.func60, Tryz.ntmps60
    go_wp2_with fail
    refine (HD.out _).mono ?_
    rintro e w2 ⟨rfl, q0, rfl⟩
    clear HD
    go_wp2
    clear hc t0
    go_loopw [5] (fun v wr => ∃ i : Nat, n ≤ i ∧ i ≤ n + M.length ∧ v = .int .i64 i ∧ Upd [] w wr) (fun v _ => l.length - (intOf v).toNat)
    case atStart => exact ⟨n, Nat.le_refl _, by omega, rfl, by first | exact (Upd.refl _ _).drewN _ | exact ((Upd.refl _ _).drewN _).drewN _⟩
    case round =>
      obtain ⟨i, hi1, hi2, rfl, hu⟩ := hrel
      rcases (by omega : i < n + M.length ∨ i = n + M.length) with hlt | heq0
      · have hil : i < (bs l).size := by omega
        have hb := HB.out i hi1 hlt hil
        have HZ := hide (fun w => zzBlank_66 ((bs l)[i]'hil) w)
        rw [hb] at HZ
        clear hb
        have t1 : decide ((i : Int) < (l.length : Int)) = true := decide_eq_true (by omega)
        have u1 : wrap64 ((i : Int) + 1) = ((i + 1 : Nat) : Int) := by unfold wrap64; omega
        go_wp2_with fail
        refine (HZ.out _).mono ?_
        rintro e w3 ⟨rfl, q, rfl⟩
        clear HZ
        go_wp2
        go_roundw
        case rel => exact ⟨i + 1, by omega, by omega, by first | rfl | (rw [u1]) | go_num, hu.drewN _⟩
        case measure => simp [intOf]; omega
      · have heq := hide heq0
        have hge : n + M.length ≤ i := by omega
        clear heq0
        have hil : i < (bs l).size := by have := ZL.out; have := heq.out; have := HDL.out; omega
        have hb := HE.out i heq.out hil
        have HZ := hide (fun w => zzBlank_66 ((bs l)[i]'hil) w)
        rw [hb] at HZ
        clear hb
        have hx : (bs l).extract i l.length = bs D := by rw [heq.out]; exact HX.out
        have t1 : decide ((i : Int) < (l.length : Int)) = true := decide_eq_true (by omega)
        go_wp2_with fail
        refine (HZ.out _).mono ?_
        rintro e w3 ⟨rfl, q, rfl⟩
        have hu3 := hu.drewN q
        clear HZ hu
        generalize wr.drewN q = w4 at hu3 ⊢
        go_wp2_with fail
        refine (HV.out _).mono ?_
        rintro e w5 ⟨rfl, q5, rfl⟩
        have hu5 := hu3.drewN q5
        clear hu3
        generalize w4.drewN q5 = w6 at hu5 ⊢
        have hx2 : (bs l).extract 0 n = bs N := HN.out
        have t3 : (n : Int) ≤ (l.length : Int) := by omega
        have t4 : (i : Int) ≤ (l.length : Int) := by omega
        go_wp2_with fail
        go_region
        all_goals (
          go_wp2
          go_ret
          exact ⟨w6.heap.size, by simp, Blk.new _ _ _, (hu5.alloc _).drew, hu5.size⟩)

set_option maxHeartbeats 1000000 in
theorem zzDecCoin_point_yes (l N W F M D : List UInt8) (n : Nat) (m : Nat) (hm : m = W.length) (hNN : N = W ++ 46 :: F) (hW : ∀ x ∈ W, isDg x = true) (hF : ∀ x ∈ F, isDg x = true) (hFne : F ≠ []) (hR : ∀ c, (M ++ D).head? = some c → isDg c = false) (hN : N.length = n) (hl0 : l = N ++ (M ++ D)) (hM : ∀ x ∈ M, bl x = true) (hD : isDen D = true) (hne : ∃ c r, D = c :: r ∧ bl c = false) (hl : l.length ≤ 100000) (w : World) :
    Calls Tryz.prog 60 #[.string (bs l)] w (Match3 l N D w) := by
  have z1 : (bs l).size = l.length := bs_size l
  have zl : l.length = n + (M.length + D.length) := by rw [hl0]; simp [hN]
  have hle : n + M.length ≤ l.length := by omega
  have HB := hide (fun (i : Nat) (h1 : n ≤ i) (h2 : i < n + M.length) (h : i < (bs l).size) => (show bl ((bs l)[i]'h) = true from by
    rw [bs_get l i h]
    have e : l[i]'(by omega) = M[i - n]'(by omega) := by
      simp only [hl0]
      rw [List.getElem_append_right (by omega), List.getElem_append_left (by omega)]
      congr 1; omega
    rw [e]; exact hM _ (List.getElem_mem _)))
  have HE := hide (fun (i : Nat) (h1 : i = n + M.length) (h : i < (bs l).size) => (show bl ((bs l)[i]'h) = false from by
    obtain ⟨c, r, rfl, hc⟩ := hne
    rw [bs_get l i h]
    have e : l[i]'(by omega) = c := by
      simp only [hl0]
      rw [List.getElem_append_right (by omega), List.getElem_append_right (by omega)]
      simp only [h1, hN, Nat.add_sub_cancel_left, Nat.sub_self, List.getElem_cons_zero]
    rw [e]; exact hc))
  have hdl : 0 < D.length := by obtain ⟨c, r, rfl, _⟩ := hne; simp
  have HX := hide (show (bs l).extract (n + M.length) l.length = bs D by
    rw [bs_extract, List.take_of_length_le (Nat.le_refl _), hl0, ← List.append_assoc, List.drop_left' (by simp [hN])])
  have HN := hide (show (bs l).extract 0 n = bs N by
    rw [bs_extract, hl0, List.take_left' hN]; rfl)
  have HV := hide (fun w => zzDenom_88 D (by omega) w)
  rw [hD] at HV
  have hW0 : m = W.length := hm
  have HD := hide (fun w => zzDigits_87 [] W (46 :: (F ++ (M ++ D))) hW (fun c hc => by simp at hc; subst hc; rfl) (by have := congrArg List.length hl0; simp [hNN] at this; simp; omega) w)
  have HF := hide (fun w => zzDigits_87 (W ++ [46]) F (M ++ D) hF hR (by have := congrArg List.length hl0; simp [hNN] at this; simp; omega) w)
  have e1 : W ++ 46 :: (F ++ (M ++ D)) = l := by rw [hl0, hNN]; simp
  have e2 : W ++ [46] ++ F ++ (M ++ D) = l := by rw [hl0, hNN]; simp
  have e3 : (W ++ [46]).length = m + 1 := by simp [hm]
  have e4 : n = m + 1 + F.length := by rw [← hN, hNN]; simp [hm]; omega
  simp only [List.nil_append, List.length_nil, Nat.zero_add, e1, ← hm] at HD
  rw [e2, e3, ← e4] at HF
  have n0 : ((0 : Nat) : Int) = 0 := rfl
  have hml : m < (bs l).size := by omega
  have hc46 : (((((bs l)[m]'hml).toNat : Nat) : Int) == 46) = true := by
    have e : (bs l)[m]'hml = 46 := by
      rw [bs_get l m hml]
      simp only [← e1]
      rw [List.getElem_append_right (by omega)]
      simp [hm]
    rw [e]; rfl
  have hfl : 0 < F.length := by cases F with
    | nil => exact absurd rfl hFne
    | cons a r => simp
  have hmn : m + 1 < n := by omega
  have t1 : ((n : Int) == (m : Int) + 1) = false := beq_eq_false_iff_ne.2 (by omega)
  have t1' : ((n : Int) == ((m + 1 : Nat) : Int)) = false := beq_eq_false_iff_ne.2 (by omega)
  have hn0 : ¬ (n : Int) = 0 := by omega
  have hn1 : ((n : Int) == 0) = false := beq_eq_false_iff_ne.2 hn0
  have u0 : wrap64 ((m : Int) + 1) = ((m + 1 : Nat) : Int) := by unfold wrap64; omega
  have t0 : decide ((m : Int) < (l.length : Int)) = true := decide_eq_true (by omega)
  have hmm : m < l.length := by omega
  have ZL := hide zl
  have HDL := hide hdl
  clear hW hR hM hl0 hN n0 hNN hFne hF e1 e2 e3 e4 hm hW0 hfl hne hD zl hdl
  go_enter Tryz.func60, Tryz.ntmps60
  go_wp2_with fail
  refine (HD.out _).mono ?_
  rintro e w2 ⟨rfl, q0, rfl⟩
  clear HD
  go_wp2_with fail
  refine (HF.out _).mono ?_
  rintro e w3 ⟨rfl, q1, rfl⟩
  clear HF hc46
  go_wp2
  · skip
    go_loopw [5] (fun v wr => ∃ i : Nat, n ≤ i ∧ i ≤ n + M.length ∧ v = .int .i64 i ∧ Upd [] w wr) (fun v _ => l.length - (intOf v).toNat)
    case atStart => exact ⟨n, Nat.le_refl _, by omega, rfl, by first | exact (Upd.refl _ _).drewN _ | exact ((Upd.refl _ _).drewN _).drewN _⟩
    case round =>
      obtain ⟨i, hi1, hi2, rfl, hu⟩ := hrel
      rcases (by omega : i < n + M.length ∨ i = n + M.length) with hlt | heq0
      · have hil : i < (bs l).size := by omega
        have hb := HB.out i hi1 hlt hil
        have HZ := hide (fun w => zzBlank_66 ((bs l)[i]'hil) w)
        rw [hb] at HZ
        clear hb
        have t1 : decide ((i : Int) < (l.length : Int)) = true := decide_eq_true (by omega)
        have u1 : wrap64 ((i : Int) + 1) = ((i + 1 : Nat) : Int) := by unfold wrap64; omega
        go_wp2_with fail
        refine (HZ.out _).mono ?_
        rintro e w3 ⟨rfl, q, rfl⟩
        clear HZ
        go_wp2
        go_roundw
        case rel => exact ⟨i + 1, by omega, by omega, by first | rfl | (rw [u1]) | go_num, hu.drewN _⟩
        case measure => simp [intOf]; omega
      · have heq := hide heq0
        have hge : n + M.length ≤ i := by omega
        clear heq0
        have hil : i < (bs l).size := by have := ZL.out; have := heq.out; have := HDL.out; omega
        have hb := HE.out i heq.out hil
        have HZ := hide (fun w => zzBlank_66 ((bs l)[i]'hil) w)
        rw [hb] at HZ
        clear hb
        have hx : (bs l).extract i l.length = bs D := by rw [heq.out]; exact HX.out
        have t1 : decide ((i : Int) < (l.length : Int)) = true := decide_eq_true (by omega)
        go_wp2_with fail
        refine (HZ.out _).mono ?_
        rintro e w3 ⟨rfl, q, rfl⟩
        have hu3 := hu.drewN q
        clear HZ hu
        generalize wr.drewN q = w4 at hu3 ⊢
        go_wp2_with fail
        refine (HV.out _).mono ?_
        rintro e w5 ⟨rfl, q5, rfl⟩
        have hu5 := hu3.drewN q5
        clear hu3
        generalize w4.drewN q5 = w6 at hu5 ⊢
        have hx2 : (bs l).extract 0 n = bs N := HN.out
        have t3 : (n : Int) ≤ (l.length : Int) := by omega
        have t4 : (i : Int) ≤ (l.length : Int) := by omega
        go_wp2_with fail
        go_region
        all_goals (
          go_wp2
          go_ret
          exact ⟨w6.heap.size, by simp, Blk.new _ _ _, (hu5.alloc _).drew, hu5.size⟩)

end Go.Proofs.YtnajekpckbfcdaaGreatDoor
