/-
  The specification: TextDenom, TextRead; textSame, textWhole.
-/
import Derived.Test.YtnajekpckbfcdaaGreatDoorM01
import Derived.Test.YtnajekpckbfcdaaGreatDoorM16
import Derived.Test.YtnajekpckbfcdaaGreatDoorN5
import Derived.Test.YtnajekpckbfcdaaGreatDoorPFnParseDecsx1
set_option linter.unusedVariables false
set_option linter.unusedSimpArgs false
namespace Go.Proofs.YtnajekpckbfcdaaGreatDoor
open Go.RowKit

/-- The first k bytes are in order. -/
def denPre (l : List UInt8) (k : Nat) : Prop := (∀ x ∈ l.take k, isOt x = true) ∧ (0 < k → isLe (l.headD 0) = true)
theorem denPre.zero (l : List UInt8) : denPre l 0 := ⟨by simp, by omega⟩
theorem denPre.succ {l : List UInt8} {k : Nat} (h : denPre l k) (hk : k < l.length) (ho : isOt l[k] = true) (h0 : k = 0 → isLe l[k] = true) : denPre l (k + 1) := by
  refine ⟨?_, fun _ => ?_⟩
  · rw [List.take_succ_eq_append_getElem hk]
    intro x hx
    rcases List.mem_append.1 hx with hx | hx
    · exact h.1 x hx
    · rw [List.mem_singleton.1 hx]; exact ho
  · rcases Nat.eq_zero_or_pos k with rfl | hp
    · have := h0 rfl
      cases l with
      | nil => simp at hk
      | cons c r => exact this
    · exact h.2 hp
theorem denPre.all {l : List UInt8} (h : denPre l l.length) (h1 : 3 ≤ l.length) (h2 : l.length ≤ 128) : isDen l = true := by
  unfold isDen
  have a := h.1
  rw [List.take_of_length_le (Nat.le_refl _)] at a
  simp only [Bool.and_eq_true, decide_eq_true_eq]
  exact ⟨⟨⟨h1, h2⟩, h.2 (by omega)⟩, List.all_eq_true.2 a⟩
theorem den_bad {l : List UInt8} {k : Nat} (hk : k < l.length) (ho : isOt l[k] = false) : isDen l = false := by
  cases h : isDen l with
  | false => rfl
  | true =>
    unfold isDen at h
    simp only [Bool.and_eq_true, decide_eq_true_eq] at h
    have := List.all_eq_true.1 h.2 l[k] (List.getElem_mem _)
    rw [ho] at this; cases this
theorem den_head {l : List UInt8} (hk : 0 < l.length) (ho : isLe l[0] = false) : isDen l = false := by
  cases h : isDen l with
  | false => rfl
  | true =>
    unfold isDen at h
    simp only [Bool.and_eq_true, decide_eq_true_eq] at h
    have h1 := h.1.2
    cases l with
    | nil => simp at hk
    | cons c r =>
      rw [show (c :: r).headD 0 = (c :: r)[0]'hk from rfl, ho] at h1
      cases h1
theorem isLe_of (c : UInt8) (h : (97 ≤ c.toNat ∧ c.toNat ≤ 122) ∨ (65 ≤ c.toNat ∧ c.toNat ≤ 90)) : isLe c = true := by
  unfold isLe
  rcases h with ⟨h1, h2⟩ | ⟨h1, h2⟩ <;> simp [h1, h2]
theorem isLe_not (c : UInt8) (h : ¬ (97 ≤ c.toNat ∧ c.toNat ≤ 122) ∧ ¬ (65 ≤ c.toNat ∧ c.toNat ≤ 90)) : isLe c = false := by
  cases hh : isLe c with
  | false => rfl
  | true =>
    unfold isLe at hh
    simp only [Bool.or_eq_true, Bool.and_eq_true, decide_eq_true_eq] at hh
    rcases hh with hh | hh
    · exact absurd hh h.1
    · exact absurd hh h.2
theorem isOt_of (c : UInt8) (h : (48 ≤ c.toNat ∧ c.toNat ≤ 57) ∨ c.toNat = 47 ∨ c.toNat = 58 ∨ c.toNat = 46 ∨ c.toNat = 95 ∨ c.toNat = 45) : isOt c = true := by
  rcases h with ⟨h1, h2⟩ | h | h | h | h | h
  · simp [isOt, isDg, h1, h2]
  all_goals (
    have e : c = UInt8.ofNat c.toNat := by simp
    rw [h] at e
    rw [e]; decide)
theorem isOt_not (c : UInt8) (h1 : isLe c = false) (h2 : ¬ (48 ≤ c.toNat ∧ c.toNat ≤ 57)) (h3 : c.toNat ≠ 47 ∧ c.toNat ≠ 58 ∧ c.toNat ≠ 46 ∧ c.toNat ≠ 95 ∧ c.toNat ≠ 45) : isOt c = false := by
  have hg : isDg c = false := by
    cases hh : isDg c with
    | false => rfl
    | true => exact absurd ((isDg_iff c).1 hh) h2
  have e : ∀ k : UInt8, c.toNat ≠ k.toNat → (c == k) = false := fun k hk => by rw [beq_eq_false_iff_ne]; rintro rfl; exact hk rfl
  obtain ⟨a1, a2, a3, a4, a5⟩ := h3
  unfold isOt
  rw [h1, hg, e 47 a1, e 58 a2, e 46 a3, e 95 a4, e 45 a5]; rfl

set_option maxRecDepth 20000 in
set_option maxHeartbeats 4000000 in
theorem TextDenom_33 (l : List UInt8) (hl : l.length ≤ 100000) (w : World) : Calls Tryz.prog 33 #[.string (bs l)] w fun e w' => e = .returned (.bool (isDen l)) ∧ w = w' := by
  have z2 : (bs l).size = l.length := bs_size l
  rcases (by omega : l.length < 3 ∨ 128 < l.length ∨ (3 ≤ l.length ∧ l.length ≤ 128)) with h | h | ⟨h1, h2⟩
  · have hd : isDen l = false := by unfold isDen; rw [decide_eq_false (by omega)]; rfl
    have t1 : (l.length : Int) < 3 := by omega
    rw [hd]
    go_enter Tryz.func33, Tryz.ntmps33
    go_wp2
    go_ret
    exact ⟨rfl, rfl⟩
  · have hd : isDen l = false := by unfold isDen; rw [decide_eq_false (show ¬ l.length ≤ 128 by omega)]; simp
    have t1 : ¬ (l.length : Int) < 3 := by omega
    have t2 : (128 : Int) < (l.length : Int) := by omega
    rw [hd]
    go_enter Tryz.func33, Tryz.ntmps33
    go_wp2
    go_ret
    exact ⟨rfl, rfl⟩
  · have t1 : ¬ (l.length : Int) < 3 := by omega
    have t2 : ¬ (128 : Int) < (l.length : Int) := by omega
    go_enter Tryz.func33, Tryz.ntmps33
    go_wp2_with fail
    go_loopw [17] (fun i wr => ∃ k : Nat, k ≤ l.length ∧ i = .int .i64 k ∧ Hid (denPre l k) ∧ wr = w) (fun i _ => l.length - (intOf i).toNat)
    case atStart => exact ⟨0, by omega, rfl, denPre.zero l, rfl⟩
    case round =>
      obtain ⟨k, hk, rfl, hpre, rfl⟩ := hrel
      rcases (by omega : k < l.length ∨ k = l.length) with hkl | rfl
      · have hkb : k < (bs l).size := by rw [bs_size]; exact hkl
        have hx : (bs l)[k]'hkb = l[k] := bs_get l k _
        have s1 : (k : Int) < (l.length : Int) := by omega
        go_upto_region 7 with (fail)
        clear hx
        have hLe := isLe_of l[k]
        have hLn := isLe_not l[k]
        have hOt := isOt_of l[k]
        have hOn := isOt_not l[k]
        have hbad := den_bad hkl
        have hsucc := denPre.succ hpre.out hkl
        have hhead : k = 0 → isLe l[k] = false → isDen l = false := by rintro rfl; exact den_head hkl
        generalize l[k] = x at *
        have hx255 : x.toNat < 256 := UInt8.toNat_lt x
        obtain ⟨c, hc⟩ : ∃ c, x.toNat = c := ⟨_, rfl⟩
        rw [hc] at hLe hLn hOt hOn hx255 ⊢
        clear hc
        rcases (by omega : (65 ≤ c ∧ c ≤ 90) ∨ (97 ≤ c ∧ c ≤ 122) ∨ c = 45 ∨ c = 46 ∨ c = 47 ∨ (48 ≤ c ∧ c ≤ 57) ∨ c = 58 ∨ c = 95 ∨ c < 45 ∨ (59 ≤ c ∧ c ≤ 64) ∨ (91 ≤ c ∧ c ≤ 94) ∨ c = 96 ∨ 123 ≤ c) with
          h | h | h | h | h | h | h | h | h | h | h | h | h
        iterate 2 (
          focus (
            have hS := hide (hsucc (isLe_ot _ (hLe (by omega))) (fun _ => hLe (by omega)))
            obtain ⟨ha, hb⟩ := h
            clear hLe hLn hOt hOn hbad hsucc hhead hpre hx255
            go_wp2
            go_roundw
            case rel => exact ⟨k + 1, by omega, by go_num, hS, trivial⟩
            case measure => first | (simp [intOf]; done) | (simp [intOf]; omega)))
        iterate 6 (
          focus (
            have ho : isOt x = true := hOt (by omega)
            have hl0 : isLe x = false := hLn (by omega)
            rcases Nat.eq_zero_or_pos k with h0 | h0
            · have hB := hide (hhead h0 hl0)
              have h0i : (k : Int) = 0 := by omega
              have h0b : ((k : Int) == 0) = true := by rw [h0i]; rfl
              clear hLe hLn hOt hOn hbad hsucc hhead hpre hx255 ho hl0
              subst h0
              go_wp2
              go_ret
              exact ⟨by first | (rw [hB.out]; done) | (rw [hB.out]; rfl) | (rw [hB.out]; simp), rfl⟩
            · have hS := hide (hsucc ho (fun e => by omega))
              have h0i : ¬ (k : Int) = 0 := by omega
              have h0b : ((k : Int) == 0) = false := beq_eq_false_iff_ne.2 h0i
              clear hLe hLn hOt hOn hbad hsucc hhead hpre hx255 ho hl0
              go_wp2
              go_roundw
              case rel => exact ⟨k + 1, by omega, by go_num, hS, trivial⟩
              case measure => first | (simp [intOf]; done) | (simp [intOf]; omega)))
        all_goals (
          have hl0 : isLe x = false := hLn (by omega)
          have hB := hide (hbad (hOn hl0 (by omega) (by omega)))
          clear hLe hLn hOt hOn hbad hsucc hhead hpre hl0
          have h0b : ((k : Int) == 0) = true ∨ ((k : Int) == 0) = false := by cases (k : Int) == 0 <;> simp
          have b1 : ((c : Int) == 47) = false := beq_eq_false_iff_ne.2 (by omega)
          have b2 : ((c : Int) == 58) = false := beq_eq_false_iff_ne.2 (by omega)
          have b3 : ((c : Int) == 46) = false := beq_eq_false_iff_ne.2 (by omega)
          have b4 : ((c : Int) == 95) = false := beq_eq_false_iff_ne.2 (by omega)
          have b5 : ((c : Int) == 45) = false := beq_eq_false_iff_ne.2 (by omega)
          have b6 : ((48 : Int) ≤ c ∧ decide ((c : Int) ≤ 57) = false) ∨ ¬ (48 : Int) ≤ c := by
            rcases (by omega : (48 : Int) ≤ c ∨ ¬ (48 : Int) ≤ c) with q | q
            · exact .inl ⟨q, decide_eq_false (by omega)⟩
            · exact .inr q
          have b8 : (91 ≤ c ∧ decide ((c : Int) ≤ 90) = false) ∨ c ≤ 64 := by
            rcases (by omega : 91 ≤ c ∨ c ≤ 64) with q | q
            · exact .inl ⟨q, decide_eq_false (by omega)⟩
            · exact .inr q
          have b9 : (123 ≤ c ∧ decide ((c : Int) ≤ 122) = false) ∨ c ≤ 96 := by
            rcases (by omega : 123 ≤ c ∨ c ≤ 96) with q | q
            · exact .inl ⟨q, decide_eq_false (by omega)⟩
            · exact .inr q
          rcases h0b with h0b | h0b <;> rcases b6 with ⟨b6, b7⟩ | b6 <;> rcases b8 with ⟨b8, b10⟩ | b8 <;> rcases b9 with ⟨b9, b11⟩ | b9
          all_goals first | (exfalso; omega) | (
            go_wp2
            go_ret
            exact ⟨by first | (rw [hB.out]; done) | (rw [hB.out]; rfl) | (rw [hB.out]; simp), rfl⟩))
      · have s1 : ¬ ((l.length : Int) < (l.length : Int)) := by omega
        have hd := hpre.out.all h1 h2
        go_wp2
        go_ret
        exact ⟨by first | rfl | rw [hd], rfl⟩

end Go.Proofs.YtnajekpckbfcdaaGreatDoor

namespace Go.Proofs.YtnajekpckbfcdaaGreatDoor
open Go.RowKit Go.Proofs.YtnajekpckbfcdaaGreatDoorW.PrintWords Go.Proofs.YtnajekpckbfcdaaGreatDoor.PFnParseDecs

theorem bs_ne {l : List UInt8} (h : l ≠ []) : ¬ (bs l).toList = [] ∧ ((bs l).toList.isEmpty) = false ∧ ((bs l).toList == []) = false := str_ne (by rw [bs_size]; exact List.length_pos_iff.2 h)

theorem te (l : List UInt8) : (l = [] ∧ bs l = ⟨#[]⟩) ∨ (l ≠ [] ∧ ¬ (bs l).toList = [] ∧ ((bs l).toList.isEmpty) = false ∧ ((bs l).toList == []) = false) := by
  cases l with
  | nil => exact .inl ⟨rfl, rfl⟩
  | cons c r => exact .inr ⟨by simp, bs_ne (by simp)⟩

end Go.Proofs.YtnajekpckbfcdaaGreatDoor

namespace Go.Proofs.YtnajekpckbfcdaaGreatDoor
open Go.RowKit Go.Proofs.YtnajekpckbfcdaaGreatDoor.PFnParseDecs

theorem xcells_get : ∀ (L : List (List UInt8 × Nat)) (k : Nat) (h : k < L.length), (xcells L)[k * 3]? = some (.string (bs L[k].1)) ∧ (xcells L)[k * 3 + 1]? = some (.int .i64 (L[k].2 / 1000000000000000000 : Nat)) ∧ (xcells L)[k * 3 + 2]? = some (.int .i64 (L[k].2 % 1000000000000000000 : Nat))
  | [], k, h => by simp at h
  | c :: r, 0, _ => ⟨rfl, rfl, rfl⟩
  | c :: r, k + 1, h => by
    have := xcells_get r k (by simpa using h)
    rw [show (k + 1) * 3 = k * 3 + 3 by omega, show k * 3 + 3 + 1 = (k * 3 + 1) + 3 by omega, show k * 3 + 3 + 2 = (k * 3 + 2) + 3 by omega]
    exact this
theorem wcells_get : ∀ (L : List (List UInt8 × Nat)) (k : Nat) (h : k < L.length), (wcells L)[k * 2]? = some (.string (bs L[k].1)) ∧ (wcells L)[k * 2 + 1]? = some (.int .i64 (L[k].2 : Nat))
  | [], k, h => by simp at h
  | c :: r, 0, _ => ⟨rfl, rfl⟩
  | c :: r, k + 1, h => by
    have := wcells_get r k (by simpa using h)
    rw [show (k + 1) * 2 = k * 2 + 2 by omega, show k * 2 + 2 + 1 = (k * 2 + 1) + 2 by omega]
    exact this
theorem own_slice {w : World} {base n size : Nat} {e : TypeId} {v : Value} {xs : List Value} (h : w.ownsRow base e size v n xs) : ∃ a c, v = .slice a n c ∧ n ≤ c := by
  rcases h.2 with ⟨h, h0⟩ | ⟨g, cap, cur, h, _, _, hc, _⟩
  · exact ⟨_, _, by rw [h, h0], by omega⟩
  · exact ⟨_, _, h, hc⟩
/-- A row that is not empty: its cells. -/
theorem own_cells {w : World} {base n size : Nat} {e : TypeId} {v : Value} {xs : List Value} (h : w.ownsRow base e size v n xs) (h0 : 0 < n) :
    ∃ g cap, v = .slice (some ⟨g, 0, none⟩) n cap ∧ g < w.heap.size ∧ n ≤ cap ∧ ∀ j u, xs[j]? = some u → w.cell? ⟨g, j, none⟩ = some u := by
  rcases h.2 with ⟨_, h1⟩ | ⟨g, cap, cur, rfl, _, hg, hc, _⟩
  · omega
  · refine ⟨g, cap, rfl, (Array.getElem?_eq_some_iff.1 hg).1, hc, ?_⟩
    intro j u hj
    have := h.cells (g := g) rfl j u hj
    rwa [addr_add0] at this

/-- A coin cut to whole ones, as data. -/
def wh (x : List UInt8 × Nat) : List UInt8 × Nat := (x.1, x.2 / 1000000000000000000)
theorem whole_dm (l : List DC) : l.map whole = (l.map dm).map wh := by rw [List.map_map]; rfl
set_option maxRecDepth 20000 in
set_option maxHeartbeats 4000000 in
theorem textWhole_15 (L : List (List UInt8 × Nat)) (A B : Value) (b1 b2 : Nat) (hn : L.length ≤ 1000) (w : World) (hA : w.ownsRow b1 52 2 A L.length (wcells (L.map wh))) (hB : w.ownsRow b2 46 3 B L.length (xcells L)) :
    Calls Tryz.prog 15 #[A, B] w fun e w' => e = .returned (.bool true) ∧ Upd [] w w' := by
  rcases Nat.eq_zero_or_pos L.length with h0 | h0
  · obtain ⟨a, c, rfl, _⟩ := own_slice hA
    obtain ⟨a', c', rfl, _⟩ := own_slice hB
    rw [h0]
    clear hA hB hn h0
    go_enter Tryz.func15, Tryz.ntmps15
    go_wp2
    refine wp_loop_rounds 1 ?_
    rw [rounds_succ]
    go_wp2
    go_ret
    exact ⟨rfl, Upd.refl _ _⟩
  obtain ⟨g, ca, rfl, hg, hca, hcA⟩ := own_cells hA h0
  obtain ⟨g', cb, rfl, hg', hcb, hcB⟩ := own_cells hB h0
  have HCA := hide hcA
  have HCB := hide hcB
  obtain ⟨n, hne⟩ : ∃ n, L.length = n := ⟨_, rfl⟩
  have HN := hide hne
  rw [hne] at hn hca hcb ⊢
  clear hne hA hB h0 hcA hcB
  go_enter Tryz.func15, Tryz.ntmps15
  go_wp2_with fail
  go_loopw [14] (fun i wr => ∃ k : Nat, k ≤ n ∧ i = .int .i64 k ∧ Upd [] w wr) (fun i _ => n - (intOf i).toNat)
  case atStart => exact ⟨0, by omega, rfl, Upd.refl _ _⟩
  case round =>
    obtain ⟨k, hk, rfl, hu⟩ := hrel
    rcases (by omega : k < n ∨ k = n) with hlt | rfl
    · have hkl : k < L.length := by have := HN.out; omega
      obtain ⟨e0, e1, e2⟩ := xcells_get L k hkl
      obtain ⟨e4, e5⟩ := wcells_get (L.map wh) k (by simpa using hkl)
      rw [List.getElem_map] at e4 e5
      have c0 : wr.cell? ⟨g, k * 2, none⟩ = some (.string (bs L[k].1)) := (hu.cell (p := ⟨g, k * 2, none⟩) hg (by simp)).trans (HCA.out _ _ e4)
      have c1 : wr.cell? ⟨g, k * 2 + 1, none⟩ = some (.int .i64 (L[k].2 / 1000000000000000000 : Nat)) := (hu.cell (p := ⟨g, k * 2 + 1, none⟩) hg (by simp)).trans (HCA.out _ _ e5)
      have u2 : ∀ o, Upd [] w (wr.alloc o) := fun o => hu.alloc o
      have d0 := fun o => ((u2 o).cell (p := ⟨g', k * 3, none⟩) hg' (by simp)).trans (HCB.out _ _ e0)
      have d1 := fun o => ((u2 o).cell (p := ⟨g', k * 3 + 1, none⟩) hg' (by simp)).trans (HCB.out _ _ e1)
      have s1 : (k : Int) < (n : Int) := by omega
      clear e0 e1 e2 e4 e5
      generalize bs L[k].1 = d at *
      generalize L[k].2 / 1000000000000000000 = a at *
      have D0 := hide (d0 (.cells #[.string d, .int .i64 a] 52))
      have D1 := hide (d1 (.cells #[.string d, .int .i64 a] 52))
      have U2 := u2 (.cells #[.string d, .int .i64 a] 52)
      have hT2 := Blk.new wr 52 #[.string d, .int .i64 a]
      clear d0 d1 u2
      go_upto_region 6 with (fail)
      clear c0 c1 hu
      obtain ⟨Y, hY⟩ : ∃ Y, wr.heap.size = Y := ⟨_, rfl⟩
      rw [hY] at hT2 ⊢
      have d0 := D0.out
      have d1 := D1.out
      clear D0 D1
      generalize wr.alloc (.cells #[.string d, .int .i64 a] 52) = w2 at *
      clear hY
      have y0 := hT2.fst
      have y1 := hT2.snd
      have hdd : (d.toList == d.toList) = true := by simp
      go_quiet (fail)
      go_wp2
      go_roundw
      case rel => exact ⟨k + 1, by omega, by go_num, U2.drewN _⟩
      case measure => first | (simp [intOf]; done) | (simp [intOf]; omega)
    · have s1 : ¬ (k : Int) < (k : Int) := by omega
      go_wp2
      go_ret
      exact ⟨rfl, hu⟩

end Go.Proofs.YtnajekpckbfcdaaGreatDoor
