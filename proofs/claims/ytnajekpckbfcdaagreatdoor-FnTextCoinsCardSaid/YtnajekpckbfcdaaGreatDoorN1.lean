/-
  Rows of coins: sort, removal of zeros, sanitize.
-/
import Derived.Test.YtnajekpckbfcdaaGreatDoorM15
import Derived.Deep.QuietTactic
import Derived.BigQuiet
set_option linter.unusedVariables false
set_option linter.unusedSimpArgs false
namespace Go.Proofs.YtnajekpckbfcdaaGreatDoor
open Go.RowKit

/-- A decimal coin in memory: its denomination, 10^18 times its amount, the block of its number. -/
structure DC where
  d : List UInt8
  m : Nat
  q : Nat
/-- A row of coins at block g. -/
def DRow (w : World) (g cap : Nat) (l : List DC) : Prop :=
  ∃ cur : Array Value, Blk w g 87 cur ∧ cur.size = cap * 2 ∧ l.length ≤ cap ∧
    ∀ (k : Nat) (h : k < l.length), cur[k * 2]? = some (.string (bs l[k].d)) ∧ cur[k * 2 + 1]? = some (.pointer (some ⟨l[k].q, 0, none⟩))
/-- The coins' numbers. -/
def DVals (w : World) (l : List DC) : Prop := ∀ c ∈ l, ∃ A, IntV w c.q A c.m
theorem DVals.grow {w w' : World} {l : List DC} (h : DVals w l) (hu : Upd [] w w') : DVals w' l := fun c hc => by
  obtain ⟨A, hA⟩ := h c hc
  exact ⟨A, hA.grow hu⟩
theorem DVals.perm {w : World} {l l' : List DC} (h : DVals w l) (hp : l'.Perm l) : DVals w l' := fun c hc => h c (hp.mem_iff.1 hc)
theorem DVals.set {w : World} {l : List DC} {g : Nat} {cs : Array Value} (h : DVals w l) (hg : Blk w g 87 cs) (i : Nat) (u : Value) : DVals (w.setCell ⟨g, i, none⟩ u) l := fun c hc => by
  obtain ⟨A, hA⟩ := h c hc
  obtain ⟨L, C, hb, hS⟩ := hA
  exact ⟨A, IntV.set_far ⟨L, C, hb, hS⟩ hg (by decide) (fun e => hb.ne_ hg (by decide) e) i u⟩
section
variable {w w' : World} {g cap : Nat} {l : List DC}
theorem DRow.grow (h : DRow w g cap l) (hu : Upd [] w w') : DRow w' g cap l := by
  obtain ⟨cur, h1, h2⟩ := h
  exact ⟨cur, h1.grow hu, h2⟩
theorem DRow.drewN (h : DRow w g cap l) (n : Nat) : DRow (w.drewN n) g cap l := by
  obtain ⟨cur, h1, h2⟩ := h
  exact ⟨cur, h1.drewN n, h2⟩
theorem DRow.lt (h : DRow w g cap l) : g < w.heap.size := by obtain ⟨cur, h1, _⟩ := h; exact h1.lt
theorem DRow.cell0 (h : DRow w g cap l) (k : Nat) (hk : k < l.length) : w.cell? ⟨g, k * 2, none⟩ = some (.string (bs l[k].d)) := by
  obtain ⟨cur, h1, _, _, h4⟩ := h
  exact h1.at_ (h4 k hk).1
theorem DRow.cell1 (h : DRow w g cap l) (k : Nat) (hk : k < l.length) : w.cell? ⟨g, k * 2 + 1, none⟩ = some (.pointer (some ⟨l[k].q, 0, none⟩)) := by
  obtain ⟨cur, h1, _, _, h4⟩ := h
  exact h1.at_ (h4 k hk).2
theorem DRow.frozen (h : DRow w g cap l) (k : Nat) : w.frozen? ⟨g, k, none⟩ = false := by
  obtain ⟨cur, h1, _⟩ := h
  exact h1.frozen k
theorem DRow.len (h : DRow w g cap l) : l.length ≤ cap := by obtain ⟨cur, _, _, h3, _⟩ := h; exact h3
/-- Two cells written: the coin at k is another one. -/
theorem DRow.put (h : DRow w g cap l) (k : Nat) (hk : k < l.length) (c : DC) :
    DRow ((w.setCell ⟨g, k * 2, none⟩ (.string (bs c.d))).setCell ⟨g, k * 2 + 1, none⟩ (.pointer (some ⟨c.q, 0, none⟩))) g cap (l.set k c) := by
  obtain ⟨cur, h1, h2, h3, h4⟩ := h
  refine ⟨_, (h1.set_ _ _).set_ _ _, by simp [h2], by simpa using h3, ?_⟩
  intro i hi
  have hi' : i < l.length := by simpa using hi
  obtain ⟨a1, a2⟩ := h4 i hi'
  rw [Array.getElem?_setIfInBounds, Array.getElem?_setIfInBounds, Array.getElem?_setIfInBounds, Array.getElem?_setIfInBounds]
  rcases Nat.lt_trichotomy i k with hlt | heq | hgt
  · have e1 : ¬ k * 2 + 1 = i * 2 := by omega
    have e2 : ¬ k * 2 = i * 2 := by omega
    have e3 : ¬ k * 2 + 1 = i * 2 + 1 := by omega
    have e4 : ¬ k * 2 = i * 2 + 1 := by omega
    simp only [e1, e2, e3, e4, if_false]
    rw [List.getElem_set_ne (by omega)]
    exact ⟨a1, a2⟩
  · subst heq
    have e1 : ¬ i * 2 + 1 = i * 2 := by omega
    have hs : i * 2 + 1 < cur.size := by omega
    have hs0 : i * 2 < cur.size := by omega
    simp [e1, hs, hs0]
  · have e1 : ¬ k * 2 + 1 = i * 2 := by omega
    have e2 : ¬ k * 2 = i * 2 := by omega
    have e3 : ¬ k * 2 + 1 = i * 2 + 1 := by omega
    have e4 : ¬ k * 2 = i * 2 + 1 := by omega
    simp only [e1, e2, e3, e4, if_false]
    rw [List.getElem_set_ne (by omega)]
    exact ⟨a1, a2⟩
end

theorem Len_333 (A : Option Addr) (n c : Nat) (w : World) : Calls Tryz.prog 333 #[.slice A n c] w fun e w' => e = .returned (.int .i64 n) ∧ w = w' := by
  go_enter Tryz.func333, Tryz.ntmps333
  go_wp2
  go_ret
  exact ⟨rfl, rfl⟩
theorem Less_334 (l : List DC) (g cap c i j : Nat) (hi : i < l.length) (hj : j < l.length) (w : World) (h : DRow w g cap l) :
    Calls Tryz.prog 334 #[.slice (some ⟨g, 0, none⟩) l.length c, .int .i64 i, .int .i64 j] w fun e w' => e = .returned (.bool (Op.bytesLess l[i].d l[j].d)) ∧ ∃ n, w' = w.drewN n := by
  have c1 := h.cell0 i hi
  have c2 := h.cell0 j hj
  have hl := h.len
  obtain ⟨n, hn⟩ : ∃ n, l.length = n := ⟨_, rfl⟩
  have t1 : (i : Int) < (n : Int) := by omega
  have t2 : (j : Int) < (n : Int) := by omega
  rw [hn]
  have hi' : i < n := by omega
  have hj' : j < n := by omega
  clear hn
  generalize l[i].d = a at *
  generalize l[j].d = b at *
  have e1 := bs_toList a
  have e2 := bs_toList b
  go_enter Tryz.func334, Tryz.ntmps334
  go_wp2
  go_quiet (fail)
  go_wp2
  go_ret
  exact ⟨by first | rfl | (simp; done), _, rfl⟩

set_option maxRecDepth 20000 in
set_option maxHeartbeats 4000000 in
theorem Swap_335 (l : List DC) (g cap c i j : Nat) (hi : i < l.length) (hj : j < l.length) (hne : i ≠ j) (w : World) (h : DRow w g cap l) (hv : DVals w l) :
    Calls Tryz.prog 335 #[.slice (some ⟨g, 0, none⟩) l.length c, .int .i64 i, .int .i64 j] w fun e w' => e = .returned (.tuple #[]) ∧ DRow w' g cap ((l.set i l[j]).set j l[i]) ∧ DVals w' l ∧ Upd [g] w w' := by
  have c1 := h.cell0 i hi
  have c2 := h.cell1 i hi
  have c3 := h.cell0 j hj
  have c4 := h.cell1 j hj
  have f1 := h.frozen (i * 2)
  have f2 := h.frozen (i * 2 + 1)
  have f3 := h.frozen (j * 2)
  have f4 := h.frozen (j * 2 + 1)
  obtain ⟨n, hn⟩ : ∃ n, l.length = n := ⟨_, rfl⟩
  have t1 : (i : Int) < (n : Int) := by omega
  have t2 : (j : Int) < (n : Int) := by omega
  have hi' : i < n := by omega
  have hj' : j < n := by omega
  have n1 : ¬ i = j := hne
  have n2 : ¬ j = i := Ne.symm hne
  rw [hn]
  have HN := hide hn
  clear hn
  generalize l[i] = a at *
  generalize l[j] = b at *
  go_enter Tryz.func335, Tryz.ntmps335
  go_region
  all_goals (
    go_end0
    have hput := h.put i (by rw [HN.out]; exact hi') b
    refine ⟨rfl, ?_, ?_, ?_⟩
    · have hput2 := hput.put j (by rw [List.length_set, HN.out]; exact hj') a
      exact hput2.drewN 1
    · obtain ⟨cur, hb, _⟩ := h
      exact ((((hv.set hb _ _).set (hb.set_ _ _) _ _).set ((hb.set_ _ _).set_ _ _) _ _).set (((hb.set_ _ _).set_ _ _).set_ _ _) _ _).grow ((Upd.refl [] _).drew)
    · exact (((((Upd.refl [g] w).setCell (by simp) _).setCell (by simp) _).setCell (by simp) _).setCell (by simp) _).drew)

end Go.Proofs.YtnajekpckbfcdaaGreatDoor

namespace Go.Proofs.YtnajekpckbfcdaaGreatDoor
open Go.RowKit

theorem less_asymm : ∀ a b : List UInt8, Op.bytesLess a b = true → Op.bytesLess b a = false
  | [], [], h => by simp [Op.bytesLess] at h
  | [], _ :: _, _ => by simp [Op.bytesLess]
  | _ :: _, [], h => by simp [Op.bytesLess] at h
  | x :: a, y :: b, h => by
    simp only [Op.bytesLess, Bool.or_eq_true, decide_eq_true_eq, Bool.and_eq_true, beq_iff_eq] at h
    rcases h with h | ⟨rfl, h⟩
    · have h1 : ¬ y < x := fun h' => absurd (UInt8.lt_trans h h') (UInt8.lt_irrefl _)
      have h2 : (y == x) = false := by rw [beq_eq_false_iff_ne]; rintro rfl; exact absurd h (UInt8.lt_irrefl _)
      simp [Op.bytesLess, h1, h2]
    · have h1 : ¬ x < x := UInt8.lt_irrefl _
      simp [Op.bytesLess, h1, less_asymm a b h]
theorem less_antisymm : ∀ a b : List UInt8, Op.bytesLess a b = false → Op.bytesLess b a = false → a = b
  | [], [], _, _ => rfl
  | [], _ :: _, h, _ => by simp [Op.bytesLess] at h
  | _ :: _, [], _, h => by simp [Op.bytesLess] at h
  | x :: a, y :: b, h, h' => by
    simp only [Op.bytesLess, Bool.or_eq_false_iff, decide_eq_false_iff_not, Bool.and_eq_false_iff, beq_eq_false_iff_ne] at h h'
    have hxy : x = y := UInt8.le_antisymm (UInt8.not_lt.1 h'.1) (UInt8.not_lt.1 h.1)
    subst hxy
    have h1 : Op.bytesLess a b = false := by rcases h.2 with h | h; exact absurd rfl h; exact h
    have h2 : Op.bytesLess b a = false := by rcases h'.2 with h | h; exact absurd rfl h; exact h
    rw [less_antisymm a b h1 h2]
theorem less_trans : ∀ a b c : List UInt8, Op.bytesLess a b = true → Op.bytesLess b c = true → Op.bytesLess a c = true
  | _, _, [], _, h => by simp [Op.bytesLess] at h
  | _, [], _ :: _, h, _ => by simp [Op.bytesLess] at h
  | [], _ :: _, _ :: _, _, _ => by simp [Op.bytesLess]
  | x :: a, y :: b, z :: c, h, h' => by
    simp only [Op.bytesLess, Bool.or_eq_true, decide_eq_true_eq, Bool.and_eq_true, beq_iff_eq] at h h' ⊢
    rcases h with h | ⟨rfl, h⟩
    · rcases h' with h' | ⟨rfl, h'⟩
      · exact .inl (UInt8.lt_trans h h')
      · exact .inl h
    · rcases h' with h' | ⟨rfl, h'⟩
      · exact .inl h'
      · exact .inr ⟨rfl, less_trans a b c h h'⟩
/-- a ≤ b ≤ c. -/
theorem notless_trans (a b c : List UInt8) (h1 : Op.bytesLess b a = false) (h2 : Op.bytesLess c b = false) : Op.bytesLess c a = false := by
  cases h : Op.bytesLess c a with
  | false => rfl
  | true =>
    cases hab : Op.bytesLess a b with
    | true => have := less_trans c a b h hab; rw [h2] at this; cases this
    | false =>
      have := less_antisymm a b hab h1
      subst this
      rw [h] at h2; cases h2

/-- Ascending denominations, two alike allowed. -/
def Asc (l : List DC) : Prop := l.Pairwise fun x y => Op.bytesLess y.d x.d = false
theorem Asc.insert {P S : List DC} {x : DC} (h : Asc (P ++ S)) (hS : ∀ s ∈ S, Op.bytesLess x.d s.d = true) (hP : ∀ y, P.getLast? = some y → Op.bytesLess x.d y.d = false) : Asc (P ++ x :: S) := by
  unfold Asc at *
  rw [List.pairwise_append] at h ⊢
  obtain ⟨h1, h2, h3⟩ := h
  refine ⟨h1, ?_, ?_⟩
  · rw [List.pairwise_cons]
    exact ⟨fun s hs => less_asymm _ _ (hS s hs), h2⟩
  · intro p hp s hs
    rcases List.mem_cons.1 hs with rfl | hs
    · rcases List.eq_nil_or_concat P with rfl | ⟨Q, y, rfl⟩
      · simp at hp
      · rw [List.concat_eq_append] at *
        have hy := hP y (by simp)
        rcases List.mem_append.1 hp with hp | hp
        · rw [List.pairwise_append] at h1
          exact notless_trans p.d y.d s.d (h1.2.2 p hp y (by simp)) hy
        · rw [List.mem_singleton.1 hp]; exact hy
    · exact h3 p hp s hs
/-- One exchange. -/
theorem swap_list (P S : List DC) (x y : DC) (h1 : P.length + 1 < (P ++ y :: x :: S).length) (h0 : P.length < (P ++ y :: x :: S).length) :
    (((P ++ y :: x :: S).set (P.length + 1) ((P ++ y :: x :: S)[P.length]'h0)).set P.length ((P ++ y :: x :: S)[P.length + 1]'h1)) = P ++ x :: y :: S := by
  have e0 : (P ++ y :: x :: S)[P.length]'h0 = y := by rw [List.getElem_append_right (Nat.le_refl _)]; simp
  have e1 : (P ++ y :: x :: S)[P.length + 1]'h1 = x := by rw [List.getElem_append_right (by omega)]; simp
  rw [e0, e1, List.set_append_right _ _ (by omega), show P.length + 1 - P.length = 1 by omega, List.set_append_right _ _ (Nat.le_refl _), Nat.sub_self]
  rfl

end Go.Proofs.YtnajekpckbfcdaaGreatDoor

namespace Go.Proofs.YtnajekpckbfcdaaGreatDoor
open Go.RowKit

theorem nil_len (a : Addr) (n c : Nat) (w : World) : (nilAhead 439 59 (.slice (some a) n c) "Len").run Tryz.prog w = .ok (some false) w := by kernel_rfl
theorem meth_len (a : Addr) (n c : Nat) (w : World) : (method 439 59 (.slice (some a) n c) "Len").run Tryz.prog w = .ok (333, .slice (some a) n c) w := by kernel_rfl
theorem nil_less (a : Addr) (n c : Nat) (w : World) : (nilAhead 439 59 (.slice (some a) n c) "Less").run Tryz.prog w = .ok (some false) w := by kernel_rfl
theorem meth_less (a : Addr) (n c : Nat) (w : World) : (method 439 59 (.slice (some a) n c) "Less").run Tryz.prog w = .ok (334, .slice (some a) n c) w := by kernel_rfl
theorem nil_swap (a : Addr) (n c : Nat) (w : World) : (nilAhead 439 59 (.slice (some a) n c) "Swap").run Tryz.prog w = .ok (some false) w := by kernel_rfl
theorem meth_swap (a : Addr) (n c : Nat) (w : World) : (method 439 59 (.slice (some a) n c) "Swap").run Tryz.prog w = .ok (335, .slice (some a) n c) w := by kernel_rfl

/-- What a sort leaves. -/
def SortRes (w : World) (g cap : Nat) (l : List DC) (e : Ending) (w' : World) : Prop :=
  ∃ l', e = .returned (.tuple #[]) ∧ l'.Perm l ∧ Asc l' ∧ DRow w' g cap l' ∧ DVals w' l' ∧ Upd [g] w w'

set_option maxRecDepth 20000 in
set_option maxHeartbeats 8000000 in
theorem insertionSort_174 (l : List DC) (g cap c : Nat) (hn : l.length ≤ 12) (hn1 : 1 ≤ l.length) (w : World) (h : DRow w g cap l) (hv : DVals w l) :
    Calls Tryz.prog 174 #[.iface 59 (.slice (some ⟨g, 0, none⟩) l.length c), .int .i64 0, .int .i64 l.length] w (SortRes w g cap l) := by
  obtain ⟨n, hne⟩ : ∃ n, l.length = n := ⟨_, rfl⟩
  have HN := hide hne
  rw [hne] at hn hn1 ⊢
  clear hne
  have k1 := nil_less
  have k2 := meth_less
  have k3 := nil_swap
  have k4 := meth_swap
  go_enter Tryz.func174, Tryz.ntmps174
  go_wp2_with fail
  go_loopw [6] (fun i wr => ∃ (A R : List DC), Hid (1 ≤ A.length ∧ A.length ≤ n) ∧ i = .int .i64 A.length ∧ Hid ((A ++ R).Perm l) ∧ Hid (Asc A) ∧ DRow wr g cap (A ++ R) ∧ DVals wr (A ++ R) ∧ Upd [g] w wr) (fun i _ => n - (intOf i).toNat)
  case atStart =>
    cases l with
    | nil => exfalso; have := HN.out; simp at this; omega
    | cons x r => exact ⟨[x], r, by show _ ∧ _; simp; omega, rfl, List.Perm.refl _, List.pairwise_singleton _ _, h, hv, Upd.refl _ _⟩
  case round =>
    obtain ⟨A, R, hA, rfl, hp, hasc, hr, hvr, hu⟩ := hrel
    have hlen : A.length + R.length = n := by
      have := hp.out.length_eq
      have := HN.out
      simp at *
      omega
    obtain ⟨k, hk⟩ : ∃ k, A.length = k := ⟨_, rfl⟩
    have hk1 : 1 ≤ k := by have := hA.out.1; omega
    have hkn : k ≤ n := by have := hA.out.2; omega
    rw [hk]
    rcases (by omega : k < n ∨ k = n) with hlt | rfl
    · have s1 : (k : Int) < (n : Int) := by omega
      have s2 : decide ((k : Int) < (n : Int)) = true := decide_eq_true s1
      obtain ⟨x, R', rfl⟩ : ∃ x R', R = x :: R' := by
        cases R with
        | nil => simp at hlen; omega
        | cons x R' => exact ⟨x, R', rfl⟩
      have HK := hide hk
      have HLEN := hide hlen
      clear hk hlen
      obtain ⟨wo, rfl⟩ : ∃ wo : World, wo = wr := ⟨_, rfl⟩
      go_wp2_with fail
      go_loopw [7] (fun jv wi => ∃ (P S : List DC), Hid (P.length + S.length = k) ∧ jv = .int .i64 P.length ∧ Hid ((P ++ x :: (S ++ R')).Perm l) ∧ Hid (Asc (P ++ S)) ∧ Hid (∀ s ∈ S, Op.bytesLess x.d s.d = true) ∧ DRow wi g cap (P ++ x :: (S ++ R')) ∧ DVals wi (P ++ x :: (S ++ R')) ∧ Upd [g] w wi) (fun jv _ => (intOf jv).toNat)
      case atStart => exact ⟨A, [], by show _ = _; simpa using HK.out, by rw [HK.out], by simpa using hp, by show Asc _; simpa using hasc.out, by show ∀ s ∈ _, _; simp, by simpa using hr, by simpa using hvr, hu⟩
      case round =>
        clear hp hasc hr hvr hu
        obtain ⟨P, S, hPS, rfl, hp, hasc, hlt2, hr, hv2, hu⟩ := hrel
        rcases List.eq_nil_or_concat P with rfl | ⟨Q, y, rfl⟩
        · have t0 : ¬ (0 : Int) < ((0 : Nat) : Int) := by omega
          simp only [List.length_nil]
          go_wp2
          go_roundw
          case rel =>
            refine ⟨[] ++ x :: S, R', ?_, ?_, ?_, ?_, ?_, ?_, ?_⟩
            · show _ ∧ _
              have := hPS.out
              simp at this ⊢
              omega
            · have := hPS.out
              simp at this
              have e : ([] ++ x :: S).length = k + 1 := by simp; omega
              rw [e]; first | rfl | go_num
            · show List.Perm _ _
              simpa using hp.out
            · exact Asc.insert hasc.out hlt2.out (by simp)
            · simpa using hr
            · simpa using hv2
            · exact hu
          case measure => first | (simp [intOf]; done) | (simp [intOf]; omega)
        · rw [List.concat_eq_append] at *
          have hql : (Q ++ [y]).length = Q.length + 1 := by simp
          have hqk : Q.length < k := by have := hPS.out; rw [hql] at this; omega
          have erow : Q ++ [y] ++ x :: (S ++ R') = Q ++ y :: x :: (S ++ R') := by simp
          rw [erow] at hr hv2
          have hrl : (Q ++ y :: x :: (S ++ R')).length = n := by
            have h1 := hp.out.length_eq
            have h2 := HN.out
            rw [erow] at h1
            omega
          have h0 : Q.length < (Q ++ y :: x :: (S ++ R')).length := by simp
          have h1 : Q.length + 1 < (Q ++ y :: x :: (S ++ R')).length := by simp
          have e0 : (Q ++ y :: x :: (S ++ R'))[Q.length]'h0 = y := by rw [List.getElem_append_right (Nat.le_refl _)]; simp
          have e1 : (Q ++ y :: x :: (S ++ R'))[Q.length + 1]'h1 = x := by rw [List.getElem_append_right (by omega)]; simp
          have HL := hide (Less_334 (Q ++ y :: x :: (S ++ R')) g cap c (Q.length + 1) Q.length h1 h0 _ hr)
          have HS := hide (fun (W : World) (hr : DRow W g cap (Q ++ y :: x :: (S ++ R'))) (hv : DVals W (Q ++ y :: x :: (S ++ R'))) => Swap_335 (Q ++ y :: x :: (S ++ R')) g cap c (Q.length + 1) Q.length h1 h0 (by omega) W hr hv)
          rw [swap_list] at HS
          rw [e0, e1, hrl] at HL
          rw [hrl] at HS
          have eq1 : ((Q.length + 1 : Nat) : Int) = (Q.length : Int) + 1 := by omega
          rw [hql]
          simp only [eq1] at HL HS ⊢
          have HQL := hide hql
          have ER := hide erow
          obtain ⟨q, hq⟩ : ∃ q, Q.length = q := ⟨_, rfl⟩
          rw [hq] at HL HS hqk ⊢
          have HQ := hide hq
          clear e0 e1 hrl eq1 h0 h1 hql erow hq
          have t0 : (0 : Int) < (q : Int) + 1 := by omega
          cases hxy : Op.bytesLess x.d y.d with
          | false =>
            rw [hxy] at HL
            go_wp2_with fail
            refine HL.out.mono ?_
            rintro e w5 ⟨rfl, qn, hw5⟩
            have hr5 : DRow w5 g cap (Q ++ y :: x :: (S ++ R')) := by rw [hw5]; exact hr.drewN qn
            have hv5 : DVals w5 (Q ++ y :: x :: (S ++ R')) := by rw [hw5]; exact hv2.grow ((Upd.refl [] _).drewN qn)
            have hu5 : Upd [g] w w5 := by rw [hw5]; exact hu.drewN qn
            clear hw5 HL HS hr hv2 hu
            have hv2 := hv5
            have hr := hr5
            go_wp2
            go_roundw
            case rel =>
              refine ⟨(Q ++ [y]) ++ x :: S, R', ?_, ?_, ?_, ?_, ?_, ?_, ?_⟩
              · show _ ∧ _
                have := hPS.out
                simp at this ⊢
                omega
              · have := hPS.out
                simp at this
                have e : ((Q ++ [y]) ++ x :: S).length = k + 1 := by simp; omega
                rw [e]; first | rfl | go_num
              · show List.Perm _ _
                simpa using hp.out
              · exact Asc.insert hasc.out hlt2.out (by intro z hz; simp at hz; subst hz; exact hxy)
              · simpa using hr
              · simpa using hv2
              · exact hu5
            case measure => first | (simp [intOf]; done) | (simp [intOf]; omega)
          | true =>
            rw [hxy] at HL
            go_wp2_with fail
            refine HL.out.mono ?_
            rintro e w5 ⟨rfl, qn, hw5⟩
            have hr5 : DRow w5 g cap (Q ++ y :: x :: (S ++ R')) := by rw [hw5]; exact hr.drewN qn
            have hv5 : DVals w5 (Q ++ y :: x :: (S ++ R')) := by rw [hw5]; exact hv2.grow ((Upd.refl [] _).drewN qn)
            have hu5 : Upd [g] w w5 := by rw [hw5]; exact hu.drewN qn
            clear hw5 HL hr hv2 hu
            go_wp2_with fail
            refine (HS.out _ hr5 hv5).mono ?_
            rintro e w6 ⟨rfl, hr6, hv6, hu6⟩
            have u6 := hu5.trans hu6 (fun k hk _ => hk)
            clear HS hr5 hu5 hu6 hv5
            have hpm : (Q ++ x :: y :: (S ++ R')).Perm (Q ++ y :: x :: (S ++ R')) := List.Perm.append_left Q (List.Perm.swap y x _)
            go_wp2
            go_roundw
            case rel =>
              refine ⟨Q, y :: S, ?_, ?_, ?_, ?_, ?_, hr6, ?_, u6⟩
              · show _ = _
                have := hPS.out
                rw [HQL.out] at this
                rw [List.length_cons]; omega
              · rw [HQ.out]
              · show List.Perm _ _
                have := hp.out
                rw [ER.out] at this
                exact hpm.trans this
              · show Asc _
                have := hasc.out
                simpa using this
              · show ∀ s ∈ _, _
                intro s hs
                rcases List.mem_cons.1 hs with rfl | hs
                · exact hxy
                · exact hlt2.out s hs
              · exact hv6.perm hpm
            case measure => simp [intOf]
    · have s1 : ¬ (k : Int) < (k : Int) := by omega
      have hR : R = [] := by cases R with
        | nil => rfl
        | cons a r => simp at hlen; omega
      subst hR
      rw [List.append_nil] at hp hr hvr
      clear hk
      go_wp2
      go_end0
      exact ⟨A, rfl, hp.out, hasc.out, hr, hvr, hu⟩

theorem pdqsort_135 (l : List DC) (g cap c : Nat) (lim : Int) (hn : l.length ≤ 12) (hn1 : 1 ≤ l.length) (w : World) (h : DRow w g cap l) (hv : DVals w l) :
    Calls Tryz.prog 135 #[.iface 59 (.slice (some ⟨g, 0, none⟩) l.length c), .int .i64 0, .int .i64 l.length, .int .i64 lim] w (SortRes w g cap l) := by
  have HI := hide (insertionSort_174 l g cap c hn hn1 w h hv)
  have t1 : (l.length : Int) ≤ 12 := by omega
  generalize l.length = n at *
  go_enter Tryz.func135, Tryz.ntmps135
  go_wp2_with fail
  refine wp_loop_rounds 1 ?_
  rw [rounds_succ]
  go_wp2_with fail
  refine HI.out.mono ?_
  rintro e w2 ⟨l', rfl, hr⟩
  go_wp2
  go_end0
  exact ⟨l', rfl, hr⟩

theorem sort_101 (l : List DC) (g cap c : Nat) (hn : l.length ≤ 12) (hn1 : 2 ≤ l.length) (w : World) (h : DRow w g cap l) (hv : DVals w l) :
    Calls Tryz.prog 101 #[.iface 59 (.slice (some ⟨g, 0, none⟩) l.length c)] w (SortRes w g cap l) := by
  have HI := hide (fun lim => pdqsort_135 l g cap c lim hn (by omega) w h hv)
  have k1 := nil_len
  have k2 := meth_len
  have HB := hide (fun (x : Int) (h0 : 0 ≤ x) (h1 : x ≤ 18446744073709551615) => Tryz.bits_Len x w h0 h1)
  obtain ⟨n, hne⟩ : ∃ n, l.length = n := ⟨_, rfl⟩
  rw [hne] at hn hn1 HI ⊢
  clear hne h hv
  have t1 : ¬ (n : Int) ≤ 1 := by omega
  have u1 : IntKind.u64.wrap (n : Int) = (n : Int) := wrapN n (by omega)
  go_enter Tryz.func101, Tryz.ntmps101
  go_wp2_with fail
  refine (Len_333 _ _ _ _).mono ?_
  rintro e w2 ⟨rfl, rfl⟩
  go_wp2_with fail
  refine (HB.out n (by omega) (by omega)).mono ?_
  rintro e w2 ⟨rfl, rfl⟩
  go_wp2_with fail
  refine (HI.out _).mono ?_
  rintro e w2 ⟨l', rfl, hr⟩
  go_wp2
  go_end0
  exact ⟨l', rfl, hr⟩

/-- DecCoins.Sort. -/
theorem Sort_69 (l : List DC) (g cap c : Nat) (hn : l.length ≤ 12) (hn1 : 1 ≤ l.length) (w : World) (h : DRow w g cap l) (hv : DVals w l) :
    Calls Tryz.prog 69 #[.slice (some ⟨g, 0, none⟩) l.length c] w fun e w' => ∃ l', e = .returned (.slice (some ⟨g, 0, none⟩) l'.length c) ∧ l'.Perm l ∧ Asc l' ∧ DRow w' g cap l' ∧ DVals w' l' ∧ Upd [g] w w' := by
  rcases (by omega : l.length = 1 ∨ 2 ≤ l.length) with h1 | h2
  · obtain ⟨x, rfl⟩ : ∃ x, l = [x] := List.length_eq_one_iff.1 h1
    simp only [List.length_singleton]
    go_enter Tryz.func69, Tryz.ntmps69
    go_wp2
    go_ret
    exact ⟨[x], rfl, List.Perm.refl _, List.pairwise_singleton _ _, h, hv, Upd.refl _ _⟩
  · have HI := hide (sort_101 l g cap c hn h2 w h hv)
    obtain ⟨n, hne⟩ : ∃ n, l.length = n := ⟨_, rfl⟩
    have HN := hide hne
    rw [hne] at hn h2 HI ⊢
    clear hne h hv
    have t1 : (1 : Int) < (n : Int) := by omega
    go_enter Tryz.func69, Tryz.ntmps69
    go_wp2_with fail
    refine HI.out.mono ?_
    rintro e w2 ⟨l', rfl, hp, hr⟩
    have hl : l'.length = n := by rw [hp.length_eq]; exact HN.out
    have HL := hide hl
    clear hl
    go_wp2
    go_ret
    exact ⟨l', by rw [HL.out]; rfl, hp, hr⟩

end Go.Proofs.YtnajekpckbfcdaaGreatDoor

namespace Go.Proofs.YtnajekpckbfcdaaGreatDoor
open Go.RowKit

theorem DecIsZero_133 (w : World) (p : Nat) (A : Option Addr) (m : Int) (h : IntV w p A m) :
    Calls Tryz.prog 133 #[DV p] w fun e w' => e = .returned (.bool (m.sign == 0)) ∧ Upd [] w w' := by
  have u1 : Upd [] w (w.alloc (.cells #[.pointer (some ⟨p, 0, none⟩)] 85)) := (Upd.refl _ _).alloc _
  have HC := hide (Sign_any _ p A m (h.grow u1))
  clear h
  generalize m.sign = s at *
  go_enter Tryz.func133, Tryz.ntmps133
  go_wp2_with fail
  refine HC.out.mono ?_
  rintro e w2 ⟨rfl, rfl⟩
  clear HC
  go_wp2
  go_ret
  exact ⟨by first | rfl | simp, u1⟩
theorem CoinIsZero_100 (w : World) (d : ByteArray) (p : Nat) (A : Option Addr) (m : Int) (h : IntV w p A m) :
    Calls Tryz.prog 100 #[CV d p] w fun e w' => e = .returned (.bool (m.sign == 0)) ∧ Upd [] w w' := by
  have u1 : Upd [] w (w.alloc (.cells #[.string d, .pointer (some ⟨p, 0, none⟩)] 87)) := (Upd.refl _ _).alloc _
  have HC := hide (DecIsZero_133 _ p A m (h.grow u1))
  clear h
  generalize (m.sign == 0) = s at *
  go_enter Tryz.func100, Tryz.ntmps100
  go_wp2_with fail
  refine HC.out.mono ?_
  rintro e w2 ⟨rfl, hu⟩
  clear HC
  go_wp2
  go_ret
  exact ⟨by first | rfl | simp, u1.on0 hu⟩
theorem sign_zero (m : Nat) : ((m : Int).sign == 0) = decide (m = 0) := by
  cases m with
  | zero => rfl
  | succ m => rw [Int.sign_eq_one_of_pos (by omega)]; simp

/-- The coins that are not of 0. -/
def nz (l : List DC) : List DC := l.filter fun c => decide (c.m ≠ 0)
def dcells : List DC → List Value
  | [] => []
  | c :: r => .string (bs c.d) :: .pointer (some ⟨c.q, 0, none⟩) :: dcells r
theorem dcells_append (a b : List DC) : dcells (a ++ b) = dcells a ++ dcells b := by
  induction a with
  | nil => rfl
  | cons c r ih => simp [dcells, ih]
theorem dcells_get : ∀ (l : List DC) (k : Nat) (h : k < l.length), (dcells l)[k * 2]? = some (.string (bs l[k].d)) ∧ (dcells l)[k * 2 + 1]? = some (.pointer (some ⟨l[k].q, 0, none⟩))
  | c :: r, 0, _ => ⟨rfl, rfl⟩
  | c :: r, k + 1, h => by
    have := dcells_get r k (by simpa using h)
    rw [show (k + 1) * 2 = k * 2 + 2 by omega, show k * 2 + 2 + 1 = (k * 2 + 1) + 2 by omega]
    exact this
theorem own_drow {w : World} {base : Nat} {v : Value} {l : List DC} (h : w.ownsRow base 87 2 v l.length (dcells l)) (hn : 0 < l.length) :
    ∃ (g cap : Nat), v = .slice (some ⟨g, 0, none⟩) l.length cap ∧ base ≤ g ∧ DRow w g cap l := by
  rcases h.2 with ⟨_, h0⟩ | ⟨g, cap, cur, hv, hb, hg, hc, _, hs, ht⟩
  · omega
  · refine ⟨g, cap, hv, hb, cur, hg, hs, hc, ?_⟩
    intro k hk
    obtain ⟨e1, e2⟩ := dcells_get l k hk
    rw [← ht, List.getElem?_take] at e1 e2
    rw [if_pos (by omega)] at e1 e2
    exact ⟨by simpa using e1, by simpa using e2⟩

theorem own_grow {w w' : World} {base : Nat} {e : TypeId} {size n : Nat} {v : Value} {xs : List Value} (h : w.ownsRow base e size v n xs) (hu : Upd [] w w') : w'.ownsRow base e size v n xs :=
  h.kept (row := none) ⟨hu.os, hu.tape, hu.output, hu.size, fun k hk _ => hu.block k hk (by simp)⟩ (by cases v.ownBlock <;> simp)

set_option maxRecDepth 20000 in
set_option maxHeartbeats 4000000 in
theorem removeZero_68 (l : List DC) (g cap c : Nat) (hn : l.length ≤ 1000) (w : World) (h : DRow w g cap l) (hv : DVals w l) :
    Calls Tryz.prog 68 #[.slice (some ⟨g, 0, none⟩) l.length c] w fun e w' => ∃ v, e = .returned v ∧ w'.ownsRow w.heap.size 87 2 v (nz l).length (dcells (nz l)) ∧ Upd [] w w' := by
  obtain ⟨n, hne⟩ : ∃ n, l.length = n := ⟨_, rfl⟩
  have HN := hide hne
  rw [hne] at hn ⊢
  clear hne
  obtain ⟨i0, hi, hz0, hz1, hz2⟩ := info_parts info87
  have hmk : ∀ w : World, (Instr.makeSlice 58 (.int .i64 0) (.int .i64 (n : Int))).run Tryz.prog w = .ok (.slice (some ⟨w.heap.size, 0, none⟩) 0 n) (w.alloc (.cells (madeCells #[.string ⟨#[]⟩, .pointer none] (n * 2)) 87)) := fun w => by
    have := run_make_rowN (P := Tryz.prog) 58 87 i0 _ Tryz.underlying58 hi hz0 .i64 .i64 0 n (Nat.zero_le _) (by rw [hz2]; omega) (by omega) w
    rw [hz1] at this
    exact this
  have hgl := h.lt
  go_enter Tryz.func68, Tryz.ntmps68
  go_upto_region 2 with (fail)
  have hown0 := World.ownsRow_made (e := 87) (size := 2) (base := w.heap.size) w (madeCells #[.string ⟨#[]⟩, .pointer none] (n * 2)) n (Nat.le_refl _) (by unfold maxLen; omega) (by rw [size_madeCells])
  have u1 := (Upd.refl [] w).alloc (.cells (madeCells #[.string ⟨#[]⟩, .pointer none] (n * 2)) 87)
  have h1 := h.grow ((Upd.refl [] w).alloc (.cells (madeCells #[.string ⟨#[]⟩, .pointer none] (n * 2)) 87))
  generalize madeCells #[.string ⟨#[]⟩, .pointer none] (n * 2) = cur0 at *
  go_wp2_with fail
  go_loopw [3, 11] (fun v i wr => ∃ k : Nat, k ≤ n ∧ i = .int .i64 k ∧ wr.ownsRow w.heap.size 87 2 v (nz (l.take k)).length (dcells (nz (l.take k))) ∧ Upd [] w wr) (fun _ i _ => n - (intOf i).toNat)
  case atStart => exact ⟨0, by omega, rfl, hown0, u1⟩
  case round =>
    obtain ⟨k, hk, rfl, hown, hu⟩ := hrel
    have HOWN := hide hown
    clear hown hown0 u1 h1
    rcases (by omega : k < n ∨ k = n) with hlt | rfl
    · have hkl : k < l.length := by have := HN.out; omega
      have hr := h.grow hu
      have c0 := hr.cell0 k hkl
      have c1 := hr.cell1 k hkl
      obtain ⟨A, hI⟩ := (hv.grow hu) l[k] (List.getElem_mem _)
      have htk : l.take (k + 1) = l.take k ++ [l[k]] := List.take_succ_eq_append_getElem hkl
      have hnzl : (nz (l.take k)).length ≤ k := Nat.le_trans (List.length_filter_le _ _) (by rw [List.length_take]; omega)
      have s1 : (k : Int) < (n : Int) := by omega
      have HTK := hide htk
      clear htk
      generalize l[k] = x at *
      have u2 := hu.alloc (.cells #[.string (bs x.d), .pointer (some ⟨x.q, 0, none⟩)] 87)
      have hI2 := hI.alloc (.cells #[.string (bs x.d), .pointer (some ⟨x.q, 0, none⟩)] 87)
      have hT2 := Blk.new wr 87 #[.string (bs x.d), .pointer (some ⟨x.q, 0, none⟩)]
      have ho2 := HOWN.out.alloc (.cells #[.string (bs x.d), .pointer (some ⟨x.q, 0, none⟩)] 87)
      have HO2 := hide ho2
      clear ho2 HOWN
      go_upto_region 5 with (fail)
      clear c0 c1 hr hu hI
      obtain ⟨Y, hY⟩ : ∃ Y, wr.heap.size = Y := ⟨_, rfl⟩
      rw [hY] at hT2 ⊢
      generalize wr.alloc (.cells #[.string (bs x.d), .pointer (some ⟨x.q, 0, none⟩)] 87) = w2 at *
      clear hY
      have HZ := hide (CoinIsZero_100 w2 (bs x.d) x.q A x.m hI2)
      rw [sign_zero] at HZ
      have y0 := hT2.fst
      have y1 := hT2.snd
      cases hz : decide (x.m = 0) with
      | true =>
        rw [hz] at HZ
        have hnz : nz (l.take (k + 1)) = nz (l.take k) := by
          rw [HTK.out]; unfold nz; rw [List.filter_append]; have := of_decide_eq_true hz; simp [this]
        have HNZ := hide hnz
        clear hnz
        go_wp2_with fail
        refine HZ.out.mono ?_
        rintro e w3 ⟨rfl, hu3⟩
        have u3 := u2.on0 hu3
        clear HZ
        go_wp2
        go_roundw
        case rel =>
          refine ⟨k + 1, by omega, by go_num, ?_, u3⟩
          rw [HNZ.out]
          exact own_grow HO2.out hu3
        case measure => first | (simp [intOf]; done) | (simp [intOf]; omega)
      | false =>
        rw [hz] at HZ
        have hnz : nz (l.take (k + 1)) = nz (l.take k) ++ [x] := by
          rw [HTK.out]; unfold nz; rw [List.filter_append]; have := of_decide_eq_false hz; simp [this]
        have HNZ := hide hnz
        clear hnz
        go_wp2_with fail
        refine HZ.out.mono ?_
        rintro e w3 ⟨rfl, hu3⟩
        have u3 := u2.on0 hu3
        have hT3 := hT2.grow hu3
        have HO3 := hide (own_grow HO2.out hu3)
        have hwb := u3.size
        clear HZ HO2 u2 hT2 y0 y1
        have y0 := hT3.fst
        have y1 := hT3.snd
        go_upto_region 7 with (first
          | (at_builtin; refine wpList_append_own _ rfl _ _ 58 rfl w.heap.size 87 i0 (.agg #[.string ⟨#[]⟩, .pointer none]) 2 24 Tryz.underlying58 hi hz0 hz1 hz2 rfl (by decide) _ _ _ rfl (HO3.out.alloc _) ⟨w3.heap.size, 0, none⟩ 1 1 [.string (bs x.d), .pointer (some ⟨x.q, 0, none⟩)] rfl rfl ?d1 ?d2 ?d3 ?d4 ?d5 ?_)
          | fail)
        case d1 =>
          intro j u hj
          match j, hj with
          | 0, hj => simp at hj; subst hj; simp [Addr.add]
          | 1, hj => simp at hj; subst hj; simp [Addr.add]
          | j + 2, hj => simp at hj
        case d2 =>
          intro u hu
          simp at hu
          rcases hu with rfl | rfl <;> rfl
        case d3 => unfold maxLen; omega
        case d4 => omega
        case d5 => simp; omega
        intro v' w4 hown' hgrow _
        have u4 : Upd [] w w4 := Upd.of_below ((Below.alloc (u3.below (Nat.le_refl _) (by simp)) hwb _).grown hgrow (by simp; omega) (fun k hk => (World.ownsRow.lt HO3.out k hk).1)) []
        have ho4 : w4.ownsRow w.heap.size 87 2 v' (nz (l.take k) ++ [x]).length (dcells (nz (l.take k) ++ [x])) := by
          rw [dcells_append, List.length_append]; exact hown'
        have HO4 := hide ho4
        clear ho4 hown' hgrow HO3 u3
        go_wp2
        go_roundw
        case rel =>
          refine ⟨k + 1, by omega, by go_num, ?_, u4⟩
          rw [HNZ.out]
          exact HO4.out
        case measure => first | (simp [intOf]; done) | (simp [intOf]; omega)
    · have s1 : ¬ (k : Int) < (k : Int) := by omega
      have hlk : l.take k = l := List.take_of_length_le (by have := HN.out; omega)
      rw [hlk] at HOWN
      go_wp2
      go_ret
      exact ⟨_, rfl, HOWN.out, hu⟩

end Go.Proofs.YtnajekpckbfcdaaGreatDoor

namespace Go.Proofs.YtnajekpckbfcdaaGreatDoor
open Go.RowKit

/-- What sanitizeDecCoins hands back: no coins, or a sorted row. -/
def SanRes (w : World) (l : List DC) (e : Ending) (w' : World) : Prop :=
  ∃ l' A n c, e = .returned (.slice A n c) ∧ n = l'.length ∧ (0 < n → ∃ g cap, A = some ⟨g, 0, none⟩ ∧ DRow w' g cap l' ∧ w.heap.size ≤ g ∧ c = cap) ∧ A ≠ none ∧ l'.Perm (nz l) ∧ Asc l' ∧ DVals w' l' ∧ Upd [] w w'

theorem Upd.drop {w w1 w2 : World} {g : Nat} (h1 : Upd [] w w1) (h2 : Upd [g] w1 w2) (hg : w.heap.size ≤ g) : Upd [] w w2 :=
  h1.trans h2 (fun k hk hlt => by simp only [List.mem_singleton] at hk; omega)

set_option maxRecDepth 20000 in
set_option maxHeartbeats 1000000 in
theorem sanitize_44 (l : List DC) (g cap c : Nat) (hn : l.length ≤ 12) (w : World) (h : DRow w g cap l) (hv : DVals w l) :
    Calls Tryz.prog 44 #[.slice (some ⟨g, 0, none⟩) l.length c] w (SanRes w l) := by
  have HR := hide (removeZero_68 l g cap c (by omega) w h hv)
  have hnl : (nz l).length ≤ 12 := Nat.le_trans (List.length_filter_le _ _) hn
  have hvz : ∀ w' : World, Upd [] w w' → DVals w' (nz l) := fun w' hu c hc => (hv.grow hu) c (List.mem_filter.1 hc).1
  have HVZ := hide hvz
  clear hvz hv h hn
  obtain ⟨z, hzz⟩ : ∃ z, nz l = z := ⟨_, rfl⟩
  rw [hzz] at HR hnl HVZ
  have HZZ := hide hzz
  clear hzz
  generalize l.length = n at *
  go_enter Tryz.func44, Tryz.ntmps44
  go_wp2_with fail
  refine HR.out.mono ?_
  rintro e w2 ⟨v, rfl, hown, u2⟩
  rcases Nat.eq_zero_or_pos z.length with hz | hz
  · have hz0 : z = [] := List.length_eq_zero_iff.1 hz
    subst hz0
    have hv0 : v = .slice none 0 0 ∨ ∃ g2 cap2, v = .slice (some ⟨g2, 0, none⟩) 0 cap2 := by
      rcases hown.2 with ⟨h, _⟩ | ⟨g2, cap2, cur, h, _⟩
      · exact .inl h
      · exact .inr ⟨g2, cap2, h⟩
    clear hown HR hz
    rcases hv0 with rfl | ⟨g2, cap2, rfl⟩
    all_goals (
      simp only [List.length_nil]
      go_wp2
      go_ret
      exact ⟨[], _, _, _, rfl, rfl, fun h => absurd h (Nat.lt_irrefl 0), by simp, by rw [HZZ.out], List.Pairwise.nil, fun c hc => by simp at hc, by first | exact u2.alloc _ | exact u2⟩)
  · obtain ⟨g2, cap2, rfl, hg2, hr2⟩ := own_drow hown hz
    have t1 : ¬ (z.length : Int) = 0 := by omega
    have t2 : ((z.length : Int) == 0) = false := beq_eq_false_iff_ne.2 t1
    have HS := hide (Sort_69 z g2 cap2 cap2 hnl hz w2 hr2 (HVZ.out w2 u2))
    obtain ⟨k, hk⟩ : ∃ k, z.length = k := ⟨_, rfl⟩
    have HK := hide hk
    rw [hk] at t1 t2 HS ⊢
    clear hk hown hr2 HR
    go_wp2_with fail
    refine HS.out.mono ?_
    rintro e w3 ⟨l', rfl, hp, hasc, hr3, hv3, hu3⟩
    clear HS
    go_wp2
    go_ret
    exact ⟨l', _, _, _, rfl, rfl, fun _ => ⟨g2, cap2, rfl, hr3, hg2, rfl⟩, by simp, by rw [HZZ.out]; exact hp, hasc, hv3, u2.drop hu3 hg2⟩

end Go.Proofs.YtnajekpckbfcdaaGreatDoor
