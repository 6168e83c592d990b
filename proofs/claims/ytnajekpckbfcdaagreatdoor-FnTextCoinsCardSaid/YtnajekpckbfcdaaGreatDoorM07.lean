/-
  Int: Set, Cmp, mul, Add, Sub.
-/
import Derived.Test.YtnajekpckbfcdaaGreatDoorM05
set_option linter.unusedVariables false
set_option linter.unusedSimpArgs false
namespace Go.Proofs.YtnajekpckbfcdaaGreatDoor
open Go.RowKit

/-- An Int: its sign and its nat. -/
def IntV (w : World) (p : Nat) (A : Option Addr) (m : Int) : Prop := ∃ L C, Blk w p 133 #[.bool (decide (m < 0)), .slice A L C] ∧ NatS w A L C (wo m.natAbs)
def Sm (m : Int) : Prop := m.natAbs < 18446744073709551616 ^ 100
/-- What an Int's method hands back: its receiver, at p, with the number m. -/
def IntRes (w : World) (p : Nat) (Z : Option Addr) (m : Int) (e : Ending) (w' : World) : Prop :=
  ∃ A, e = .returned (.pointer (some ⟨p, 0, none⟩)) ∧ IntV w' p A m ∧ Upd (p :: bof Z) w w' ∧ ∀ b ∈ bof A, b ∈ bof Z ∨ w.heap.size ≤ b

section
variable {w w' : World} {A : Option Addr} {L C p : Nat} {ws : List Nat} {S : List Nat} {m : Int}
theorem NatS.not_mem {t : TypeId} {cs : Array Value} (h : NatS w A L C ws) (hb : Blk w p t cs) (ht : t ≠ 161) : p ∉ bof A := by
  obtain ⟨h1, h2, h3, h4, h5⟩ := h
  rcases h5 with ⟨rfl, _⟩ | ⟨b, cs', rfl, hb', _⟩
  · simp [bof]
  · simp only [bof, List.mem_singleton]
    exact hb.ne_ hb' ht
theorem IntV.upd (h : IntV w p A m) (hu : Upd S w w') (hp : p ∉ S) (hs : ∀ b ∈ bof A, b ∉ S) : IntV w' p A m := by
  obtain ⟨L, C, h1, h2⟩ := h
  exact ⟨L, C, h1.upd hu hp, h2.upd hu hs⟩
theorem IntV.lt (h : IntV w p A m) : p < w.heap.size := by obtain ⟨L, C, h1, h2⟩ := h; exact h1.lt
theorem IntV.row_lt (h : IntV w p A m) : ∀ b ∈ bof A, b < w.heap.size := by obtain ⟨L, C, h1, h2⟩ := h; exact h2.lt
theorem Sm.len (h : Sm m) (hS : NatS w A L C (wo m.natAbs)) : L ≤ 100 := by rw [← hS.1]; exact wo_len_le h
end

theorem Blk.fst {w : World} {g : Nat} {t : TypeId} {a b : Value} (h : Blk w g t #[a, b]) : w.cell? ⟨g, 0, none⟩ = some a := h.cell 0
theorem Blk.snd {w : World} {g : Nat} {t : TypeId} {a b : Value} (h : Blk w g t #[a, b]) : w.cell? ⟨g, 1, none⟩ = some b := h.cell 1
theorem Blk.put0 {w : World} {g : Nat} {t : TypeId} {a b : Value} (h : Blk w g t #[a, b]) (u : Value) : Blk (w.setCell ⟨g, 0, none⟩ u) g t #[u, b] := h.set_ 0 u
theorem Blk.put1 {w : World} {g : Nat} {t : TypeId} {a b : Value} (h : Blk w g t #[a, b]) (u : Value) : Blk (w.setCell ⟨g, 1, none⟩ u) g t #[a, u] := h.set_ 1 u

theorem info133 : (Tryz.prog.info? 133).map (fun i => i.size) = some 2 := by kernel_rfl

theorem ptr_ne (w : World) {a b : Nat} {ca cb : Array Value} {ta tb : TypeId} (hne : a ≠ b) (ha : Blk w a ta ca) (hb : Blk w b tb cb) :
    (binOp .neq 83 (.pointer (some ⟨a, 0, none⟩)) (.pointer (some ⟨b, 0, none⟩))).run Tryz.prog w = .ok (.bool true) w := by
  obtain ⟨i0, hi0, hz0⟩ : ∃ i, Tryz.prog.info? 133 = some i ∧ i.size = 2 := by
    have := info133
    rcases h : Tryz.prog.info? 133 with _ | i
    · rw [h] at this; simp at this
    · rw [h] at this; exact ⟨i, rfl, by simpa using this⟩
  exact run_neq_ptr_other (te := 133) w Tryz.underlying83 hi0 (by omega) (by intro h; injection h with h; exact hne h) ha hb

set_option maxHeartbeats 4000000 in
theorem Set_any (w : World) (pz px : Nat) (nz : Bool) (Z X : Option Addr) (Lz Cz Lx Cx n : Nat) (wz : List Nat) (nx : Bool) (hne : pz ≠ px) (hz : Blk w pz 133 #[.bool nz, .slice Z Lz Cz]) (hZ : NatS w Z Lz Cz wz)
    (hx : Blk w px 133 #[.bool nx, .slice X Lx Cx]) (hX : NatS w X Lx Cx (wo n)) (hL : Lx ≤ 100) :
    Calls Tryz.prog 127 #[.pointer (some ⟨pz, 0, none⟩), .pointer (some ⟨px, 0, none⟩)] w fun e w' =>
      ∃ A L C, e = .returned (.pointer (some ⟨pz, 0, none⟩)) ∧ Blk w' pz 133 #[.bool nx, .slice A L C] ∧ NatS w' A L C (wo n) ∧ Upd (pz :: bof Z) w w' ∧ ∀ b ∈ bof A, b ∈ bof Z ∨ w.heap.size ≤ b := by
  have hq := ptr_ne w hne hz hx
  have cz0 := hz.fst
  have cz1 := hz.snd
  have cx0 := hx.fst
  have cx1 := hx.snd
  have hpz := hZ.not_mem hz (by decide)
  have hpx := hZ.not_mem hx (by decide)
  have hset := set_any w.drew Z X Lz Cz Lx Cx n wz hZ.drew hX.drew (by omega)
  have HC := hide hset
  clear hset
  go_enter Tryz.func127, Tryz.ntmps127
  go_wp2_with fail
  go_region_with (go_at_call 138; refine HC.out.mono ?_; rintro e w2 ⟨A, L, C, rfl, hS, hu, hb⟩; have hz2 := hz.drew.upd hu hpz; have hx2 := hx.drew.upd hu hpx; have cz2 := hz2.snd; have fz2 := hz2.frozen 1)
  all_goals (
    have hz3 := hz2.put1 (.slice A L C)
    have hx3 := hx2.far (p := ⟨pz, 1, none⟩) (Ne.symm hne) (.slice A L C)
    have hS3 := hS.setCell (p := ⟨pz, 1, none⟩) (hS.not_mem hz2 (by decide)) (.slice A L C)
    have hu3 : Upd (pz :: bof Z) w (w2.setCell ⟨pz, 1, none⟩ (.slice A L C)) := (hu.undrew.mono (fun k hk _ => List.mem_cons_of_mem _ hk)).setCell (by simp) _
    clear cz2 fz2
    generalize w2.setCell ⟨pz, 1, none⟩ (.slice A L C) = w3 at hz3 hx3 hS3 hu3 ⊢
    have cx3 := hx3.fst
    have cz3 := hz3.fst
    have fz3 := hz3.frozen 0
    go_wp2
    go_ret
    exact ⟨A, L, C, rfl, hz3.put0 _, hS3.setCell (hS3.not_mem hz3 (by decide)) _, hu3.setCell (by simp) _, hb⟩)

/-- A new Int. -/
def NewRes (w : World) (m : Int) (e : Ending) (w' : World) : Prop :=
  ∃ p A, e = .returned (.pointer (some ⟨p, 0, none⟩)) ∧ IntV w' p A m ∧ Upd [] w w' ∧ w.heap.size ≤ p ∧ ∀ b ∈ bof A, w.heap.size ≤ b

theorem NewInt_nat (w : World) (x : Nat) (hx : x < 9223372036854775808) : Calls Tryz.prog 72 #[.int .i64 x] w (NewRes w x) := by
  rcases Nat.eq_zero_or_pos x with rfl | hp
  · go_enter Tryz.func72, Tryz.ntmps72
    go_wp2
    go_ret
    refine ⟨_, none, rfl, ⟨0, 0, Blk.new _ _ _, ?_⟩, (Upd.refl _ _).alloc _, Nat.le_refl _, by simp [bof]⟩
    show NatS _ _ _ _ (wo 0)
    rw [wo_zero]; exact NatS.nil _
  · have h1 : IntKind.u64.wrap (x : Int) = (x : Int) := wrapN x (by omega)
    have h2 : decide ((x : Int) < 0) = false := decide_eq_false (by omega)
    have h3 : ((x : Int) == 0) = false := beq_eq_false_iff_ne.2 (by omega)
    have h4 : ¬ (x : Int) = 0 := by omega
    have h5 : ¬ x = 0 := by omega
    have h6 : ¬ (x : Int) < 0 := by omega
    go_enter Tryz.func72, Tryz.ntmps72
    go_wp2
    go_ret
    refine ⟨w.heap.size + 1, some ⟨w.heap.size, 0, none⟩, by simp, ⟨1, 1, ?_, ?_⟩, ((Upd.refl _ _).alloc _).alloc _, by omega, by simp [bof]⟩
    · rw [h2]
      have := Blk.new (w.alloc (.cells #[W64 x] 161)) 133 #[.bool false, .slice (some ⟨w.heap.size, 0, none⟩) 1 1]
      rw [World.size_alloc] at this
      exact this
    · have hb := (Blk.new w 161 #[W64 x]).alloc (.cells #[.bool false, .slice (some ⟨w.heap.size, 0, none⟩) 1 1] 133)
      rw [Int.natAbs_natCast, wo_one h5 (by omega)]
      exact NatS.mk _ _ hb (ws := [x]) (fun i hi => by
        have hi0 : i = 0 := by simpa using hi
        subst hi0; rfl) (by simpa using (by omega : x < 18446744073709551616)) (by simp) (by simp) (by simp)

theorem Sign_any (w : World) (p : Nat) (A : Option Addr) (m : Int) (h : IntV w p A m) :
    Calls Tryz.prog 76 #[.pointer (some ⟨p, 0, none⟩)] w fun e w' => e = .returned (.int .i64 m.sign) ∧ w = w' := by
  obtain ⟨L, C, hb, hS⟩ := h
  have c0 := hb.fst
  have c1 := hb.snd
  rcases Int.lt_trichotomy m 0 with hm | hm | hm
  · have hL : 0 < L := by rw [← hS.1]; exact wo_len_pos (by omega)
    have t1 : ((L : Int) == 0) = false := beq_eq_false_iff_ne.2 (by omega)
    rw [decide_eq_true hm] at c0
    rw [Int.sign_eq_neg_one_of_neg hm]
    clear hb
    go_enter Tryz.func76, Tryz.ntmps76
    go_wp2
    go_ret
    exact ⟨rfl, rfl⟩
  · subst hm
    have hL : L = 0 := by rw [← hS.1]; simp [wo_zero]
    subst hL
    clear hb
    go_enter Tryz.func76, Tryz.ntmps76
    go_wp2
    go_ret
    exact ⟨rfl, rfl⟩
  · have hL : 0 < L := by rw [← hS.1]; exact wo_len_pos (by omega)
    have t1 : ((L : Int) == 0) = false := beq_eq_false_iff_ne.2 (by omega)
    rw [decide_eq_false (by omega)] at c0
    rw [Int.sign_eq_one_of_pos hm]
    clear hb
    go_enter Tryz.func76, Tryz.ntmps76
    go_wp2
    go_ret
    exact ⟨rfl, rfl⟩

/-- Neg of another Int. -/
theorem Neg_any (w : World) (pz px : Nat) (nz : Bool) (Z X : Option Addr) (Lz Cz : Nat) (wz : List Nat) (m : Int) (hne : pz ≠ px) (hz : Blk w pz 133 #[.bool nz, .slice Z Lz Cz]) (hZ : NatS w Z Lz Cz wz)
    (hx : IntV w px X m) (hm : Sm m) :
    Calls Tryz.prog 92 #[.pointer (some ⟨pz, 0, none⟩), .pointer (some ⟨px, 0, none⟩)] w (IntRes w pz Z (-m)) := by
  obtain ⟨Lx, Cx, hxb, hX⟩ := hx
  have hset := Set_any w pz px nz Z X Lz Cz Lx Cx m.natAbs wz (decide (m < 0)) hne hz hZ hxb hX (hm.len hX)
  have HC := hide hset
  clear hset
  go_enter Tryz.func92, Tryz.ntmps92
  go_wp2_with fail
  refine HC.out.mono ?_
  rintro e w1 ⟨A, L, C, rfl, hb, hS, hu, hA⟩
  have c0 := hb.fst
  have c1 := hb.snd
  have f0 := hb.frozen 0
  have hlt := hb.lt
  have hpA := hS.not_mem hb (by decide)
  rcases Int.lt_trichotomy m 0 with hm0 | hm0 | hm0
  · have hL : 0 < L := by rw [← hS.1]; exact wo_len_pos (by omega)
    have t1 : (0 : Int) < (L : Int) := by omega
    rw [decide_eq_true hm0] at c0 hb
    clear HC
    go_wp2
    go_ret
    refine ⟨A, rfl, ⟨L, C, ?_, ?_⟩, hu.setCell (by simp) _, hA⟩
    · rw [decide_eq_false (by omega)]; exact hb.put0 _
    · rw [Int.natAbs_neg]; exact hS.setCell hpA _
  · subst hm0
    have hL : L = 0 := by rw [← hS.1]; simp [wo_zero]
    subst hL
    clear HC
    go_wp2
    go_ret
    refine ⟨A, rfl, ⟨0, C, ?_, ?_⟩, hu.setCell (by simp) _, hA⟩
    · exact hb.put0 _
    · exact hS.setCell hpA _
  · have hL : 0 < L := by rw [← hS.1]; exact wo_len_pos (by omega)
    have t1 : (0 : Int) < (L : Int) := by omega
    rw [decide_eq_false (by omega)] at c0 hb
    clear HC
    go_wp2
    go_ret
    refine ⟨A, rfl, ⟨L, C, ?_, ?_⟩, hu.setCell (by simp) _, hA⟩
    · rw [decide_eq_true (by omega)]; exact hb.put0 _
    · rw [Int.natAbs_neg]; exact hS.setCell hpA _

end Go.Proofs.YtnajekpckbfcdaaGreatDoor

namespace Go.Proofs.YtnajekpckbfcdaaGreatDoor
open Go.RowKit

def icmp (a b : Int) : Int := if a < b then -1 else if b < a then 1 else 0
theorem icmp_pos {a b : Int} (ha : 0 ≤ a) (hb : 0 ≤ b) : ncmp a.natAbs b.natAbs = icmp a b := by
  unfold ncmp icmp
  split <;> split <;> (try split) <;> (try split) <;> omega
theorem icmp_neg {a b : Int} (ha : a < 0) (hb : b < 0) : ncmp a.natAbs b.natAbs = - icmp a b := by
  unfold ncmp icmp
  split <;> split <;> (try split) <;> (try split) <;> omega
theorem ncmp_bd (a b : Nat) : -1 ≤ ncmp a b ∧ ncmp a b ≤ 1 := by unfold ncmp; split <;> (try split) <;> omega

theorem ptr_eq_ne (w : World) {a b : Nat} {ca cb : Array Value} {ta tb : TypeId} (hne : a ≠ b) (ha : Blk w a ta ca) (hb : Blk w b tb cb) :
    (binOp .eql 83 (.pointer (some ⟨a, 0, none⟩)) (.pointer (some ⟨b, 0, none⟩))).run Tryz.prog w = .ok (.bool false) w := by
  obtain ⟨i0, hi0, hz0⟩ : ∃ i, Tryz.prog.info? 133 = some i ∧ i.size = 2 := by
    have := info133
    rcases h : Tryz.prog.info? 133 with _ | i
    · rw [h] at this; simp at this
    · rw [h] at this; exact ⟨i, rfl, by simpa using this⟩
  have hnn : (⟨a, 0, none⟩ : Addr) ≠ ⟨b, 0, none⟩ := by intro h; injection h with h; exact hne h
  have h : ∀ d : Nat, (Op.equalIn (d + 1) 83 (.pointer (some ⟨a, 0, none⟩)) (.pointer (some ⟨b, 0, none⟩))).run Tryz.prog w = .ok false w := fun d => by
    simp [Op.equalIn, run_underlying Tryz.underlying83, sizeOf, typeInfo, hi0, hz0, run_sameAddr_other w hnn ha hb]
  simp only [binOp]
  simp [Op.equal, Op.maxDepth, h 9999]

set_option maxHeartbeats 4000000 in
theorem Cmp_any (w : World) (px py : Nat) (X Y : Option Addr) (a b : Int) (hne : px ≠ py) (hx : IntV w px X a) (hy : IntV w py Y b) (ha : Sm a) (hb : Sm b) :
    Calls Tryz.prog 107 #[.pointer (some ⟨px, 0, none⟩), .pointer (some ⟨py, 0, none⟩)] w fun e w' => e = .returned (.int .i64 (icmp a b)) ∧ ∃ n, w' = w.drewN n := by
  obtain ⟨Lx, Cx, hxb, hX⟩ := hx
  obtain ⟨Ly, Cy, hyb, hY⟩ := hy
  have hq := ptr_eq_ne w hne hxb hyb
  have cx0 := hxb.fst
  have cx1 := hxb.snd
  have cy0 := hyb.fst
  have cy1 := hyb.snd
  have hcmp := fun q => cmp_any (w.drewN q) X Y Lx Cx Ly Cy a.natAbs b.natAbs (hX.drewN q) (hY.drewN q) (by have := ha.len hX; omega) (by have := hb.len hY; omega)
  have HC := hide hcmp
  clear hcmp
  by_cases h1 : a < 0
  · by_cases h2 : b < 0
    · rw [decide_eq_true h1] at cx0
      rw [decide_eq_true h2] at cy0
      have hic := icmp_neg h1 h2
      have hbd := ncmp_bd a.natAbs b.natAbs
      obtain ⟨nc, hnc⟩ : ∃ nc, ncmp a.natAbs b.natAbs = nc := ⟨_, rfl⟩
      rw [hnc] at HC hic hbd
      have hneg : IntKind.i64.wrap (-nc) = icmp a b := by rw [IntWalk.i64_in _ (by omega)]; omega
      clear hic hnc
      go_enter Tryz.func107, Tryz.ntmps107
      go_wp2_with fail
      go_quiet (fail)
      go_wp2_with fail
      have HC1 : Hid (∀ r, Calls Tryz.prog 104 #[.slice X Lx Cx, .slice Y Ly Cy] ((w.drewN nq).drewN r) fun e w' => e = .returned (.int .i64 nc) ∧ ∃ n, w' = ((w.drewN nq).drewN r).drewN n) := fun r => by rw [World.drewN_drewN]; exact HC.out _
      have dx1 := (hxb.drewN nq).snd
      have dy1 := (hyb.drewN nq).snd
      have dx0 := (hxb.drewN nq).fst
      have hX1 := hX.drewN nq
      have hY1 := hY.drewN nq
      have hex : ∃ n, w.drewN nq = w.drewN n := ⟨nq, rfl⟩
      clear HC hxb hyb cx0 cx1 cy0 cy1 hX hY hq
      generalize w.drewN nq = w1 at HC1 dx1 dy1 dx0 hX1 hY1 hex ⊢
      go_quiet ((go_at_call 104; exact Calls.quiet_of (HC1.out _)))
      go_wp2
      go_ret
      refine ⟨by first | rfl | simp [hneg], ?_⟩
      obtain ⟨n, rfl⟩ := hex
      exact ⟨_, by rw [World.drewN_drewN]⟩
    · rw [decide_eq_true h1] at cx0
      rw [decide_eq_false h2] at cy0
      have hic : icmp a b = -1 := by unfold icmp; rw [if_pos (by omega)]
      rw [hic]
      clear hic
      go_enter Tryz.func107, Tryz.ntmps107
      go_wp2_with fail
      go_quiet (fail)
      go_wp2
      go_ret
      exact ⟨rfl, _, rfl⟩
  · by_cases h2 : b < 0
    · rw [decide_eq_false h1] at cx0
      rw [decide_eq_true h2] at cy0
      have hic : icmp a b = 1 := by unfold icmp; rw [if_neg (by omega), if_pos (by omega)]
      rw [hic]
      clear hic
      go_enter Tryz.func107, Tryz.ntmps107
      go_wp2_with fail
      go_quiet (fail)
      go_wp2
      go_ret
      exact ⟨rfl, _, rfl⟩
    · rw [decide_eq_false h1] at cx0
      rw [decide_eq_false h2] at cy0
      have hic := icmp_pos (by omega : 0 ≤ a) (by omega : 0 ≤ b)
      rw [hic] at HC
      clear hic
      go_enter Tryz.func107, Tryz.ntmps107
      go_wp2_with fail
      go_quiet (fail)
      go_wp2_with fail
      have HC1 : Hid (∀ r, Calls Tryz.prog 104 #[.slice X Lx Cx, .slice Y Ly Cy] ((w.drewN nq).drewN r) fun e w' => e = .returned (.int .i64 (icmp a b)) ∧ ∃ n, w' = ((w.drewN nq).drewN r).drewN n) := fun r => by rw [World.drewN_drewN]; exact HC.out _
      have dx1 := (hxb.drewN nq).snd
      have dy1 := (hyb.drewN nq).snd
      have dx0 := (hxb.drewN nq).fst
      have hX1 := hX.drewN nq
      have hY1 := hY.drewN nq
      have hex : ∃ n, w.drewN nq = w.drewN n := ⟨nq, rfl⟩
      clear HC hxb hyb cx0 cx1 cy0 cy1 hX hY hq
      generalize w.drewN nq = w1 at HC1 dx1 dy1 dx0 hX1 hY1 hex ⊢
      go_quiet ((go_at_call 104; exact Calls.quiet_of (HC1.out _)))
      go_wp2
      go_ret
      refine ⟨rfl, ?_⟩
      obtain ⟨n, rfl⟩ := hex
      exact ⟨_, by rw [World.drewN_drewN]⟩

theorem prod_sign {a b : Int} (h : a * b ≠ 0) : (decide (a < 0) != decide (b < 0)) = decide (a * b < 0) := by
  have ha : a ≠ 0 := fun h0 => h (by rw [h0, Int.zero_mul])
  have hb : b ≠ 0 := fun h0 => h (by rw [h0, Int.mul_zero])
  rcases Int.lt_or_gt_of_ne ha with h1 | h1 <;> rcases Int.lt_or_gt_of_ne hb with h2 | h2
  · have := Int.mul_pos_of_neg_of_neg h1 h2
    rw [decide_eq_true h1, decide_eq_true h2, decide_eq_false (by omega)]; rfl
  · have := Int.mul_neg_of_neg_of_pos h1 h2
    rw [decide_eq_true h1, decide_eq_false (by omega), decide_eq_true (by omega)]; rfl
  · have := Int.mul_neg_of_pos_of_neg h1 h2
    rw [decide_eq_false (by omega), decide_eq_true h2, decide_eq_true (by omega)]; rfl
  · have := Int.mul_pos h1 h2
    rw [decide_eq_false (by omega), decide_eq_false (by omega), decide_eq_false (by omega)]; rfl

set_option maxHeartbeats 8000000 in
/-- Mul into another Int; one factor is one word at most. -/
theorem mul_int (w : World) (pz px py : Nat) (nz : Bool) (Z X Y : Option Addr) (Lz Cz : Nat) (wz : List Nat) (a b : Int) (hxy : px ≠ py) (hzx : pz ≠ px) (hzy : pz ≠ py) (hz : Blk w pz 133 #[.bool nz, .slice Z Lz Cz]) (hZ : NatS w Z Lz Cz wz)
    (hx : IntV w px X a) (hy : IntV w py Y b) (ha : Sm a) (hb : Sm b) (hone : a.natAbs < 18446744073709551616 ∨ b.natAbs < 18446744073709551616) :
    Calls Tryz.prog 102 #[.pointer (some ⟨pz, 0, none⟩), .pointer none, .pointer (some ⟨px, 0, none⟩), .pointer (some ⟨py, 0, none⟩)] w fun e w' =>
      ∃ A, e = .returned (.tuple #[]) ∧ IntV w' pz A (a * b) ∧ Upd (pz :: bof Z) w w' ∧ ∀ b ∈ bof A, b ∈ bof Z ∨ w.heap.size ≤ b := by
  obtain ⟨Lx, Cx, hxb, hX⟩ := hx
  obtain ⟨Ly, Cy, hyb, hY⟩ := hy
  have hq := ptr_eq_ne w hxy hxb hyb
  have cx0 := hxb.fst
  have cx1 := hxb.snd
  have cy0 := hyb.fst
  have cy1 := hyb.snd
  have cz1 := hz.snd
  have hpz := hZ.not_mem hz (by decide)
  have hpx := hZ.not_mem hxb (by decide)
  have hpy := hZ.not_mem hyb (by decide)
  have h1 : Lx ≤ 1 ∨ Ly ≤ 1 := by
    rcases hone with h | h
    · exact .inl (by rw [← hX.1]; exact wo_len_le (by rw [Nat.pow_one]; exact h))
    · exact .inr (by rw [← hY.1]; exact wo_len_le (by rw [Nat.pow_one]; exact h))
  have hmul := mul_any w.drew Z X Y (.pointer none) Lz Cz Lx Cx Ly Cy a.natAbs b.natAbs wz hZ.drew hX.drew hY.drew (by have := ha.len hX; omega) (by have := hb.len hY; omega) h1
  have HC := hide hmul
  clear hmul hone
  go_enter Tryz.func102, Tryz.ntmps102
  go_wp2_with fail
  go_region_with (go_at_call 137; refine HC.out.mono ?_; rintro e w2 ⟨A, L, C, rfl, hS, hu, hA⟩; have hz2 := hz.drew.upd hu hpz; have hx2 := hxb.drew.upd hu hpx; have hy2 := hyb.drew.upd hu hpy; have cz2 := hz2.snd; have fz2 := hz2.frozen 1)
  all_goals (
    have hz3 := hz2.put1 (.slice A L C)
    have hx3 := hx2.far (p := ⟨pz, 1, none⟩) (Ne.symm hzx) (.slice A L C)
    have hy3 := hy2.far (p := ⟨pz, 1, none⟩) (Ne.symm hzy) (.slice A L C)
    have hS3 := hS.setCell (p := ⟨pz, 1, none⟩) (hS.not_mem hz2 (by decide)) (.slice A L C)
    have hu3 : Upd (pz :: bof Z) w (w2.setCell ⟨pz, 1, none⟩ (.slice A L C)) := (hu.undrew.mono (fun k hk _ => List.mem_cons_of_mem _ hk)).setCell (by simp) _
    clear cz2 fz2
    generalize w2.setCell ⟨pz, 1, none⟩ (.slice A L C) = w3 at hz3 hx3 hy3 hS3 hu3 ⊢
    clear hz2 hx2 hy2 hS hu HC cx0 cx1 cy0 cy1 cz1 hq
    have cx3 := hx3.fst
    have cy3 := hy3.fst
    have cz3 := hz3.fst
    have cz4 := hz3.snd
    have fz3 := hz3.frozen 0
    have hnm := hS3.not_mem hz3 (by decide))
  all_goals (
    have hab : (a * b).natAbs = a.natAbs * b.natAbs := Int.natAbs_mul a b
    by_cases h0 : a * b = 0
    · have hL : L = 0 := by rw [← hS3.1, ← hab, h0]; simp [wo_zero]
      subst hL
      have t1 : ¬ (0 : Int) < ((0 : Nat) : Int) := by omega
      go_wp2_with fail
      go_region
      go_wp2
      go_end0
      refine ⟨A, rfl, ⟨0, C, ?_, ?_⟩, hu3.drew.setCell (by simp) _, hA⟩
      · rw [h0]; exact hz3.drew.put0 _
      · rw [hab]; exact hS3.drew.setCell hnm _
    · have hL : 0 < L := by rw [← hS3.1, ← hab]; exact wo_len_pos (by omega)
      have t1 : (0 : Int) < (L : Int) := by omega
      have hps := prod_sign h0
      have HPS := hide hps
      clear hps
      go_wp2_with fail
      go_region
      go_wp2
      go_end0
      refine ⟨A, rfl, ⟨L, C, ?_, ?_⟩, hu3.drew.setCell (by simp) _, hA⟩
      · rw [← HPS.out]; exact hz3.drew.put0 _
      · rw [hab]; exact hS3.drew.setCell hnm _)

end Go.Proofs.YtnajekpckbfcdaaGreatDoor

namespace Go.Proofs.YtnajekpckbfcdaaGreatDoor
open Go.RowKit

/-- What Add and Sub hand back, ahead of the signs. -/
def CoreRes (w : World) (p : Nat) (Z : Option Addr) (s : Bool) (m : Nat) (e : Ending) (w' : World) : Prop :=
  ∃ A L C, e = .returned (.pointer (some ⟨p, 0, none⟩)) ∧ Blk w' p 133 #[.bool (decide (m ≠ 0) && s), .slice A L C] ∧ NatS w' A L C (wo m) ∧ Upd (p :: bof Z) w w' ∧ ∀ b ∈ bof A, b ∈ bof Z ∨ w.heap.size ≤ b
theorem CoreRes.int {w w' : World} {p : Nat} {Z : Option Addr} {s : Bool} {m : Nat} {e : Ending} {z : Int} (h : CoreRes w p Z s m e w') (hm : z.natAbs = m) (hs : (decide (m ≠ 0) && s) = decide (z < 0)) : IntRes w p Z z e w' := by
  obtain ⟨A, L, C, he, hb, hS, hu, hA⟩ := h
  exact ⟨A, he, ⟨L, C, by rw [← hs]; exact hb, by rw [hm]; exact hS⟩, hu, hA⟩

set_option maxHeartbeats 8000000 in
theorem Sub_fresh_sub (w : World) (pz px py : Nat) (nz : Bool) (Z X Y : Option Addr) (Lz Cz Lx Cx Ly Cy a b : Nat) (wz : List Nat) (na nb : Bool) (hzx : pz ≠ px) (hzy : pz ≠ py) (hz : Blk w pz 133 #[.bool nz, .slice Z Lz Cz]) (hZ : NatS w Z Lz Cz wz)
    (hxb : Blk w px 133 #[.bool na, .slice X Lx Cx]) (hX : NatS w X Lx Cx (wo a)) (hyb : Blk w py 133 #[.bool nb, .slice Y Ly Cy]) (hY : NatS w Y Ly Cy (wo b)) (hLx : Lx ≤ 100) (hLy : Ly ≤ 100) (ht : na = nb) (hab : b ≤ a) :
    Calls Tryz.prog 165 #[.pointer (some ⟨pz, 0, none⟩), .pointer (some ⟨px, 0, none⟩), .pointer (some ⟨py, 0, none⟩)] w (CoreRes w pz Z (na) (a - b)) := by
  subst ht
  have cx0 := hxb.fst
  have cx1 := hxb.snd
  have cy0 := hyb.fst
  have cy1 := hyb.snd
  have cz1 := hz.snd
  have hpz := hZ.not_mem hz (by decide)
  have hop := fun q => sub_any ((w.drewN q).drew) Z X Y Lz Cz Lx Cx Ly Cy a b wz (hZ.drewN q).drew (hX.drewN q).drew (hY.drewN q).drew (by omega) hab
  have HC := hide hop
  clear hop
  have hcmp := fun q => cmp_any (w.drewN q) X Y Lx Cx Ly Cy a b (hX.drewN q) (hY.drewN q) (by omega) (by omega)
  obtain ⟨nc, hnc⟩ : ∃ nc, ncmp a b = nc := ⟨_, rfl⟩
  have hnc2 : 0 ≤ nc := by
    rw [← hnc]; unfold ncmp; split <;> (try split) <;> omega
  rw [hnc] at hcmp
  have HCM := hide hcmp
  clear hcmp hnc
  go_enter Tryz.func165, Tryz.ntmps165
  go_wp2_with fail
  go_quiet (fail)
  go_wp2_with fail
  have hu0 : Upd [] w (w.drewN nq) := (Upd.refl _ _).drewN nq
  have HC1 := hide (HC.out nq)
  replace hxb := hxb.drewN nq
  replace hyb := hyb.drewN nq
  replace cx0 := hxb.fst
  replace cx1 := hxb.snd
  replace cy1 := hyb.snd
  replace hz := hz.drewN nq
  replace cz1 := hz.snd
  have HCM1 : Hid (∀ r, Calls Tryz.prog 104 #[.slice X Lx Cx, .slice Y Ly Cy] ((w.drewN nq).drewN r) fun e w' => e = .returned (.int .i64 nc) ∧ ∃ n, w' = ((w.drewN nq).drewN r).drewN n) := fun r => by rw [World.drewN_drewN]; exact HCM.out _
  have HC9 := fun r => hide (HC.out (nq + r))
  simp only [← World.drewN_drewN] at HC9
  clear HCM HC1
  clear HC cy0 hX hY hZ
  generalize w.drewN nq = w1 at HC9 HCM1 hu0 hxb hyb cx0 cx1 cy1 hz cz1 ⊢
  go_quiet ((go_at_call 104; exact Calls.quiet_of (HCM1.out _)))
  go_wp2_with fail
  have hu9 := hu0.drewN nq
  have HC1 := HC9 nq
  replace hxb := hxb.drewN nq
  replace hyb := hyb.drewN nq
  replace cx0 := hxb.fst
  replace cx1 := hxb.snd
  replace cy1 := hyb.snd
  replace hz := hz.drewN nq
  replace cz1 := hz.snd
  clear HC9 HCM1 hu0
  generalize w1.drewN nq = w2 at HC1 hu9 hxb hyb cx0 cx1 cy1 hz cz1 ⊢
  go_region_with (go_at_call 105; refine HC1.out.mono ?_; rintro e w5 ⟨A, L, C, rfl, hS, hu, hA⟩; have hz2 := hz.drew.upd hu hpz; have cz2 := hz2.snd; have fz2 := hz2.frozen 1)
  all_goals (
    have hz3 := hz2.put1 (.slice A L C)
    have hS3 := hS.setCell (p := ⟨pz, 1, none⟩) (hS.not_mem hz2 (by decide)) (.slice A L C)
    have hu3 : Upd (pz :: bof Z) w (w5.setCell ⟨pz, 1, none⟩ (.slice A L C)) := ((Upd.mono (S' := pz :: bof Z) hu9.drew (by simp)).trans hu (fun k hk _ => List.mem_cons_of_mem _ hk)).setCell (by simp) _
    have hA3 : ∀ b ∈ bof A, b ∈ bof Z ∨ w.heap.size ≤ b := fun b hb => (hA b hb).imp id (fun h => Nat.le_trans hu9.size h)
    clear cz2 fz2
    generalize w5.setCell ⟨pz, 1, none⟩ (.slice A L C) = w3 at hz3 hS3 hu3 ⊢
    clear hz2 hS hu HC1 cx0 cx1 cy1 cz1 hA hu9
    have cz4 := hz3.snd
    have fz3 := hz3.frozen 0
    have cz3 := hz3.fst
    have hnm := hS3.not_mem hz3 (by decide)
    have HA3 := hide hA3
    clear hA3
    by_cases h0 : a - b = 0
    · have hL : L = 0 := by rw [← hS3.1, h0]; simp [wo_zero]
      subst hL
      have t1 : ¬ (0 : Int) < ((0 : Nat) : Int) := by omega
      have H0 := hide h0
      clear h0
      go_wp2
      go_ret
      refine ⟨A, 0, C, rfl, ?_, hS3.setCell hnm _, hu3.setCell (by simp) _, HA3.out⟩
      rw [decide_eq_false (by rw [H0.out]; simp)]
      exact hz3.put0 _
    · have hL : 0 < L := by rw [← hS3.1]; exact wo_len_pos h0
      have t1 : (0 : Int) < (L : Int) := by omega
      have H0 := hide h0
      clear h0
      go_wp2
      go_ret
      refine ⟨A, L, C, rfl, ?_, hS3.setCell hnm _, hu3.setCell (by simp) _, HA3.out⟩
      rw [decide_eq_true H0.out, Bool.true_and]
      exact hz3.put0 _)

set_option maxHeartbeats 8000000 in
theorem Sub_inplace_sub (w : World) (px py : Nat) (X Y : Option Addr) (Lx Cx Ly Cy a b : Nat) (na nb : Bool) (hzy : px ≠ py)
    (hxb : Blk w px 133 #[.bool na, .slice X Lx Cx]) (hX : NatS w X Lx Cx (wo a)) (hyb : Blk w py 133 #[.bool nb, .slice Y Ly Cy]) (hY : NatS w Y Ly Cy (wo b)) (hLx : Lx ≤ 100) (hLy : Ly ≤ 100) (ht : na = nb) (hab : b ≤ a) :
    Calls Tryz.prog 165 #[.pointer (some ⟨px, 0, none⟩), .pointer (some ⟨px, 0, none⟩), .pointer (some ⟨py, 0, none⟩)] w (CoreRes w px X (na) (a - b)) := by
  subst ht
  have cx0 := hxb.fst
  have cx1 := hxb.snd
  have cy0 := hyb.fst
  have cy1 := hyb.snd
  have hpz := hX.not_mem hxb (by decide)
  have hop := fun q => sub_any ((w.drewN q).drew) X X Y Lx Cx Lx Cx Ly Cy a b (wo a) (hX.drewN q).drew (hX.drewN q).drew (hY.drewN q).drew (by omega) hab
  have HC := hide hop
  clear hop
  have hcmp := fun q => cmp_any (w.drewN q) X Y Lx Cx Ly Cy a b (hX.drewN q) (hY.drewN q) (by omega) (by omega)
  obtain ⟨nc, hnc⟩ : ∃ nc, ncmp a b = nc := ⟨_, rfl⟩
  have hnc2 : 0 ≤ nc := by
    rw [← hnc]; unfold ncmp; split <;> (try split) <;> omega
  rw [hnc] at hcmp
  have HCM := hide hcmp
  clear hcmp hnc
  go_enter Tryz.func165, Tryz.ntmps165
  go_wp2_with fail
  go_quiet (fail)
  go_wp2_with fail
  have hu0 : Upd [] w (w.drewN nq) := (Upd.refl _ _).drewN nq
  have HC1 := hide (HC.out nq)
  replace hxb := hxb.drewN nq
  replace hyb := hyb.drewN nq
  replace cx0 := hxb.fst
  replace cx1 := hxb.snd
  replace cy1 := hyb.snd
  have HCM1 : Hid (∀ r, Calls Tryz.prog 104 #[.slice X Lx Cx, .slice Y Ly Cy] ((w.drewN nq).drewN r) fun e w' => e = .returned (.int .i64 nc) ∧ ∃ n, w' = ((w.drewN nq).drewN r).drewN n) := fun r => by rw [World.drewN_drewN]; exact HCM.out _
  have HC9 := fun r => hide (HC.out (nq + r))
  simp only [← World.drewN_drewN] at HC9
  clear HCM HC1
  clear HC cy0 hX hY
  generalize w.drewN nq = w1 at HC9 HCM1 hu0 hxb hyb cx0 cx1 cy1 ⊢
  go_quiet ((go_at_call 104; exact Calls.quiet_of (HCM1.out _)))
  go_wp2_with fail
  have hu9 := hu0.drewN nq
  have HC1 := HC9 nq
  replace hxb := hxb.drewN nq
  replace hyb := hyb.drewN nq
  replace cx0 := hxb.fst
  replace cx1 := hxb.snd
  replace cy1 := hyb.snd
  clear HC9 HCM1 hu0
  generalize w1.drewN nq = w2 at HC1 hu9 hxb hyb cx0 cx1 cy1 ⊢
  go_region_with (go_at_call 105; refine HC1.out.mono ?_; rintro e w5 ⟨A, L, C, rfl, hS, hu, hA⟩; have hz2 := hxb.drew.upd hu hpz; have cz2 := hz2.snd; have fz2 := hz2.frozen 1)
  all_goals (
    have hz3 := hz2.put1 (.slice A L C)
    have hS3 := hS.setCell (p := ⟨px, 1, none⟩) (hS.not_mem hz2 (by decide)) (.slice A L C)
    have hu3 : Upd (px :: bof X) w (w5.setCell ⟨px, 1, none⟩ (.slice A L C)) := ((Upd.mono (S' := px :: bof X) hu9.drew (by simp)).trans hu (fun k hk _ => List.mem_cons_of_mem _ hk)).setCell (by simp) _
    have hA3 : ∀ b ∈ bof A, b ∈ bof X ∨ w.heap.size ≤ b := fun b hb => (hA b hb).imp id (fun h => Nat.le_trans hu9.size h)
    clear cz2 fz2
    generalize w5.setCell ⟨px, 1, none⟩ (.slice A L C) = w3 at hz3 hS3 hu3 ⊢
    clear hz2 hS hu HC1 cx0 cx1 cy1 hA hu9
    have cz4 := hz3.snd
    have fz3 := hz3.frozen 0
    have cz3 := hz3.fst
    have hnm := hS3.not_mem hz3 (by decide)
    have HA3 := hide hA3
    clear hA3
    by_cases h0 : a - b = 0
    · have hL : L = 0 := by rw [← hS3.1, h0]; simp [wo_zero]
      subst hL
      have t1 : ¬ (0 : Int) < ((0 : Nat) : Int) := by omega
      have H0 := hide h0
      clear h0
      go_wp2
      go_ret
      refine ⟨A, 0, C, rfl, ?_, hS3.setCell hnm _, hu3.setCell (by simp) _, HA3.out⟩
      rw [decide_eq_false (by rw [H0.out]; simp)]
      exact hz3.put0 _
    · have hL : 0 < L := by rw [← hS3.1]; exact wo_len_pos h0
      have t1 : (0 : Int) < (L : Int) := by omega
      have H0 := hide h0
      clear h0
      go_wp2
      go_ret
      refine ⟨A, L, C, rfl, ?_, hS3.setCell hnm _, hu3.setCell (by simp) _, HA3.out⟩
      rw [decide_eq_true H0.out, Bool.true_and]
      exact hz3.put0 _)

/-- Sub of numbers that are not below 0, the second one not greater, into another Int. -/
theorem Sub_nat (w : World) (pz px py : Nat) (nz : Bool) (Z X Y : Option Addr) (Lz Cz : Nat) (wz : List Nat) (a b : Nat) (hab : b ≤ a) (hzx : pz ≠ px) (hzy : pz ≠ py) (hz : Blk w pz 133 #[.bool nz, .slice Z Lz Cz]) (hZ : NatS w Z Lz Cz wz)
    (hx : IntV w px X a) (hy : IntV w py Y b) (ha : Sm a) (hb : Sm b) :
    Calls Tryz.prog 165 #[.pointer (some ⟨pz, 0, none⟩), .pointer (some ⟨px, 0, none⟩), .pointer (some ⟨py, 0, none⟩)] w (IntRes w pz Z ((a - b : Nat) : Int)) := by
  obtain ⟨Lx, Cx, hxb, hX⟩ := hx
  obtain ⟨Ly, Cy, hyb, hY⟩ := hy
  have hLx := ha.len hX
  have hLy := hb.len hY
  rw [decide_eq_false (by omega)] at hxb hyb
  rw [Int.natAbs_natCast] at hX hY
  exact (Sub_fresh_sub w pz px py nz Z X Y Lz Cz Lx Cx Ly Cy a b wz false false hzx hzy hz hZ hxb hX hyb hY hLx hLy rfl hab).mono fun e w' h => h.int (Int.natAbs_natCast _) (by rw [Bool.and_false, decide_eq_false (by omega)])

/-- .. into the first operand. -/
theorem Sub_nat_in (w : World) (px py : Nat) (X Y : Option Addr) (a b : Nat) (hab : b ≤ a) (hxy : px ≠ py) (hx : IntV w px X a) (hy : IntV w py Y b) (ha : Sm a) (hb : Sm b) :
    Calls Tryz.prog 165 #[.pointer (some ⟨px, 0, none⟩), .pointer (some ⟨px, 0, none⟩), .pointer (some ⟨py, 0, none⟩)] w (IntRes w px X ((a - b : Nat) : Int)) := by
  obtain ⟨Lx, Cx, hxb, hX⟩ := hx
  obtain ⟨Ly, Cy, hyb, hY⟩ := hy
  have hLx := ha.len hX
  have hLy := hb.len hY
  rw [decide_eq_false (by omega)] at hxb hyb
  rw [Int.natAbs_natCast] at hX hY
  exact (Sub_inplace_sub w px py X Y Lx Cx Ly Cy a b false false hxy hxb hX hyb hY hLx hLy rfl hab).mono fun e w' h => h.int (Int.natAbs_natCast _) (by rw [Bool.and_false, decide_eq_false (by omega)])

end Go.Proofs.YtnajekpckbfcdaaGreatDoor
