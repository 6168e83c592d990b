/-
  nat: make, norm, set, the loops over words, sub, add, cmp, mul, sqr.
-/
import Derived.Test.YtnajekpckbfcdaaGreatDoorM02
import Derived.Laws.CopyOwn
import Derived.LaidEqlPtr
import Derived.Deep.RegionHeld3
import Derived.Deep.RegionLaw
set_option linter.unusedVariables false
set_option linter.unusedSimpArgs false
namespace Go.Proofs.YtnajekpckbfcdaaGreatDoor
open Go.RowKit
theorem info161 : (Tryz.prog.info? 161).map (fun i => (i.zero, i.size, i.bytes)) = some (some (.int .u64 0), 1, 8) := by kernel_rfl

theorem run_make_rowN {P : Program} (t e : TypeId) (i : TypeInfo) (z : Value) (ht : P.underlying t = some (.slice e)) (hi : P.info? e = some i) (hz : i.zero = some z)
    (kl kc : IntKind) (n c : Nat) (hnc : n ≤ c) (hbytes : i.bytes * c ≤ 281474976710656) (h63 : c ≤ 9223372036854775807) (w : World) :
    (Instr.makeSlice t (.int kl (n : Int)) (.int kc (c : Int))).run P w = .ok (.slice (some ⟨w.heap.size, 0, none⟩) n c) (w.alloc (.cells (madeCells z.cells (c * i.size)) e)) := by
  have hb : (i.bytes : Int) * (c : Int) ≤ 281474976710656 := by
    have h : ((i.bytes * c : Nat) : Int) ≤ 281474976710656 := by omega
    rwa [Int.natCast_mul] at h
  have hr := run_make (P := P) w t e i z ht hi hz kl kc n c (by omega) (by omega) hb (by omega)
  simp only [Int.toNat_natCast] at hr
  exact hr

/-- A row of n words that may be written: z's own, or a new one. -/
def Made (w : World) (A : Option Addr) (n : Nat) (e : Ending) (w' : World) : Prop :=
  ∃ A' C', e = .returned (.slice A' n C') ∧ Upd [] w w' ∧ n ≤ C' ∧ C' ≤ 100000 ∧
    ((A' = none ∧ n = 0 ∧ C' = 0) ∨ ∃ b cs, A' = some ⟨b, 0, none⟩ ∧ Blk w' b 161 cs ∧ cs.size = C' ∧ 0 < C' ∧ (b ∈ bof A ∨ w.heap.size ≤ b))

theorem madeCells_size (z : Value) (n : Nat) (h : z.cells.size = 1) : (madeCells z.cells (n * 1)).size = n := by
  unfold madeCells; simp [h]

theorem make_any (w : World) (A : Option Addr) (L C n : Nat) (ws : List Nat) (hn : n ≤ 90000) (hS : NatS w A L C ws) :
    Calls Tryz.prog 139 #[.slice A L C, .int .i64 n] w (Made w A n) := by
  obtain ⟨h1, h2, h3, h4, h5⟩ := hS
  have H1 := hide h1
  clear h1
  by_cases hfit : n ≤ C
  · go_enter Tryz.func139, Tryz.ntmps139
    go_wp2
    go_ret
    refine ⟨A, C, rfl, Upd.refl _ _, hfit, by omega, ?_⟩
    rcases h5 with ⟨rfl, _, h6⟩ | ⟨b, cs, rfl, hb, h6, h7, h8⟩
    · exact .inl ⟨rfl, by omega, h6⟩
    · exact .inr ⟨b, cs, rfl, hb, h6, h7, .inl (by simp [bof])⟩
  · by_cases h1 : n = 1
    · subst h1
      have hmk : ∀ w, (Instr.makeSlice 131 (.int .i64 1) (.int .i64 1)).run Tryz.prog w = .ok (.slice (some ⟨w.heap.size, 0, none⟩) 1 1) (w.alloc (.cells #[.int .u64 0] 161)) := fun _ => by kernel_rfl
      have hC : C = 0 := by omega
      subst hC
      go_enter Tryz.func139, Tryz.ntmps139
      go_wp2
      go_ret
      exact ⟨some ⟨w.heap.size, 0, none⟩, 1, rfl, (Upd.refl _ _).alloc _, Nat.le_refl _, by omega, .inr ⟨w.heap.size, _, rfl, Blk.new _ _ _, rfl, by omega, .inr (Nat.le_refl _)⟩⟩
    · obtain ⟨i0, hi0, hz0, hz1, hz2⟩ := info_parts info161
      have hmk := fun w => run_make_rowN (P := Tryz.prog) 131 161 i0 (.int .u64 0) Tryz.underlying131 hi0 hz0 .i64 .i64 n (n + 4) (by omega) (by rw [hz2]; omega) (by omega) w
      rw [hz1] at hmk
      have hms := madeCells_size (.int .u64 0) (n + 4) rfl
      have HM := hide hms
      clear hms
      obtain ⟨mc, hmc⟩ : ∃ mc, madeCells (Value.int .u64 0).cells ((n + 4) * 1) = mc := ⟨_, rfl⟩
      rw [hmc] at hmk HM
      have ec : ((n + 4 : Nat) : Int) = (n : Int) + 4 := by omega
      rw [ec] at hmk
      have h1' : ((n : Int) == 1) = false := beq_eq_false_iff_ne.2 (by omega)
      clear ec hmc hi0 hz0 hz1 hz2
      go_enter Tryz.func139, Tryz.ntmps139
      go_wp2
      go_ret
      exact ⟨some ⟨w.heap.size, 0, none⟩, n + 4, rfl, (Upd.refl _ _).alloc _, by omega, by omega, .inr ⟨w.heap.size, mc, rfl, Blk.new _ _ _, HM.out, by omega, .inr (Nat.le_refl _)⟩⟩

/-- The words without those of 0 at the top: how many. -/
def nrmLen (ws : List Nat) : Nat → Nat
  | 0 => 0
  | k + 1 => if ws.getD k 0 = 0 then nrmLen ws k else k + 1
theorem nrmLen_le (ws : List Nat) (k : Nat) : nrmLen ws k ≤ k := by
  induction k with
  | zero => simp [nrmLen]
  | succ k ih => rw [nrmLen]; split <;> omega
theorem nrmLen_val (ws : List Nat) (k : Nat) (hk : k ≤ ws.length) : val (ws.take (nrmLen ws k)) = val (ws.take k) := by
  induction k with
  | zero => simp [nrmLen]
  | succ k ih =>
    rw [nrmLen]
    by_cases h : ws.getD k 0 = 0
    · rw [if_pos h, ih (by omega), take_succ_getD ws k (by omega), h, val_snoc]; simp
    · rw [if_neg h]
theorem nrmLen_nrm (ws : List Nat) (k : Nat) (hk : k ≤ ws.length) : Nrm (ws.take (nrmLen ws k)) := by
  induction k with
  | zero => intro h; simp [nrmLen] at h
  | succ k ih =>
    rw [nrmLen]
    by_cases h : ws.getD k 0 = 0
    · rw [if_pos h]; exact ih (by omega)
    · rw [if_neg h]
      intro _
      rw [List.length_take, Nat.min_eq_left hk, take_succ_getD ws k (by omega), show k + 1 - 1 = k from by omega]
      simp only [List.getD, List.getElem?_append, List.length_take, Nat.min_eq_left (by omega : k ≤ ws.length), Nat.lt_irrefl, if_false, Nat.sub_self] at h ⊢
      simpa using h
theorem take_nrm (ws : List Nat) (hl : ∀ d ∈ ws, d < 18446744073709551616) : ws.take (nrmLen ws ws.length) = wo (val ws) := by
  refine wo_inj (nrmLen_nrm ws _ (Nat.le_refl _)) (fun d hd => hl d (List.mem_of_mem_take hd)) ?_
  rw [nrmLen_val ws _ (Nat.le_refl _), List.take_length]

set_option maxHeartbeats 1000000 in
/-- norm: the words of the same number, none of 0 at the top. -/
theorem norm_any (w : World) (b C : Nat) (ws : List Nat) (hc : ∀ i, i < ws.length → w.cell? ⟨b, i, none⟩ = some (W64 (ws.getD i 0))) (hn : ws.length ≤ 1000000) (hC : ws.length ≤ C) (hC0 : 0 < C) (hC1 : C ≤ 1000000) :
    Calls Tryz.prog 142 #[.slice (some ⟨b, 0, none⟩) ws.length C] w fun e w' => e = .returned (.slice (some ⟨b, 0, none⟩) (nrmLen ws ws.length) C) ∧ w = w' := by
  obtain ⟨n, hn'⟩ : ∃ n, ws.length = n := ⟨_, rfl⟩
  rw [hn'] at hc hn hC ⊢
  have HN := hide hn'
  clear hn'
  obtain ⟨m, hm⟩ : ∃ m, nrmLen ws n = m := ⟨_, rfl⟩
  have hmn : m ≤ n := by rw [← hm]; exact nrmLen_le _ _
  rw [hm]
  have HM := hide hm
  clear hm
  go_enter Tryz.func142, Tryz.ntmps142
  go_wp2
  go_loop [3] (fun i => ∃ k : Nat, k ≤ n ∧ i = .int .i64 k ∧ Hid (nrmLen ws k = m)) (fun i => (intOf i).toNat)
  case atStart => exact ⟨n, Nat.le_refl _, rfl, HM⟩
  case round =>
    obtain ⟨k, hk, rfl, hv⟩ := hrel
    by_cases hk0 : 0 < k
    · obtain ⟨j, rfl⟩ : ∃ j, k = j + 1 := ⟨k - 1, by omega⟩
      have cx := hc j (by omega)
      obtain ⟨xj, hxj⟩ : ∃ xj, ws.getD j 0 = xj := ⟨_, rfl⟩
      rw [hxj] at cx
      have h0 : nrmLen ws (j + 1) = if xj = 0 then nrmLen ws j else j + 1 := by rw [nrmLen, hxj]
      have H0 := hide h0
      clear h0 hxj
      have ei : ((j + 1 : Nat) : Int) - 1 = (j : Int) := by omega
      have e2 : wrap64 (((j + 1 : Nat) : Int) - 1) = (j : Int) := by unfold wrap64; omega
      by_cases hx0 : xj = 0
      · subst hx0
        go_wp2
        go_round
        case rel => exact ⟨j, by omega, by go_num, by have := hv.out; rw [H0.out, if_pos rfl] at this; exact this⟩
        case measure => simp [intOf]
      · have hb : ((xj : Int) == 0) = false := beq_eq_false_iff_ne.2 (by omega)
        have hjm : j + 1 = m := by have := hv.out; rw [H0.out, if_neg hx0] at this; exact this
        subst hjm
        go_wp2
        go_ret
        exact ⟨rfl, rfl⟩
    · have hk1 : k = 0 := by omega
      subst hk1
      have hm0 : 0 = m := hv.out
      subst hm0
      go_wp2
      go_ret
      exact ⟨rfl, rfl⟩

/-- copy into a row of words that is known whole. -/
theorem setRow_putW (cur : Array Value) (off : Nat) (ws : List Nat) (h : off + ws.length ≤ cur.size) :
    (cur.toList.take off ++ (ws.map W64 ++ cur.toList.drop (off + (ws.map W64).length))).toArray = putW cur off ws := by
  apply Array.ext_getElem?
  intro j
  simp only [List.getElem?_toArray, List.length_map]
  by_cases h1 : j < off
  · rw [putW_out _ _ _ _ (.inl h1), List.getElem?_append_left (by simp; omega), List.getElem?_take_of_lt h1, Array.getElem?_toList]
  · rw [List.getElem?_append_right (by simp; omega)]
    simp only [List.length_take, Array.length_toList, Nat.min_eq_left (by omega : off ≤ cur.size)]
    by_cases h2 : j < off + ws.length
    · have := putW_in ws cur off (j - off) h (by omega)
      rw [show off + (j - off) = j from by omega] at this
      rw [this, List.getElem?_append_left (by simp; omega), List.getElem?_map, List.getElem?_eq_getElem (by omega)]
      rfl
    · rw [putW_out _ _ _ _ (.inr (by omega)), List.getElem?_append_right (by simp; omega), List.length_map, List.getElem?_drop, Array.getElem?_toList]
      congr 1
      omega

theorem setRow_upd (w : World) (g : Nat) (cs : Array Value) : Upd [g] w (w.setRow g cs) := by
  have h := below_setRow (B := g) (g := g) (Below.refl g w) (Nat.le_refl _) cs
  refine ⟨h.os, h.tape, h.output, h.size, fun k hk hn => ?_⟩
  have hne : k ≠ g := by simpa using hn
  simp only [World.setRow, Array.getElem?_modify]
  rw [if_neg (by omega)]

theorem wpList_copy_W {P : Program} {w : World} {ops : Array Oper} {rest : List Oper} {o : Oper} {a : Act} {Q : Exit → Act → World → Prop} (hgd : o.guard = none) (d s : Operand) (dT sT : TypeId)
    (ho : o.op = .call { callee := .builtin .copy, args := #[d, s], argTypes := #[dT, sT] }) (elem : TypeId) (hu : P.underlying dT = some (.slice elem)) (hsz : (P.info? elem).map (·.size) = some 1)
    (g off dLen dCap : Nat) (ad : Addr) (sLen sCap : Nat) (hd : a.eval d = .slice (some ⟨g, off, none⟩) dLen dCap) (hs : a.eval s = .slice (some ad) sLen sCap)
    (cur : Array Value) (hg : Blk w g 161 cur) (ws : List Nat) (hn : ws.length = Nat.min sLen dLen)
    (hsrc : ∀ j, j < ws.length → w.cell? (ad.add j) = some (W64 (ws.getD j 0))) (hfit : off + ws.length ≤ cur.size)
    (h : ∀ w', Blk w' g 161 (putW cur off ws) → Upd [g] w w' → wpList P ops Q rest (a.put o.dst (goInt ws.length)) w') : wpList P ops Q (o :: rest) a w := by
  refine wpList_copy_own hgd d s dT sT ho elem hu hsz g off dLen dCap ad sLen sCap hd hs cur 161 hg (ws.map W64) (by simpa using hn) ?_ (by simpa using hfit) ?_ ?_
  · intro j v hj
    rw [List.getElem?_map] at hj
    by_cases hl : j < ws.length
    · rw [List.getElem?_eq_getElem hl] at hj
      have := hsrc j hl
      simp only [List.getD, List.getElem?_eq_getElem hl, Option.getD_some] at this
      rw [this]
      simpa using hj
    · rw [List.getElem?_eq_none (by omega)] at hj; simp at hj
  · intro v hv
    obtain ⟨d, _, rfl⟩ := List.mem_map.1 hv
    rfl
  · rw [setRow_putW _ _ _ hfit, List.length_map]
    refine h _ ?_ (setRow_upd _ _ _)
    unfold Blk at hg ⊢
    simp [World.setRow, Array.getElem?_modify, hg]

theorem add_blk (b o j : Nat) : (⟨b, o, none⟩ : Addr).add j = ⟨b, o + j, none⟩ := by
  unfold Addr.add
  by_cases h : j = 0 <;> simp [h]
/-- First new blocks alone, then block b, which is one of Z's or new. -/
theorem Upd.into {w w1 w2 : World} {S Z : List Nat} {b : Nat} (h : Upd S w w1) (h2 : Upd [b] w1 w2) (hS : ∀ k ∈ S, k < w.heap.size → k ∈ Z) (hb : b ∈ Z ∨ w.heap.size ≤ b) : Upd Z w w2 :=
  (h.mono hS).trans h2 (fun k hk hlt => by
    rw [List.mem_singleton] at hk
    subst hk
    rcases hb with hb | hb
    · exact hb
    · omega)
theorem size161 : (Tryz.prog.info? 161).map (·.size) = some 1 := by kernel_rfl

set_option maxHeartbeats 1000000 in
/-- set: a copy of x. -/
theorem set_any (w : World) (Z A : Option Addr) (Lz Cz L C n : Nat) (wz : List Nat) (hZ : NatS w Z Lz Cz wz) (hA : NatS w A L C (wo n)) (hL : L ≤ 1000) :
    Calls Tryz.prog 138 #[.slice Z Lz Cz, .slice A L C] w (NatRes w Z n) := by
  have hlen := hA.1
  have HL := hide hlen
  clear hlen
  go_enter Tryz.func138, Tryz.ntmps138
  go_wp2_with fail
  refine (make_any w Z Lz Cz L wz (by omega) hZ).mono ?_
  rintro e w1 ⟨A', C', rfl, hu, hC', hC2, hr⟩
  have hA1 := hA.upd hu (by simp)
  rcases hr with ⟨rfl, hL0, rfl⟩ | ⟨b, cs, rfl, hb, hcs, hC0, hbz⟩
  · subst hL0
    have hcp := run_copy_none (P := Tryz.prog) w1 131 131 3 161 none A 0 0 0 C Tryz.underlying131 size161 (by rfl)
    go_wp2
    go_ret
    have hz : wo n = [] := List.eq_nil_of_length_eq_zero HL.out
    refine ⟨none, 0, 0, rfl, ?_, hu.mono (by simp), by simp [bof]⟩
    rw [hz]; exact NatS.nil _
  · by_cases hL0 : L = 0
    · subst hL0
      have hcp := run_copy_none (P := Tryz.prog) w1 131 131 3 161 (some ⟨b, 0, none⟩) A 0 C' 0 C Tryz.underlying131 size161 (by rfl)
      go_wp2
      go_ret
      have hz : wo n = [] := List.eq_nil_of_length_eq_zero HL.out
      refine ⟨_, 0, C', rfl, ?_, hu.mono (by simp), by simpa [bof] using hbz⟩
      rw [hz, ← hcs]
      exact NatS.mk b cs hb (Wd.nil _ _) (by simp) (by simp) (by omega) (by omega)
    · obtain ⟨bx, cx, rfl, hbx, hcx, hwx⟩ := hA1.row (by have := hA.2.2.1; omega)
      have hcell := hA1.cells
      go_wp2_with (with_reducible refine wpList_copy_W rfl (.tmp 9) (.tmp 10) 131 131 rfl 161 Tryz.underlying131 size161 b 0 L C' ⟨bx, 0, none⟩ L C rfl rfl cs hb (wo n) ?h1 ?h2 ?h3 ?_)
      case h1 => rw [HL.out]; exact (Nat.min_self L).symm
      case h2 =>
        intro j hj
        have := hcell j (by rw [← HL.out]; exact hj)
        rw [add_blk, Nat.zero_add]; exact this
      case h3 => rw [HL.out, hcs]; omega
      intro w2 hb2 hu2
      go_wp2
      go_ret
      refine ⟨_, L, C', rfl, ?_, hu.into hu2 (by simp) hbz, by simpa [bof] using hbz⟩
      have := NatS.mk b _ hb2 (Wd.put cs 0 (wo n) (by rw [HL.out, hcs]; omega)) (wo_lt n) (by rw [putW_size, HL.out, hcs]; exact hC') (by rw [putW_size, hcs]; exact hC0) (by rw [putW_size, hcs]; exact hC2)
      rw [putW_size, HL.out, hcs] at this
      exact this

set_option maxHeartbeats 1000000 in
/-- setWord -/
theorem setWord_any (w : World) (Z : Option Addr) (Lz Cz x : Nat) (wz : List Nat) (hZ : NatS w Z Lz Cz wz) (hx : x < 18446744073709551616) :
    Calls Tryz.prog 168 #[.slice Z Lz Cz, .int .u64 x] w (NatRes w Z x) := by
  by_cases h0 : x = 0
  · subst h0
    have hC := hZ.2.2.2.1
    go_enter Tryz.func168, Tryz.ntmps168
    go_wp2
    go_ret
    obtain ⟨h1, h2, h3, h4, h5⟩ := hZ
    refine ⟨Z, 0, Cz, rfl, ?_, Upd.refl _ _, fun b hb => .inl hb⟩
    rw [wo_zero]
    refine ⟨rfl, by simp, Nat.zero_le _, h4, ?_⟩
    rcases h5 with ⟨h6, h7, h8⟩ | ⟨b, cs, h6, h7, h8, h9, h10⟩
    · exact .inl ⟨h6, rfl, h8⟩
    · exact .inr ⟨b, cs, h6, h7, h8, h9, Wd.nil _ _⟩
  · have hb : ((x : Int) == 0) = false := beq_eq_false_iff_ne.2 (by omega)
    go_enter Tryz.func168, Tryz.ntmps168
    go_wp2_with fail
    refine (make_any w Z Lz Cz 1 wz (by omega) hZ).mono ?_
    rintro e w1 ⟨A', C', rfl, hu, hC', hC2, hr⟩
    rcases hr with ⟨rfl, hL0, rfl⟩ | ⟨b, cs, rfl, hb, hcs, hC0, hbz⟩
    · omega
    · have hsz : 0 < cs.size := by omega
      have cz := hb.at_ (Array.getElem?_eq_getElem hsz)
      have fz := hb.frozen 0
      go_wp2
      go_ret
      refine ⟨_, 1, C', rfl, ?_, (hu.mono (by simp)).trans ((Upd.refl [b] _).setCell (by simp) _) (fun k hk hlt => ?_), by simpa [bof] using hbz⟩
      · have hb2 := hb.set_ 0 (W64 x)
        have := NatS.mk b _ hb2 (ws := [x]) (fun i hi => by
          have hi0 : i = 0 := by simpa using hi
          subst hi0
          rw [Array.getElem?_setIfInBounds_self_of_lt (by omega)]; rfl) (by simpa using hx) (by rw [Array.size_setIfInBounds]; simp; omega) (by rw [Array.size_setIfInBounds]; omega) (by rw [Array.size_setIfInBounds]; omega)
        rw [Array.size_setIfInBounds, hcs] at this
        rw [wo_one h0 hx]
        exact this
      · rw [List.mem_singleton] at hk
        subst hk
        rcases hbz with hbz | hbz
        · exact hbz
        · omega

set_option maxHeartbeats 1000000 in
/-- alias: do the two end at one place? -/
theorem alias_no (w : World) (X Y : Option Addr) (Lx Cx Ly Cy : Nat) (wx wy : List Nat) (hX : NatS w X Lx Cx wx) (hY : NatS w Y Ly Cy wy) (hne : ∀ b ∈ bof X, b ∉ bof Y) :
    Calls Tryz.prog 183 #[.slice X Lx Cx, .slice Y Ly Cy] w fun e w' => e = .returned (.bool false) ∧ ∃ n, w' = w.drewN n := by
  have hCx := hX.2.2.2.1
  have hCy := hY.2.2.2.1
  by_cases hx0 : Cx = 0
  · subst hx0
    have d1 : decide ((0 : Int) < ((0 : Nat) : Int)) = false := by simp
    go_enter Tryz.func183, Tryz.ntmps183
    go_wp2_with fail
    go_quiet (fail)
    go_wp2
    go_ret
    exact ⟨rfl, _, rfl⟩
  · obtain ⟨bx, cx, rfl, hbx, hcx, hwx⟩ := hX.row (by omega)
    by_cases hy0 : Cy = 0
    · subst hy0
      have d1 : 0 < Cx := by omega
      have d1' : (0 : Int) < (Cx : Int) := by omega
      go_enter Tryz.func183, Tryz.ntmps183
      go_wp2_with fail
      go_quiet (fail)
      go_wp2
      go_ret
      exact ⟨rfl, _, rfl⟩
    · obtain ⟨by', cy, rfl, hby, hcy, hwy⟩ := hY.row (by omega)
      have hbne : bx ≠ by' := by simpa [bof] using hne
      obtain ⟨kx, rfl⟩ : ∃ kx, Cx = kx + 1 := ⟨Cx - 1, by omega⟩
      obtain ⟨ky, rfl⟩ : ∃ ky, Cy = ky + 1 := ⟨Cy - 1, by omega⟩
      have wx : IntKind.i64.wrap (kx : Int) = kx := IntWalk.i64_in _ (by omega)
      have wy : IntKind.i64.wrap (ky : Int) = ky := IntWalk.i64_in _ (by omega)
      have ex : ((kx + 1 : Nat) : Int) - 1 = (kx : Int) := by omega
      have ey : ((ky + 1 : Nat) : Int) - 1 = (ky : Int) := by omega
      obtain ⟨i0, hi0, hz0, hz1, hz2⟩ := info_parts info161
      have hp : ∀ n, (binOp .eql 243 (.pointer (some ⟨bx, kx, none⟩)) (.pointer (some ⟨by', ky, none⟩))).run Tryz.prog (w.drewN n) = .ok (.bool false) (w.drewN n) := fun n =>
        run_eql_ptr_other (te := 161) (w.drewN n) Tryz.underlying243 hi0 (by rw [hz1]; omega) (by intro e; injection e with e; exact hbne e) (hbx.drewN n) (hby.drewN n)
      clear hi0 hz0 hz1 hz2
      go_enter Tryz.func183, Tryz.ntmps183
      go_wp2_with fail
      go_quiet (fail)
      go_wp2
      go_ret
      exact ⟨rfl, _, rfl⟩

end Go.Proofs.YtnajekpckbfcdaaGreatDoor

namespace Go.Proofs.YtnajekpckbfcdaaGreatDoor
open Go.RowKit

theorem mulAddVWW_any (w : World) (zb zo xb xo n zc xc y r : Nat) (cs : Array Value) (xs : List Nat) (hn : n ≤ 1000000) (hxl : xs.length = n)
    (hz : Blk w zb 161 cs) (hzn : zo + n ≤ cs.size) (hx : ∀ i, i < n → w.cell? ⟨xb, xo + i, none⟩ = some (W64 (xs.getD i 0))) (ha : xb = zb → zo ≤ xo)
    (hxs : ∀ d ∈ xs, d < 18446744073709551616) (hy : y < 18446744073709551616) (hr : r < 18446744073709551616) :
    Calls Tryz.prog 226 #[.slice (some ⟨zb, zo, none⟩) n zc, .slice (some ⟨xb, xo, none⟩) n xc, .int .u64 y, .int .u64 r] w
      (VecOut w zb zo n cs (fun out c => val out + 18446744073709551616 ^ n * c = val xs * y + r)) := by
  have h := mulAddVWW_g_any w zb zo xb xo n zc xc y r cs xs hn hxl hz hzn hx ha hxs hy hr
  have H := hide h
  clear h hxl
  go_enter Tryz.func226, Tryz.ntmps226
  go_wp2_with fail
  refine H.out.mono ?_
  rintro e w' ⟨c, out, rfl, h1, h2, h3, h4, h5, h6⟩
  have H2 := hide h2
  have H3 := hide h3
  have H4 := hide h4
  clear h2 h3 h4
  go_wp2
  go_ret
  exact ⟨c, out, rfl, h1, H2.out, H3.out, H4.out, h5, h6⟩

theorem addMulVVWW_any (w : World) (zb zo xb xo yb yo n zc xc yc m a : Nat) (cs : Array Value) (xs ys : List Nat) (hn : n ≤ 1000000) (hxl : xs.length = n) (hyl : ys.length = n)
    (hz : Blk w zb 161 cs) (hzn : zo + n ≤ cs.size) (hx : ∀ i, i < n → w.cell? ⟨xb, xo + i, none⟩ = some (W64 (xs.getD i 0))) (ha : xb = zb → zo ≤ xo)
    (hy : ∀ i, i < n → w.cell? ⟨yb, yo + i, none⟩ = some (W64 (ys.getD i 0))) (hb : yb = zb → zo ≤ yo)
    (hxs : ∀ d ∈ xs, d < 18446744073709551616) (hys : ∀ d ∈ ys, d < 18446744073709551616) (hm : m < 18446744073709551616) (hr : a < 18446744073709551616) :
    Calls Tryz.prog 225 #[.slice (some ⟨zb, zo, none⟩) n zc, .slice (some ⟨xb, xo, none⟩) n xc, .slice (some ⟨yb, yo, none⟩) n yc, .int .u64 m, .int .u64 a] w
      (VecOut w zb zo n cs (fun out c => val out + 18446744073709551616 ^ n * c = val xs + val ys * m + a)) := by
  have h := addMulVVWW_g_any w zb zo xb xo yb yo n zc xc yc m a cs xs ys hn hxl hyl hz hzn hx ha hy hb hxs hys hm hr
  have H := hide h
  clear h hxl hyl
  go_enter Tryz.func225, Tryz.ntmps225
  go_wp2_with fail
  refine H.out.mono ?_
  rintro e w' ⟨c, out, rfl, h1, h2, h3, h4, h5, h6⟩
  have H2 := hide h2
  have H3 := hide h3
  have H4 := hide h4
  clear h2 h3 h4
  go_wp2
  go_ret
  exact ⟨c, out, rfl, h1, H2.out, H3.out, H4.out, h5, h6⟩

theorem subVV_any (w : World) (zb zo xb xo yb yo n zc xc yc : Nat) (cs : Array Value) (xs ys : List Nat) (hn : n ≤ 1000000) (hxl : xs.length = n) (hyl : ys.length = n)
    (hz : Blk w zb 161 cs) (hzn : zo + n ≤ cs.size) (hx : ∀ i, i < n → w.cell? ⟨xb, xo + i, none⟩ = some (W64 (xs.getD i 0))) (ha : xb = zb → zo ≤ xo)
    (hy : ∀ i, i < n → w.cell? ⟨yb, yo + i, none⟩ = some (W64 (ys.getD i 0))) (hb : yb = zb → zo ≤ yo)
    (hxs : ∀ d ∈ xs, d < 18446744073709551616) (hys : ∀ d ∈ ys, d < 18446744073709551616) :
    Calls Tryz.prog 143 #[.slice (some ⟨zb, zo, none⟩) n zc, .slice (some ⟨xb, xo, none⟩) n xc, .slice (some ⟨yb, yo, none⟩) n yc] w
      (VecOut w zb zo n cs (fun out c => val out + val ys = val xs + 18446744073709551616 ^ n * c ∧ c ≤ 1)) := by
  have h := subVV_g_any w zb zo xb xo yb yo n zc xc yc cs xs ys hn hxl hyl hz hzn hx ha hy hb hxs hys
  have H := hide h
  clear h hxl hyl
  go_enter Tryz.func143, Tryz.ntmps143
  go_wp2_with fail
  refine H.out.mono ?_
  rintro e w' ⟨c, out, rfl, h1, h2, h3, h4, h5, h6⟩
  have H2 := hide h2
  have H3 := hide h3
  have H4 := hide h4
  clear h2 h3 h4
  go_wp2
  go_ret
  exact ⟨c, out, rfl, h1, H2.out, H3.out, H4.out, h5, h6⟩

/-- Behind norm: the row reads as the number. -/
theorem NatS.normed {w : World} {b : Nat} {cs : Array Value} {ws : List Nat} (hb : Blk w b 161 cs) (hw : Wd cs 0 ws) (hd : ∀ d ∈ ws, d < 18446744073709551616) (h1 : ws.length ≤ cs.size) (h2 : 0 < cs.size) (h3 : cs.size ≤ 100000) :
    NatS w (some ⟨b, 0, none⟩) (nrmLen ws ws.length) cs.size (wo (val ws)) := by
  have hl := nrmLen_le ws ws.length
  have := NatS.mk (w := w) b cs hb (hw.take (nrmLen ws ws.length)) (fun d hdm => hd d (List.mem_of_mem_take hdm)) (by rw [List.length_take]; omega) h2 h3
  rw [take_nrm ws hd, ← take_nrm ws hd, List.length_take, Nat.min_eq_left hl, take_nrm ws hd] at this
  exact this

theorem blk_cells {w : World} {b : Nat} {cs : Array Value} {ws : List Nat} (hb : Blk w b 161 cs) (hw : Wd cs 0 ws) : ∀ i, i < ws.length → w.cell? ⟨b, i, none⟩ = some (W64 (ws.getD i 0)) := fun i hi => by
  have := hw.get hi
  rw [Nat.zero_add] at this
  exact hb.at_ this

/-- norm, at a row that is known whole: what comes back reads as the number. -/
theorem norm_blk (w : World) (b L C : Nat) (cs : Array Value) (ws : List Nat) (hl : ws.length = L) (hb : Blk w b 161 cs) (hw : Wd cs 0 ws) (hd : ∀ d ∈ ws, d < 18446744073709551616) (hcs : cs.size = C) (hL : L ≤ C) (hC0 : 0 < C) (hC : C ≤ 100000) :
    Calls Tryz.prog 142 #[.slice (some ⟨b, 0, none⟩) L C] w fun e w' => ∃ k, e = .returned (.slice (some ⟨b, 0, none⟩) k C) ∧ NatS w (some ⟨b, 0, none⟩) k C (wo (val ws)) ∧ w = w' := by
  subst hl
  subst hcs
  exact (norm_any w b cs.size ws (blk_cells hb hw) (by omega) hL hC0 (by omega)).mono fun e w' ⟨he, hw'⟩ => ⟨_, he, NatS.normed hb hw hd hL hC0 hC, hw'⟩

set_option maxHeartbeats 1000000 in
/-- mulAddWW: x * y + r -/
theorem mulAddWW_pos (w : World) (Z X : Option Addr) (Lz Cz Lx Cx n y r : Nat) (wz : List Nat) (hZ : NatS w Z Lz Cz wz) (hX : NatS w X Lx Cx (wo n)) (hL : Lx ≤ 1000) (hn : n ≠ 0) (hy0 : y ≠ 0)
    (hy : y < 18446744073709551616) (hr : r < 18446744073709551616) :
    Calls Tryz.prog 187 #[.slice Z Lz Cz, .slice X Lx Cx, .int .u64 y, .int .u64 r] w (NatRes w Z (n * y + r)) := by
  have hlen := hX.1
  have hpos := wo_len_pos hn
  rw [hlen] at hpos
  have HL := hide hlen
  clear hlen
  have hCx := hX.2.2.1
  have hb0 : ((Lx : Int) == 0) = false := beq_eq_false_iff_ne.2 (by omega)
  have hb1 : ((y : Int) == 0) = false := beq_eq_false_iff_ne.2 (by omega)
  go_enter Tryz.func187, Tryz.ntmps187
  go_wp2_with fail
  have hmk := make_any w Z Lz Cz (Lx + 1) wz (by omega) hZ
  have ec : ((Lx + 1 : Nat) : Int) = (Lx : Int) + 1 := by omega
  rw [ec] at hmk
  clear ec
  refine hmk.mono ?_
  rintro e w1 ⟨A', C', rfl, hu, hC', hC2, hr1⟩
  rcases hr1 with ⟨_, h0, _⟩ | ⟨b, cs, rfl, hb, hcs, hC0, hbz⟩
  · omega
  have hX1 := hX.upd hu (by simp)
  obtain ⟨bx, cx, rfl, hbx, hcx, hwx⟩ := hX1.row (by omega)
  have hcells := hX1.cells
  have hcap : ¬ C' = 0 := by omega
  go_wp2_with fail
  refine (mulAddVWW_any w1 b 0 bx 0 Lx C' Cx y r cs (wo n) (by omega) HL.out hb (by omega) (by simpa using hcells) (fun _ => Nat.le_refl _) (wo_lt n) hy hr).mono ?_
  rintro e w2 ⟨c, out, rfl, h1, h2, h3, h4, h5, h6⟩
  have H2 := hide h2
  have H3 := hide h3
  have H4 := hide h4
  clear h2 h3 h4
  have hsz : Lx < (putW cs 0 out).size := by rw [putW_size]; omega
  have cz := h5.at_ (Array.getElem?_eq_getElem hsz)
  have fz := h5.frozen Lx
  go_wp2_with fail
  have hb3 := h5.set_ Lx (W64 c)
  have hput : (putW cs 0 out).setIfInBounds Lx (W64 c) = putW cs 0 (out ++ [c]) := by rw [putW_snoc, H2.out, Nat.zero_add]
  rw [hput] at hb3
  have hlen : (out ++ [c]).length = Lx + 1 := by rw [List.length_append, H2.out]; rfl
  have hnb := norm_blk (w2.setCell ⟨b, Lx, none⟩ (W64 c)) b (Lx + 1) C' _ (out ++ [c]) hlen hb3 (Wd.put _ _ _ (by rw [hlen]; omega)) (mem_snoc H3.out h1) (by rw [putW_size]; exact hcs) hC' hC0 hC2
  have hv : val (out ++ [c]) = n * y + r := by rw [val_snoc, H2.out, H4.out, val_wo]
  rw [hv] at hnb
  have HNB := hide hnb
  clear hnb hv hlen hput
  refine HNB.out.mono ?_
  rintro e w3 ⟨k, rfl, hS, rfl⟩
  go_wp2
  go_ret
  refine ⟨_, k, C', rfl, hS, ?_, by simpa [bof] using hbz⟩
  exact hu.into (h6.setCell (by simp) _) (by simp) hbz

set_option maxHeartbeats 1000000 in
theorem mulAddWW_zero (w : World) (Z X : Option Addr) (Lz Cz Lx Cx n y r : Nat) (wz : List Nat) (hZ : NatS w Z Lz Cz wz) (hX : NatS w X Lx Cx (wo n)) (hn : n = 0 ∨ y = 0) (hr : r < 18446744073709551616) :
    Calls Tryz.prog 187 #[.slice Z Lz Cz, .slice X Lx Cx, .int .u64 y, .int .u64 r] w (NatRes w Z (n * y + r)) := by
  have hv : n * y + r = r := by rcases hn with rfl | rfl <;> simp
  rw [hv]
  clear hv
  have hlen := hX.1
  have HL := hide hlen
  clear hlen
  by_cases hL : Lx = 0
  · subst hL
    go_enter Tryz.func187, Tryz.ntmps187
    go_wp2_with fail
    refine (setWord_any w Z Lz Cz r wz hZ hr).mono ?_
    rintro e w1 ⟨A', L', C', rfl, h1, h2, h3⟩
    go_wp2
    go_ret
    exact ⟨A', L', C', rfl, h1, h2, h3⟩
  · have hy : y = 0 := by
      rcases hn with rfl | hy
      · have := HL.out; rw [wo_zero] at this; simp at this; omega
      · exact hy
    subst hy
    have hb0 : ((Lx : Int) == 0) = false := beq_eq_false_iff_ne.2 (by omega)
    go_enter Tryz.func187, Tryz.ntmps187
    go_wp2_with fail
    refine (setWord_any w Z Lz Cz r wz hZ hr).mono ?_
    rintro e w1 ⟨A', L', C', rfl, h1, h2, h3⟩
    go_wp2
    go_ret
    exact ⟨A', L', C', rfl, h1, h2, h3⟩

theorem mulAddWW_any (w : World) (Z X : Option Addr) (Lz Cz Lx Cx n y r : Nat) (wz : List Nat) (hZ : NatS w Z Lz Cz wz) (hX : NatS w X Lx Cx (wo n)) (hL : Lx ≤ 1000)
    (hy : y < 18446744073709551616) (hr : r < 18446744073709551616) :
    Calls Tryz.prog 187 #[.slice Z Lz Cz, .slice X Lx Cx, .int .u64 y, .int .u64 r] w (NatRes w Z (n * y + r)) := by
  by_cases h : n = 0 ∨ y = 0
  · exact mulAddWW_zero w Z X Lz Cz Lx Cx n y r wz hZ hX h hr
  · exact mulAddWW_pos w Z X Lz Cz Lx Cx n y r wz hZ hX hL (fun h0 => h (.inl h0)) (fun h0 => h (.inr h0)) hy hr

end Go.Proofs.YtnajekpckbfcdaaGreatDoor

namespace Go.Proofs.YtnajekpckbfcdaaGreatDoor
open Go.RowKit

theorem putW_self (ws : List Nat) : ∀ (cs : Array Value) (o : Nat), Wd cs o ws → putW cs o ws = cs := by
  induction ws with
  | nil => intro cs o _; rfl
  | cons d r ih =>
    intro cs o h
    have h0 := h 0 (by simp)
    rw [Nat.add_zero] at h0
    have e : cs.setIfInBounds o (W64 d) = cs := by
      apply Array.ext_getElem?
      intro j
      by_cases hj : j = o
      · subst hj
        rw [Array.getElem?_setIfInBounds_self_of_lt (Array.getElem?_eq_some_iff.1 h0).1, h0]; rfl
      · rw [Array.getElem?_setIfInBounds_ne (by omega)]
    rw [putW, e]
    refine ih _ _ (fun i hi => ?_)
    have := h (i + 1) (by simp; omega)
    rw [show o + (i + 1) = o + 1 + i from by omega] at this
    simpa using this

theorem run_neq_ptr_other {P : Program} (w : World) {tp te : TypeId} {j : TypeInfo} {a b : Addr} {ca cb : Array Value} {ta tb : TypeId} (hp : P.underlying tp = some (.pointer te)) (hte : P.info? te = some j) (hsz : j.size ≠ 0)
    (hne : a ≠ b) (ha : w.heap[a.block]? = some (.cells ca ta (0, 0))) (hb : w.heap[b.block]? = some (.cells cb tb (0, 0))) :
    (binOp .neq tp (.pointer (some a)) (.pointer (some b))).run P w = .ok (.bool true) w := by
  have h : ∀ d : Nat, (Op.equalIn (d + 1) tp (.pointer (some a)) (.pointer (some b))).run P w = .ok false w := fun d => by
    simp [Op.equalIn, run_underlying hp, sizeOf, typeInfo, hte, hsz, run_sameAddr_other w hne ha hb]
  simp only [binOp]
  simp [Op.equal, Op.maxDepth, h 9999]

theorem run_neq_ptr_same {P : Program} (w : World) {tp te : TypeId} {j : TypeInfo} (a : Addr) (hp : P.underlying tp = some (.pointer te)) (hte : P.info? te = some j) :
    (binOp .neq tp (.pointer (some a)) (.pointer (some a))).run P w = .ok (.bool false) w := by
  have h : ∀ d : Nat, (Op.equalIn (d + 1) tp (.pointer (some a)) (.pointer (some a))).run P w = .ok true w := fun d => by
    simp [Op.equalIn, run_underlying hp, sizeOf, typeInfo, hte, run_sameAddr_same]
  simp only [binOp]
  simp [Op.equal, Op.maxDepth, h 9999]

theorem neq_other (w : World) {a b : Addr} {ca cb : Array Value} (hne : a ≠ b) (ha : Blk w a.block 161 ca) (hb : Blk w b.block 161 cb) :
    ∀ n, (binOp .neq 243 (.pointer (some a)) (.pointer (some b))).run Tryz.prog (w.drewN n) = .ok (.bool true) (w.drewN n) := fun n => by
  obtain ⟨i0, hi0, hz0, hz1, hz2⟩ := info_parts info161
  exact run_neq_ptr_other (te := 161) (w.drewN n) Tryz.underlying243 hi0 (by rw [hz1]; omega) hne (ha.drewN n) (hb.drewN n)
theorem neq_same (w : World) (a : Addr) :
    ∀ n, (binOp .neq 243 (.pointer (some a)) (.pointer (some a))).run Tryz.prog (w.drewN n) = .ok (.bool false) (w.drewN n) := fun n => by
  obtain ⟨i0, hi0, hz0, hz1, hz2⟩ := info_parts info161
  exact run_neq_ptr_same (te := 161) (w.drewN n) a Tryz.underlying243 hi0

/-- copy into a row of words, as one step of a region that draws its order. -/
theorem step_copy_W {P : Program} {ops : Array Oper} {o : Oper} {a : Act} {w : World} {K : Act → World → Prop} {Q : Exit → Act → World → Prop} {E : Prop} (hgd : o.guard = none) (d s : Operand) (dT sT : TypeId)
    (ho : o.op = .call { callee := .builtin .copy, args := #[d, s], argTypes := #[dT, sT] }) (elem : TypeId) (hu : P.underlying dT = some (.slice elem)) (hsz : (P.info? elem).map (·.size) = some 1)
    (dp sp : Option Addr) (dLen dCap sLen sCap : Nat) (hd : a.eval d = .slice dp dLen dCap) (hs : a.eval s = .slice sp sLen sCap)
    (g off : Nat) (cur : Array Value) (hg : Blk w g 161 cur) (ws : List Nat) (hn : ws.length = Nat.min sLen dLen)
    (hpos : 0 < ws.length → dp = some ⟨g, off, none⟩ ∧ ∃ xb xo, sp = some ⟨xb, xo, none⟩ ∧ ∀ j, j < ws.length → w.cell? ⟨xb, xo + j, none⟩ = some (W64 (ws.getD j 0)))
    (hfit : off + ws.length ≤ cur.size)
    (h : ∀ w', Hid (Blk w' g 161 (putW cur off ws)) → Upd [g] w w' → K (a.put o.dst (goInt ws.length)) w') :
    if Region.wanted o (yielded ops a.tmps) = true then Oper.wp P o a w K Q else E := by
  have hw : Region.wanted o (yielded ops a.tmps) = true := by simp [Region.wanted, hgd]
  rw [if_pos hw]
  by_cases h0 : ws.length = 0
  · obtain rfl : ws = [] := List.eq_nil_of_length_eq_zero h0
    have hrun := run_copy_none (P := P) w dT sT o.type elem dp sp dLen dCap sLen sCap hu hsz (by simpa using hn.symm)
    unfold Oper.wp
    simp [execOp, ho, resolve, invoke, builtin, hd, hs, hrun, Result.andThen]
    exact h w hg (Upd.refl _ _)
  · obtain ⟨rfl, xb, xo, rfl, hsrc⟩ := hpos (by omega)
    have hrun := run_copy_row (P := P) w dT sT o.type elem g off dLen dCap ⟨xb, xo, none⟩ sLen sCap cur 161 (ws.map W64) hu hsz hg (by simpa using hn) (by
        intro j v hj
        rw [List.getElem?_map] at hj
        by_cases hl : j < ws.length
        · rw [List.getElem?_eq_getElem hl] at hj
          have := hsrc j hl
          simp only [List.getD, List.getElem?_eq_getElem hl, Option.getD_some] at this
          rw [add_blk, this]
          simpa using hj
        · rw [List.getElem?_eq_none (by omega)] at hj; simp at hj) (by simpa using hfit) (by
        intro v hv
        obtain ⟨d, _, rfl⟩ := List.mem_map.1 hv
        rfl)
    rw [List.append_assoc, setRow_putW _ _ _ hfit, List.length_map] at hrun
    unfold Oper.wp
    simp [execOp, ho, resolve, invoke, builtin, hd, hs, hrun, Result.andThen]
    refine h _ ?_ (setRow_upd _ _ _)
    show Blk _ _ _ _
    unfold Blk at hg ⊢
    simp [World.setRow, Array.getElem?_modify, hg]

/-- The rest of x behind k words: it lies there already (one row), or it is copied. -/
theorem rest_same {w : World} {zb zo n k : Nat} {cs : Array Value} {xs out : List Nat} (hz : Blk w zb 161 cs) (hx : ∀ i, i < n → w.cell? ⟨zb, zo + i, none⟩ = some (W64 (xs.getD i 0))) (hn : xs.length = n) (hk : out.length = k) :
    putW cs zo (out ++ xs.drop k) = putW cs zo out := by
  rw [← putW_append, hk]
  refine putW_self _ _ _ (fun i hi => ?_)
  rw [List.length_drop] at hi
  have := hx (k + i) (by omega)
  rw [hz.cell] at this
  rw [putW_out _ _ _ _ (.inr (by omega)), Nat.add_assoc, this]
  simp [List.getD, show k + i < xs.length by omega]

theorem getD_drop (xs : List Nat) (k j : Nat) : (xs.drop k).getD j 0 = xs.getD (k + j) 0 := by simp only [List.getD, List.getElem?_drop]

theorem val_take_drop (xs : List Nat) (k : Nat) (hk : k ≤ xs.length) : val xs = val (xs.take k) + 18446744073709551616 ^ k * val (xs.drop k) := by
  conv => lhs; rw [← List.take_append_drop k xs]
  rw [val_append, List.length_take, Nat.min_eq_left hk]

set_option maxHeartbeats 4000000 in
theorem subVW_any (w : World) (zb zo xb xo n zc xc y : Nat) (cs : Array Value) (xs : List Nat) (hn : n ≤ 1000000) (hxl : xs.length = n) (hzc : n ≤ zc) (hxc : n ≤ xc) (hzc1 : zc ≤ 1000000) (hxc1 : xc ≤ 1000000)
    (hz : Blk w zb 161 cs) (hzn : zo + n ≤ cs.size) (cx : Array Value) (hxb : Blk w xb 161 cx) (hx : ∀ i, i < n → w.cell? ⟨xb, xo + i, none⟩ = some (W64 (xs.getD i 0))) (ha : xb = zb → zo = xo)
    (hxs : ∀ d ∈ xs, d < 18446744073709551616) (hy : y < 18446744073709551616) :
    Calls Tryz.prog 144 #[.slice (some ⟨zb, zo, none⟩) n zc, .slice (some ⟨xb, xo, none⟩) n xc, .int .u64 y] w
      (VecOut w zb zo n cs (fun out c => val out + y = val xs + 18446744073709551616 ^ n * c)) := by
  have HL := hide hxl
  clear hxl
  by_cases hn0 : n = 0
  · subst hn0
    go_enter Tryz.func144, Tryz.ntmps144
    go_wp2
    go_ret
    have hx0 : xs = [] := List.eq_nil_of_length_eq_zero HL.out
    subst hx0
    exact ⟨y, [], rfl, hy, rfl, by simp, by simp [val], hz, Upd.refl _ _⟩
  · have hnb : ((n : Int) == 0) = false := beq_eq_false_iff_ne.2 (by omega)
    have hp0 : 0 < n := by omega
    have hp0' : (0 : Int) < (n : Int) := by omega
    have cx0 := hx 0 (by omega)
    rw [Nat.add_zero] at cx0
    have hx0' := getD_lt xs hxs 0
    obtain ⟨x0, hx0⟩ : ∃ x0, xs.getD 0 0 = x0 := ⟨_, rfl⟩
    rw [hx0] at cx0 hx0'
    have HX0 := hide hx0
    clear hx0
    have hsz : zo < cs.size := by omega
    have cz := hz.at_ (Array.getElem?_eq_getElem hsz)
    have fz := hz.frozen zo
    have hx1 : xs = x0 :: xs.drop 1 := by
      have := HX0.out
      match xs, HL.out with
      | [], h => simp at h; omega
      | a :: r, _ => simp at this; subst this; rfl
    have HX1 := hide hx1
    clear hx1
    have hlen1 : ∀ d : Nat, (d :: xs.drop 1).length = n := fun d => by rw [List.length_cons, List.length_drop, HL.out]; omega
    have hlt1 : ∀ d : Nat, d < 18446744073709551616 → ∀ x ∈ d :: xs.drop 1, x < 18446744073709551616 := fun d hd x hx => by
      rcases List.mem_cons.1 hx with h | h
      · rw [h]; exact hd
      · exact hxs x (List.mem_of_mem_drop h)
    have hval1 : ∀ d : Nat, d + y + 0 = x0 + 18446744073709551616 * 0 → val (d :: xs.drop 1) + y = val xs + 18446744073709551616 ^ n * 0 := fun d h => by
      have e := congrArg val HX1.out
      rw [val_cons] at e
      rw [val_cons, e]
      omega
    have HLEN1 := hide hlen1
    have HLT1 := hide hlt1
    have HVAL1 := hide hval1
    clear hlen1 hlt1 hval1
    go_enter Tryz.func144, Tryz.ntmps144
    go_wp2_with fail
    refine (bSub_any x0 y 0 hx0' hy (by omega) _).mono ?_
    rintro e w' ⟨d, b', rfl, rfl, he, hd, hb'⟩
    have HE := hide he
    clear he
    have hb1 := hz.set_ zo (W64 d)
    have hu1 : Upd [zb] w (w.setCell ⟨zb, zo, none⟩ (W64 d)) := (Upd.refl _ _).setCell (by simp) _
    have hput1 : cs.setIfInBounds zo (W64 d) = putW cs zo [d] := rfl
    rw [hput1] at hb1
    clear hput1
    rcases (by omega : b' = 0 ∨ b' = 1) with rfl | rfl
    · by_cases hsame : xb = zb
      · obtain rfl := hsame
        obtain rfl := ha rfl
        have hq := neq_same (w.setCell ⟨xb, zo, none⟩ (W64 d)) ⟨xb, zo, none⟩
        go_wp2_with fail
        go_quiet (fail)
        go_wp2
        go_ret
        have hr := rest_same (k := 1) (out := [d]) hz hx HL.out rfl
        exact ⟨0, d :: xs.drop 1, rfl, by omega, HLEN1.out d, HLT1.out d hd, HVAL1.out d HE.out, (by rw [show d :: xs.drop 1 = [d] ++ xs.drop 1 from rfl, hr]; exact hb1), hu1.drewN _⟩
      · have hq := neq_other (w.setCell ⟨zb, zo, none⟩ (W64 d)) (a := ⟨zb, zo, none⟩) (b := ⟨xb, xo, none⟩) (by intro e; injection e with e; exact hsame e.symm) hb1 (hxb.far (p := ⟨zb, zo, none⟩) (by simpa using hsame) _)
        obtain ⟨A1, hA1, hA1'⟩ : ∃ A1 : Option Addr, (if zc = 1 then some (⟨zb, zo, none⟩ : Addr) else some ⟨zb, zo + 1, none⟩) = A1 ∧ (1 < n → A1 = some ⟨zb, zo + 1, none⟩) := ⟨_, rfl, fun h => by rw [if_neg (by omega)]⟩
        obtain ⟨A2, hA2, hA2'⟩ : ∃ A2 : Option Addr, (if xc = 1 then some (⟨xb, xo, none⟩ : Addr) else some ⟨xb, xo + 1, none⟩) = A2 ∧ (1 < n → A2 = some ⟨xb, xo + 1, none⟩) := ⟨_, rfl, fun h => by rw [if_neg (by omega)]⟩
        have HA1 := hide hA1'
        have HA2 := hide hA2'
        clear hA1' hA2'
        have hcl : Hid ((xs.drop 1).length = Nat.min (n - 1) (n - 1)) := by show _ = _; rw [List.length_drop, HL.out]; exact (Nat.min_self _).symm
        have hp1 : 1 ≤ n := by omega
        have hp1' : (1 : Int) ≤ (n : Int) := by omega
        have hp1b : (1 : Int) ≤ (zc : Int) := by omega
        have hp1c : (1 : Int) ≤ (xc : Int) := by omega
        have hp2 : 1 ≤ zc := by omega
        have hp3 : 1 ≤ xc := by omega
        go_wp2_with fail
        go_quiet (fail)
        go_wp2_with fail
        have hpos : 0 < (xs.drop 1).length → A1 = some ⟨zb, zo + 1, none⟩ ∧ ∃ xb' xo', A2 = some ⟨xb', xo', none⟩ ∧ ∀ j, j < (xs.drop 1).length → (w.setCell ⟨zb, zo, none⟩ (W64 d)).cell? ⟨xb', xo' + j, none⟩ = some (W64 ((xs.drop 1).getD j 0)) := by
          intro h0
          rw [List.length_drop, HL.out] at h0
          refine ⟨HA1.out (by omega), xb, xo + 1, HA2.out (by omega), fun j hj => ?_⟩
          rw [List.length_drop, HL.out] at hj
          rw [World.cell?_setCell_other _ _ _ _ (by intro e; injection e with e; exact hsame e.symm), Nat.add_assoc, hx (1 + j) (by omega), getD_drop]
        have hfit : zo + 1 + (xs.drop 1).length ≤ (putW cs zo [d]).size := by rw [putW_size, List.length_drop, HL.out]; omega
        go_region_law (refine step_copy_W rfl (.tmp 40) (.tmp 42) 130 130 rfl 161 Tryz.underlying130 size161 A1 A2 (n - 1) (zc - 1) (n - 1) (xc - 1) (by simp [Act.eval, Act.put]) (by simp [Act.eval, Act.put]) zb (zo + 1) (putW cs zo [d]) hb1 (xs.drop 1) hcl.out hpos hfit ?_; intro w4 hb4 hu4)
        all_goals go_wp2
        all_goals go_ret
        all_goals exact ⟨0, d :: xs.drop 1, rfl, by omega, HLEN1.out d, HLT1.out d hd, HVAL1.out d HE.out, hb4.out, ((hu1.drewN _).drew.trans hu4 (fun k hk _ => hk))⟩
    · have hv1 : val [d] + y = val (xs.take 1) + 18446744073709551616 ^ 1 * 1 := by
        have hx1 : xs.take 1 = [x0] := by rw [HX1.out]; rfl
        rw [hx1]
        have := HE.out
        simp only [val, Nat.pow_one]
        omega
      have HV1 := hide hv1
      clear hv1
      go_wp2_with fail
      go_loopw [9] (fun i wr => ∃ (k : Nat) (out : List Nat), 1 ≤ k ∧ k ≤ n ∧ i = .int .i64 k ∧ Hid (out.length = k) ∧ Hid (∀ d ∈ out, d < 18446744073709551616) ∧
          Hid (val out + y = val (xs.take k) + 18446744073709551616 ^ k * 1) ∧ Blk wr zb 161 (putW cs zo out) ∧ Upd [zb] w wr)
        (fun i _ => n - (intOf i).toNat)
      case atStart => exact ⟨1, [d], Nat.le_refl _, by omega, rfl, rfl, (by intro x hx; rw [List.mem_singleton.1 hx]; exact hd), HV1, hb1, hu1⟩
      case round =>
        clear cx0 cz fz hb1 hu1 HE HV1
        obtain ⟨k, out, hk1, hk, rfl, hol, hos, hv, hbk, hu⟩ := hrel
        by_cases hlt : k < n
        · have cxk := read_kept hz hu hbk hol.out (fun e => by have := ha e; omega) (hx k hlt)
          have hxk' := getD_lt xs hxs k
          obtain ⟨xk, hxk⟩ : ∃ xk, xs.getD k 0 = xk := ⟨_, rfl⟩
          rw [hxk] at cxk hxk'
          have HX := hide hxk
          clear hxk
          have hsz : zo + k < (putW cs zo out).size := by rw [putW_size]; omega
          have cz := hbk.at_ (Array.getElem?_eq_getElem hsz)
          have fz := hbk.frozen (zo + k)
          have vx : val (xs.take (k + 1)) = val (xs.take k) + 18446744073709551616 ^ k * xk := by
            rw [take_succ_getD xs k (by rw [HL.out]; exact hlt), HX.out, val_snoc, List.length_take, HL.out, Nat.min_eq_left (by omega)]
          have VX := hide vx
          clear vx
          have hk0' : (0 : Int) ≤ (k : Int) := by omega
          have hlt' : (k : Int) < (n : Int) := by omega
          by_cases hx0 : xk = 0
          · subst hx0
            go_wp2
            go_roundw
            case rel =>
              refine ⟨k + 1, out ++ [18446744073709551615], by omega, by omega, by go_num, ?_, mem_snoc hos.out (by omega), ?_, ?_, hu.setCell (by simp) _⟩
              · show (out ++ [_]).length = k + 1
                rw [List.length_append, hol.out]; rfl
              · exact borrow_step out k 1 18446744073709551615 1 0 0 _ y _ y hol.out hv.out (by omega) VX.out (by omega)
              · rw [putW_snoc, hol.out]
                exact hbk.set_ _ _
            case measure => simp [intOf]; omega
          · obtain ⟨xp, hxp⟩ : ∃ xp, xk = xp + 1 := ⟨xk - 1, by omega⟩
            have hxb1 : ((xk : Int) == 0) = false := beq_eq_false_iff_ne.2 (by omega)
            have hxb2 : ((xk : Int) != 0) = true := by rw [bne_iff_ne]; omega
            have hw : IntKind.u64.wrap ((xk : Int) - 1) = (xp : Int) := by rw [IntKind.wrap_u64]; omega
            have hxpl : xp < 18446744073709551616 := by omega
            have HXP := hide hxp
            clear hxp
            have hput : (putW cs zo out).setIfInBounds (zo + k) (W64 xp) = putW cs zo (out ++ [xp]) := by rw [putW_snoc, hol.out]
            have hb2 := hbk.set_ (zo + k) (W64 xp)
            rw [hput] at hb2
            clear hput
            have hu2 : Upd [zb] w (wr.setCell ⟨zb, zo + k, none⟩ (W64 xp)) := hu.setCell (by simp) _
            have hol2 : (out ++ [xp]).length = k + 1 := by rw [List.length_append, hol.out]; rfl
            have HO2 := hide hol2
            clear hol2
            have hv2 : val (out ++ [xp]) + y = val (xs.take (k + 1)) + 18446744073709551616 ^ (k + 1) * 0 := borrow_step out k 1 xp 0 xk 0 _ y _ y hol.out hv.out (by have := HXP.out; omega) VX.out (by omega)
            have hfin : val (out ++ [xp] ++ xs.drop (k + 1)) + y = val xs + 18446744073709551616 ^ n * 0 := by
              rw [val_append, HO2.out, val_take_drop xs (k + 1) (by rw [HL.out]; omega)]
              omega
            have hflen : (out ++ [xp] ++ xs.drop (k + 1)).length = n := by rw [List.length_append, HO2.out, List.length_drop, HL.out]; omega
            have hflt : ∀ x ∈ out ++ [xp] ++ xs.drop (k + 1), x < 18446744073709551616 := by
              intro x hx
              rcases List.mem_append.1 hx with h | h
              · exact mem_snoc hos.out hxpl x h
              · exact hxs x (List.mem_of_mem_drop h)
            have HFI := hide hfin
            have HFL := hide hflen
            have HFT := hide hflt
            clear hv2 hfin hflen hflt
            by_cases hsame : xb = zb
            · obtain rfl := hsame
              obtain rfl := ha rfl
              clear cz
              have hq := neq_same (wr.setCell ⟨xb, zo + k, none⟩ (W64 xp)) ⟨xb, zo, none⟩
              go_wp2_with fail
              go_quiet (fail)
              go_wp2
              go_ret
              have hr := rest_same (out := out ++ [xp]) hz hx HL.out HO2.out
              exact ⟨0, _, rfl, by omega, HFL.out, HFT.out, HFI.out, (by rw [hr]; exact hb2), hu2.drewN _⟩
            · have hxb3 : Blk (wr.setCell ⟨zb, zo + k, none⟩ (W64 xp)) xb 161 cx := (hxb.upd hu2 (by simpa using hsame))
              have hq := neq_other (wr.setCell ⟨zb, zo + k, none⟩ (W64 xp)) (a := ⟨zb, zo, none⟩) (b := ⟨xb, xo, none⟩) (by intro e; injection e with e; exact hsame e.symm) hb2 hxb3
              obtain ⟨A1, hA1, hA1'⟩ : ∃ A1 : Option Addr, (if zc = k + 1 then some (⟨zb, zo, none⟩ : Addr) else some ⟨zb, zo + (k + 1), none⟩) = A1 ∧ (k + 1 < n → A1 = some ⟨zb, zo + (k + 1), none⟩) := ⟨_, rfl, fun h => by rw [if_neg (by omega)]⟩
              obtain ⟨A2, hA2, hA2'⟩ : ∃ A2 : Option Addr, (if xc = k + 1 then some (⟨xb, xo, none⟩ : Addr) else some ⟨xb, xo + (k + 1), none⟩) = A2 ∧ (k + 1 < n → A2 = some ⟨xb, xo + (k + 1), none⟩) := ⟨_, rfl, fun h => by rw [if_neg (by omega)]⟩
              have HA1 := hide hA1'
              have HA2 := hide hA2'
              clear hA1' hA2'
              have hcl : Hid ((xs.drop (k + 1)).length = Nat.min (n - (k + 1)) (n - (k + 1))) := by show _ = _; rw [List.length_drop, HL.out]; exact (Nat.min_self _).symm
              have hp1 : k + 1 ≤ n := by omega
              have hp1' : (k : Int) + 1 ≤ (n : Int) := by omega
              have hp1b : (k : Int) + 1 ≤ (zc : Int) := by omega
              have hp1c : (k : Int) + 1 ≤ (xc : Int) := by omega
              have hp2 : k + 1 ≤ zc := by omega
              have hp3 : k + 1 ≤ xc := by omega
              have hw2 : IntKind.i64.wrap ((k : Int) + 1) = (k : Int) + 1 := IntWalk.i64_in _ (by omega)
              have hw3 : ((k : Int) + 1).toNat = k + 1 := by omega
              have hw4 : (0 : Int) ≤ (k : Int) + 1 := by omega
              go_wp2_with fail
              go_quiet (fail)
              go_wp2_with fail
              have hpos : 0 < (xs.drop (k + 1)).length → A1 = some ⟨zb, zo + (k + 1), none⟩ ∧ ∃ xb' xo', A2 = some ⟨xb', xo', none⟩ ∧ ∀ j, j < (xs.drop (k + 1)).length → (wr.setCell ⟨zb, zo + k, none⟩ (W64 xp)).cell? ⟨xb', xo' + j, none⟩ = some (W64 ((xs.drop (k + 1)).getD j 0)) := by
                intro h0
                rw [List.length_drop, HL.out] at h0
                refine ⟨HA1.out (by omega), xb, xo + (k + 1), HA2.out (by omega), fun j hj => ?_⟩
                rw [List.length_drop, HL.out] at hj
                have hc := hx (k + 1 + j) (by omega)
                rw [hu2.cell (p := ⟨xb, xo + (k + 1) + j, none⟩) hxb.lt (by simpa using hsame), Nat.add_assoc, hc, getD_drop]
              have hfit : zo + (k + 1) + (xs.drop (k + 1)).length ≤ (putW cs zo (out ++ [xp])).size := by rw [putW_size, List.length_drop, HL.out]; omega
              go_region_law (refine step_copy_W rfl (.tmp 69) (.tmp 73) 130 130 rfl 161 Tryz.underlying130 size161 A1 A2 (n - (k + 1)) (zc - (k + 1)) (n - (k + 1)) (xc - (k + 1)) (by simp [Act.eval, Act.put]) (by simp [Act.eval, Act.put]) zb (zo + (k + 1)) (putW cs zo (out ++ [xp])) hb2 (xs.drop (k + 1)) hcl.out hpos hfit ?_; intro w4 hb4 hu4)
              have hpa := putW_append (out ++ [xp]) (xs.drop (k + 1)) cs zo
              rw [HO2.out] at hpa
              have HPA := hide hpa
              clear hpa
              all_goals go_wp2
              all_goals go_ret
              all_goals exact ⟨0, _, rfl, by omega, HFL.out, HFT.out, HFI.out, (by have := hb4.out; rw [HPA.out] at this; exact this), ((hu2.drewN _).drew.trans hu4 (fun k hk _ => hk))⟩
        · obtain rfl : k = n := by omega
          go_wp2
          go_ret
          refine ⟨1, out, rfl, by omega, hol.out, hos.out, ?_, hbk, hu⟩
          have := hv.out
          have tX : xs.take k = xs := List.take_of_length_le (by rw [HL.out]; exact Nat.le_refl _)
          rw [tX] at this
          exact this

end Go.Proofs.YtnajekpckbfcdaaGreatDoor

namespace Go.Proofs.YtnajekpckbfcdaaGreatDoor
open Go.RowKit

theorem Upd.undrew {S : List Nat} {w w' : World} (h : Upd S w.drew w') : Upd S w w' := ⟨h.os, h.tape, h.output, h.size, h.block⟩
theorem Upd.undrewN {S : List Nat} {w w' : World} {n : Nat} (h : Upd S (w.drewN n) w') : Upd S w w' := ⟨h.os, h.tape, h.output, h.size, h.block⟩

theorem read_after {w wr : World} {zb zo xb j : Nat} {cs : Array Value} {out : List Nat} {v : Value} (hz : Blk w zb 161 cs) (hu : Upd [zb] w wr) (hr : Blk wr zb 161 (putW cs zo out))
    (ha : xb = zb → j < zo ∨ zo + out.length ≤ j) (hx : w.cell? ⟨xb, j, none⟩ = some v) : wr.cell? ⟨xb, j, none⟩ = some v := by
  by_cases e : xb = zb
  · subst e
    rw [hr.cell, putW_out _ _ _ _ (ha rfl), ← hz.cell]
    exact hx
  · rw [hu.cell (p := ⟨xb, j, none⟩) (lt_of_cell hx) (by simpa using e)]
    exact hx
theorem blk_after {w wr : World} {zb xb : Nat} {cs' cx : Array Value} (hu : Upd [zb] w wr) (hr : Blk wr zb 161 cs') (hx : Blk w xb 161 cx) : ∃ cx', Blk wr xb 161 cx' := by
  by_cases e : xb = zb
  · subst e; exact ⟨_, hr⟩
  · exact ⟨cx, hx.upd hu (by simpa using e)⟩

theorem mem_app {P : Nat → Prop} {a b : List Nat} (h : ∀ x ∈ a, P x) (h' : ∀ x ∈ b, P x) : ∀ x ∈ a ++ b, P x := by
  intro x hx
  rcases List.mem_append.1 hx with h1 | h1
  · exact h x h1
  · exact h' x h1

theorem sub_end (out : List Nat) (a b c m : Nat) (hl : out.length = m) (hd : ∀ d ∈ out, d < 18446744073709551616) (h : val out + b = a + 18446744073709551616 ^ m * c) (hab : b ≤ a) : c = 0 ∧ val out = a - b := by
  have hlt := val_lt out hd
  rw [hl] at hlt
  have hc : c = 0 := by
    rcases Nat.eq_zero_or_pos c with h0 | h0
    · exact h0
    · have : 18446744073709551616 ^ m * 1 ≤ 18446744073709551616 ^ m * c := Nat.mul_le_mul_left _ h0
      omega
  subst hc
  exact ⟨rfl, by omega⟩

set_option maxHeartbeats 4000000 in
theorem sub_pos (w : World) (Z X Y : Option Addr) (Lz Cz Lx Cx Ly Cy a b : Nat) (wz : List Nat) (hZ : NatS w Z Lz Cz wz) (hX : NatS w X Lx Cx (wo a)) (hY : NatS w Y Ly Cy (wo b)) (hLx : Lx ≤ 1000) (hab : b ≤ a) (hb0 : b ≠ 0) (hLL : Ly ≤ Lx) :
    Calls Tryz.prog 105 #[.slice Z Lz Cz, .slice X Lx Cx, .slice Y Ly Cy] w (NatRes w Z (a - b)) := by
  have hlx := hX.1
  have hly := hY.1
  have hpy := wo_len_pos hb0
  rw [hly] at hpy
  have HLX := hide hlx
  have HLY := hide hly
  clear hlx hly
  have hCx := hX.2.2.1
  have hCy := hY.2.2.1
  have hCz := hZ.2.2.2.1
  have hCx1 := hX.2.2.2.1
  have hCy1 := hY.2.2.2.1
  have t1 : ((Lx : Int) == 0) = false := beq_eq_false_iff_ne.2 (by omega)
  have t2 : ((Ly : Int) == 0) = false := beq_eq_false_iff_ne.2 (by omega)
  have t3 : ¬ Lx < Ly := by omega
  have t4 : ¬ (Lx : Int) < (Ly : Int) := by omega
  go_enter Tryz.func105, Tryz.ntmps105
  go_wp2_with fail
  refine (make_any w Z Lz Cz Lx wz (by omega) hZ).mono ?_
  rintro e w1 ⟨A', C', rfl, hu, hC', hC2, hr1⟩
  rcases hr1 with ⟨_, h0, _⟩ | ⟨g, cs, rfl, hb, hcs, hC0, hbz⟩
  · omega
  have hX1 := hX.upd hu (by simp)
  have hY1 := hY.upd hu (by simp)
  obtain ⟨bx, cx, rfl, hbx, hcx, hwx⟩ := hX1.row (by omega)
  obtain ⟨by', cy, rfl, hby, hcy, hwy⟩ := hY1.row (by omega)
  have hxc := hX1.cells
  have hyc := hY1.cells
  have hXt : ∀ i, i < Ly → w1.cell? ⟨bx, 0 + i, none⟩ = some (W64 (((wo a).take Ly).getD i 0)) := fun i hi => by
    rw [Nat.zero_add, hxc i (by omega)]
    simp [List.getD, List.getElem?_take_of_lt hi]
  have hC := subVV_any w1.drew g 0 bx 0 by' 0 Ly C' Cx Cy cs ((wo a).take Ly) (wo b) (by omega) (by rw [List.length_take, HLX.out]; omega) HLY.out hb (by omega) hXt (fun _ => Nat.le_refl _)
    (by simpa using hyc) (fun _ => Nat.le_refl _) (fun d hd => wo_lt a d (List.mem_of_mem_take hd)) (wo_lt b)
  have HC := hide hC
  clear hC
  have p1 : Ly ≤ C' := by omega
  have p2 : Ly ≤ Cx := by omega
  have p3 : (Ly : Int) ≤ (C' : Int) := by omega
  have p4 : (Ly : Int) ≤ (Cx : Int) := by omega
  have p5 : (Ly : Int) ≤ (Cy : Int) := by omega
  have p6 : (0 : Int) ≤ (Ly : Int) := by omega
  go_wp2_with fail
  go_region_held3 (fun w' => True) (trivial) (first | (go_at_call 143; refine HC.out.mono ?_; rintro e w2 ⟨c, out, rfl, h1, h2, h3, h4, h5, h6⟩))
  have h6 := h6.undrew
  have H2 := hide h2
  have H3 := hide h3
  clear h2 h3
  obtain ⟨h4, hc1⟩ := h4
  have H4 := hide h4
  clear h4
  by_cases hlt : Ly < Lx
  · have hX2 : ∀ i, i < Lx - Ly → w2.cell? ⟨bx, Ly + i, none⟩ = some (W64 (((wo a).drop Ly).getD i 0)) := fun i hi => by
      rw [getD_drop]
      exact read_after hb h6 h5 (fun _ => .inr (by rw [H2.out]; omega)) (hxc (Ly + i) (by omega))
    obtain ⟨cx2, hbx2⟩ := blk_after h6 h5 hbx
    have hC2 := subVW_any w2.drew g Ly bx Ly (Lx - Ly) (C' - Ly) (Cx - Ly) c (putW cs 0 out) ((wo a).drop Ly) (by omega) (by rw [List.length_drop, HLX.out]) (by omega) (by omega) (by omega) (by omega)
      h5 (by rw [putW_size]; omega) cx2 hbx2 hX2 (fun _ => rfl) (fun d hd => wo_lt a d (List.mem_of_mem_drop hd)) h1
    have HC2 := hide hC2
    clear hC2
    have q1 : ¬ C' = Ly := by omega
    have q2 : ¬ Cx = Ly := by omega
    have q3 : (Ly : Int) ≤ (Lx : Int) := by omega
    have q4 : (Ly : Int) < (Lx : Int) := by omega
    have q5 : Ly ≤ Lx := by omega
    go_wp2_with fail
    go_region_held3 (fun w' => True) (trivial) (first | (go_at_call 144; refine HC2.out.mono ?_; rintro e w3 ⟨c2, out2, rfl, g1, g2, g3, g4, g5, g6⟩))
    have g6 := g6.undrew
    have G2 := hide g2
    have G3 := hide g3
    have G4 := hide g4
    clear g2 g3 g4
    have hlen : (out ++ out2).length = Lx := by rw [List.length_append, H2.out, G2.out]; omega
    have hval : val (out ++ out2) + b = a + 18446744073709551616 ^ Lx * c2 := by
      have e1 : val (wo a) = val ((wo a).take Ly) + 18446744073709551616 ^ Ly * val ((wo a).drop Ly) := val_take_drop _ _ (by rw [HLX.out]; omega)
      have e2 := H4.out
      rw [val_wo] at e1 e2
      have e3 : 18446744073709551616 ^ Ly * (val out2 + c) = 18446744073709551616 ^ Ly * (val ((wo a).drop Ly) + 18446744073709551616 ^ (Lx - Ly) * c2) := by rw [G4.out]
      rw [Nat.mul_add, Nat.mul_add, ← Nat.mul_assoc, ← Nat.pow_add, show Ly + (Lx - Ly) = Lx from by omega] at e3
      rw [val_append, H2.out]
      omega
    have hall : ∀ d ∈ out ++ out2, d < 18446744073709551616 := mem_app H3.out G3.out
    obtain ⟨hc2, hv⟩ := sub_end _ a b c2 Lx hlen hall hval hab
    subst hc2
    have hput := putW_append out out2 cs 0
    rw [H2.out, Nat.zero_add] at hput
    rw [hput] at g5
    have hnb := norm_blk w3 g Lx C' _ (out ++ out2) hlen g5 (Wd.put _ _ _ (by rw [hlen]; omega)) hall (by rw [putW_size]; exact hcs) hC' hC0 hC2
    rw [hv] at hnb
    have HNB := hide hnb
    clear hnb hv hlen hput hval hall
    go_wp2_with fail
    refine HNB.out.mono ?_
    rintro e w4 ⟨k, rfl, hS, rfl⟩
    go_wp2
    go_ret
    refine ⟨_, k, C', rfl, hS, ?_, by simpa [bof] using hbz⟩
    exact hu.into (h6.trans g6 (fun k hk _ => hk)) (by simp) hbz
  · obtain rfl : Lx = Ly := by omega
    have hval : val out + b = a + 18446744073709551616 ^ Lx * c := by
      have e2 := H4.out
      have e1 : (wo a).take Lx = wo a := List.take_of_length_le (by rw [HLX.out]; exact Nat.le_refl _)
      rw [e1, val_wo, val_wo] at e2
      exact e2
    obtain ⟨hc2, hv⟩ := sub_end _ a b c Lx H2.out H3.out hval hab
    subst hc2
    have hnb := norm_blk w2 g Lx C' _ out H2.out h5 (Wd.put _ _ _ (by rw [H2.out]; omega)) H3.out (by rw [putW_size]; exact hcs) hC' hC0 hC2
    rw [hv] at hnb
    have HNB := hide hnb
    clear hnb hv hval
    go_wp2_with fail
    refine HNB.out.mono ?_
    rintro e w4 ⟨k, rfl, hS, rfl⟩
    go_wp2
    go_ret
    refine ⟨_, k, C', rfl, hS, ?_, by simpa [bof] using hbz⟩
    exact hu.into h6 (by simp) hbz

theorem wo_len_mono {a b : Nat} (h : b ≤ a) : (wo b).length ≤ (wo a).length := by
  have := val_lt (wo a) (wo_lt a)
  rw [val_wo] at this
  exact wo_len_le (by omega)

/-- z = x - y -/
theorem sub_any (w : World) (Z X Y : Option Addr) (Lz Cz Lx Cx Ly Cy a b : Nat) (wz : List Nat) (hZ : NatS w Z Lz Cz wz) (hX : NatS w X Lx Cx (wo a)) (hY : NatS w Y Ly Cy (wo b)) (hLx : Lx ≤ 1000) (hab : b ≤ a) :
    Calls Tryz.prog 105 #[.slice Z Lz Cz, .slice X Lx Cx, .slice Y Ly Cy] w (NatRes w Z (a - b)) := by
  have hm := wo_len_mono hab
  rw [hX.1, hY.1] at hm
  by_cases hb0 : b = 0
  · subst hb0
    have hly : Ly = 0 := by rw [← hY.1, wo_zero]; rfl
    subst hly
    rw [Nat.sub_zero]
    by_cases ha0 : a = 0
    · subst ha0
      have hlx : Lx = 0 := by rw [← hX.1, wo_zero]; rfl
      subst hlx
      have hCz := hZ.2.2.2.1
      go_enter Tryz.func105, Tryz.ntmps105
      go_wp2
      go_ret
      obtain ⟨h1, h2, h3, h4, h5⟩ := hZ
      refine ⟨Z, 0, Cz, rfl, ?_, Upd.refl _ _, fun b hb => .inl hb⟩
      rw [wo_zero]
      refine ⟨rfl, by simp, Nat.zero_le _, h4, ?_⟩
      rcases h5 with ⟨h6, h7, h8⟩ | ⟨b, cs, h6, h7, h8, h9, h10⟩
      · exact .inl ⟨h6, rfl, h8⟩
      · exact .inr ⟨b, cs, h6, h7, h8, h9, Wd.nil _ _⟩
    · have hpx := wo_len_pos ha0
      rw [hX.1] at hpx
      have t1 : ((Lx : Int) == 0) = false := beq_eq_false_iff_ne.2 (by omega)
      have t3 : ¬ Lx < 0 := by omega
      have hs := set_any w Z X Lz Cz Lx Cx a wz hZ hX hLx
      go_enter Tryz.func105, Tryz.ntmps105
      go_wp2_with fail
      refine hs.mono ?_
      rintro e w1 ⟨A', L', C', rfl, h1, h2, h3⟩
      go_wp2
      go_ret
      exact ⟨A', L', C', rfl, h1, h2, h3⟩
  · exact sub_pos w Z X Y Lz Cz Lx Cx Ly Cy a b wz hZ hX hY hLx hab hb0 hm

end Go.Proofs.YtnajekpckbfcdaaGreatDoor

namespace Go.Proofs.YtnajekpckbfcdaaGreatDoor
open Go.RowKit

/-- How two numbers compare. -/
def ncmp (a b : Nat) : Int := if a < b then -1 else if b < a then 1 else 0
theorem ncmp_lt {a b : Nat} (h : a < b) : ncmp a b = -1 := by rw [ncmp, if_pos h]
theorem ncmp_gt {a b : Nat} (h : b < a) : ncmp a b = 1 := by rw [ncmp, if_neg (by omega), if_pos h]
theorem ncmp_eq (a : Nat) : ncmp a a = 0 := by rw [ncmp, if_neg (by omega), if_neg (by omega)]

theorem drop_succ_getD (xs : List Nat) (k : Nat) (h : k < xs.length) : xs.drop k = xs.getD k 0 :: xs.drop (k + 1) := by
  rw [List.drop_eq_getElem_cons h]; simp [List.getD, h]

/-- Where the words above place k agree, those at k decide. -/
theorem cmp_at (xs ys : List Nat) (k : Nat) (hx : k < xs.length) (hy : k < ys.length) (hxs : ∀ d ∈ xs, d < 18446744073709551616) (hys : ∀ d ∈ ys, d < 18446744073709551616) (hd : xs.drop (k + 1) = ys.drop (k + 1))
    (h : xs.getD k 0 < ys.getD k 0) : val xs < val ys := by
  rw [val_take_drop xs k (by omega), val_take_drop ys k (by omega), drop_succ_getD xs k hx, drop_succ_getD ys k hy, val_cons, val_cons, hd]
  have h1 := val_lt (xs.take k) (fun d hd => hxs d (List.mem_of_mem_take hd))
  rw [List.length_take, Nat.min_eq_left (by omega)] at h1
  have h2 : 18446744073709551616 ^ k * (xs.getD k 0 + 1) ≤ 18446744073709551616 ^ k * (ys.getD k 0) := Nat.mul_le_mul_left _ h
  rw [Nat.mul_add, Nat.mul_add]
  rw [Nat.mul_add] at h2
  omega

set_option maxHeartbeats 4000000 in
theorem cmp_any (w : World) (X Y : Option Addr) (Lx Cx Ly Cy a b : Nat) (hX : NatS w X Lx Cx (wo a)) (hY : NatS w Y Ly Cy (wo b)) (hLx : Lx ≤ 1000) (hLy : Ly ≤ 1000) :
    Calls Tryz.prog 104 #[.slice X Lx Cx, .slice Y Ly Cy] w fun e w' => e = .returned (.int .i64 (ncmp a b)) ∧ ∃ n, w' = w.drewN n := by
  have hm1 := @wo_len_mono a b
  have hm2 := @wo_len_mono b a
  rw [hX.1, hY.1] at hm1 hm2
  have HLX := hide hX.1
  have HLY := hide hY.1
  rcases Nat.lt_trichotomy Lx Ly with h | h | h
  · have hab : a < b := by
      rcases Nat.lt_or_ge a b with h1 | h1
      · exact h1
      · have := hm1 h1; omega
    rw [ncmp_lt hab]
    clear hm1 hm2
    have t1 : ((Lx : Int) != (Ly : Int)) = true := by rw [bne_iff_ne]; omega
    have t1b : ((Lx : Int) == (Ly : Int)) = false := beq_eq_false_iff_ne.2 (by omega)
    have t2 : (Lx : Int) < (Ly : Int) := by omega
    go_enter Tryz.func104, Tryz.ntmps104
    go_wp2
    go_ret
    exact ⟨rfl, 0, rfl⟩
  · subst h
    by_cases h0 : Lx = 0
    · subst h0
      have ha : a = 0 := by
        rcases Nat.eq_zero_or_pos a with h | h
        · exact h
        · have := wo_len_pos (by omega : a ≠ 0); rw [HLX.out] at this; omega
      have hb : b = 0 := by
        rcases Nat.eq_zero_or_pos b with h | h
        · exact h
        · have := wo_len_pos (by omega : b ≠ 0); rw [HLY.out] at this; omega
      subst ha
      subst hb
      rw [ncmp_eq]
      clear hm1 hm2
      go_enter Tryz.func104, Tryz.ntmps104
      go_wp2
      go_ret
      exact ⟨rfl, 0, rfl⟩
    · obtain ⟨bx, cx, rfl, hbx, hcx, hwx⟩ := hX.row (by have := hX.2.2.1; omega)
      obtain ⟨by', cy, rfl, hby, hcy, hwy⟩ := hY.row (by have := hY.2.2.1; omega)
      have HXC := hide hX.cells
      have HYC := hide hY.cells
      clear hm1 hm2
      have t1 : ((Lx : Int) == 0) = false := beq_eq_false_iff_ne.2 (by omega)
      have t2 : wrap64 ((Lx : Int) - 1) = ((Lx - 1 : Nat) : Int) := by unfold wrap64; omega
      have t3 : (Lx : Int) - 1 = ((Lx - 1 : Nat) : Int) := by omega
      obtain ⟨m, hm⟩ : ∃ m, Lx = m + 1 := ⟨Lx - 1, by omega⟩
      subst hm
      simp only [Nat.add_sub_cancel] at t2 t3
      have t4 : (((m : Int) + 1) == 0) = false := beq_eq_false_iff_ne.2 (by omega)
      go_enter Tryz.func104, Tryz.ntmps104
      go_wp2
      go_loopw [7] (fun i wr => ∃ (k q : Nat), k ≤ m ∧ i = .int .i64 k ∧ Hid ((wo a).drop (k + 1) = (wo b).drop (k + 1)) ∧ wr = w.drewN q) (fun i _ => (intOf i).toNat)
      case atStart =>
        refine ⟨m, 0, Nat.le_refl _, by go_num, ?_, rfl⟩
        show _ = _
        rw [List.drop_of_length_le (by rw [HLX.out]; exact Nat.le_refl _), List.drop_of_length_le (by rw [HLY.out]; exact Nat.le_refl _)]
      case round =>
        obtain ⟨k, q, hk, rfl, hd, rfl⟩ := hrel
        have cxk := HXC.out k (by omega)
        have cyk := HYC.out k (by omega)
        obtain ⟨xk, hxk⟩ : ∃ xk, (wo a).getD k 0 = xk := ⟨_, rfl⟩
        obtain ⟨yk, hyk⟩ : ∃ yk, (wo b).getD k 0 = yk := ⟨_, rfl⟩
        rw [hxk] at cxk
        rw [hyk] at cyk
        have HXK := hide hxk
        have HYK := hide hyk
        clear hxk hyk
        have hkx : k < (wo a).length := by rw [HLX.out]; omega
        have hky : k < (wo b).length := by rw [HLY.out]; omega
        have b0 : (0 : Int) ≤ (k : Int) := Int.natCast_nonneg _
        have b1 : (k : Int) < (m : Int) + 1 := by omega
        by_cases hxy : xk = yk
        · subst hxy
          by_cases hk0 : k = 0
          · subst hk0
            have hab : a = b := by
              have h1 := drop_succ_getD (wo a) 0 hkx
              have h2 := drop_succ_getD (wo b) 0 hky
              rw [HXK.out, hd.out] at h1
              rw [HYK.out] at h2
              rw [← val_wo a, ← val_wo b, ← List.drop_zero (l := wo a), ← List.drop_zero (l := wo b), h1, h2]
            have HAB := hide hab
            clear hab
            have e0 : decide (xk < xk) = false := by simp
            go_wp2_with fail
            go_quiet (fail)
            go_wp2_with fail
            go_quiet (fail)
            go_wp2_with fail
            go_quiet (fail)
            go_wp2
            go_ret
            refine ⟨ret_int (by rw [HAB.out, ncmp_eq]), ?_⟩; simp only [World.drewN_drewN]; exact ⟨_, rfl⟩
          · obtain ⟨j, hj⟩ : ∃ j, k = j + 1 := ⟨k - 1, by omega⟩
            subst hj
            have p0 : 0 < j + 1 := by omega
            have p1 : (0 : Int) < (j : Int) + 1 := by omega
            go_wp2_with fail
            go_quiet (fail)
            go_wp2
            go_roundw
            case rel =>
              refine ⟨j, _, by omega, by go_num, ?_, rfl⟩
              show _ = _
              rw [drop_succ_getD (wo a) (j + 1) hkx, drop_succ_getD (wo b) (j + 1) hky, HXK.out, HYK.out, hd.out]
            case measure => simp [intOf]
        · have e1 : ((xk : Int) == (yk : Int)) = false := beq_eq_false_iff_ne.2 (by omega)
          have e2 : ¬ (xk : Int) = (yk : Int) := by omega
          rcases (by omega : xk < yk ∨ yk < xk) with hl | hl
          · have hab : a < b := by
              have := cmp_at (wo a) (wo b) k hkx hky (wo_lt a) (wo_lt b) hd.out (by rw [HXK.out, HYK.out]; exact hl)
              rw [val_wo, val_wo] at this
              exact this
            have l1 : (xk : Int) < (yk : Int) := by omega
            have l3 : decide (xk < yk) = true := by simp; omega
            have HAB := hide hab
            clear hab
            by_cases hk0 : k = 0
            · subst hk0
              go_wp2_with fail
              go_quiet (fail)
              go_wp2_with fail
              go_quiet (fail)
              go_wp2
              go_ret
              refine ⟨ret_int (by rw [ncmp_lt HAB.out]), ?_⟩; simp only [World.drewN_drewN]; exact ⟨_, rfl⟩
            · have p0 : 0 < k := by omega
              have p1 : (0 : Int) < (k : Int) := by omega
              go_wp2_with fail
              go_quiet (fail)
              go_wp2_with fail
              go_quiet (fail)
              go_wp2
              go_ret
              refine ⟨ret_int (by rw [ncmp_lt HAB.out]), ?_⟩; simp only [World.drewN_drewN]; exact ⟨_, rfl⟩
          · have hab : b < a := by
              have := cmp_at (wo b) (wo a) k hky hkx (wo_lt b) (wo_lt a) hd.out.symm (by rw [HXK.out, HYK.out]; exact hl)
              rw [val_wo, val_wo] at this
              exact this
            have l1 : (yk : Int) < (xk : Int) := by omega
            have l2 : ¬ (xk : Int) < (yk : Int) := by omega
            have l3 : decide (xk < yk) = false := by simp; omega
            have l4 : decide (yk < xk) = true := by simp; omega
            have HAB := hide hab
            clear hab
            by_cases hk0 : k = 0
            · subst hk0
              go_wp2_with fail
              go_quiet (fail)
              go_wp2_with fail
              go_quiet (fail)
              go_wp2_with fail
              go_quiet (fail)
              go_wp2
              go_ret
              refine ⟨ret_int (by rw [ncmp_gt HAB.out]), ?_⟩; simp only [World.drewN_drewN]; exact ⟨_, rfl⟩
            · have p0 : 0 < k := by omega
              have p1 : (0 : Int) < (k : Int) := by omega
              go_wp2_with fail
              go_quiet (fail)
              go_wp2_with fail
              go_quiet (fail)
              go_wp2_with fail
              go_quiet (fail)
              go_wp2
              go_ret
              refine ⟨ret_int (by rw [ncmp_gt HAB.out]), ?_⟩; simp only [World.drewN_drewN]; exact ⟨_, rfl⟩
  · have hab : b < a := by
      rcases Nat.lt_or_ge b a with h1 | h1
      · exact h1
      · have := hm2 h1; omega
    rw [ncmp_gt hab]
    clear hm1 hm2
    have t1 : ((Lx : Int) != (Ly : Int)) = true := by rw [bne_iff_ne]; omega
    have t1b : ((Lx : Int) == (Ly : Int)) = false := beq_eq_false_iff_ne.2 (by omega)
    have t2 : ¬ (Lx : Int) < (Ly : Int) := by omega
    have t3 : (Ly : Int) < (Lx : Int) := by omega
    go_enter Tryz.func104, Tryz.ntmps104
    go_wp2
    go_ret
    exact ⟨rfl, 0, rfl⟩
end Go.Proofs.YtnajekpckbfcdaaGreatDoor

namespace Go.Proofs.YtnajekpckbfcdaaGreatDoor
open Go.RowKit

theorem zeroCells_u64 (n : Nat) : (Builtin.zeroCells #[(.int .u64 0 : Value)] n).toList = (List.replicate n 0).map W64 := by
  apply List.ext_getElem?
  intro i
  simp only [Builtin.zeroCells, Array.toList_map, List.getElem?_map]
  by_cases h : i < n
  · simp [h, Nat.mod_one]
  · simp [h]

theorem run_clear_W (w : World) (g o n c : Nat) (cur : Array Value) (ty : TypeId) (hg : Blk w g 161 cur) (hn : 0 < n) (hfit : o + n ≤ cur.size) :
    (Builtin.clear_ #[131] ty #[.slice (some ⟨g, o, none⟩) n c]).run Tryz.prog w = .ok (.tuple #[]) (w.setRow g (putW cur o (List.replicate n 0))) := by
  have h1 : ∀ v ∈ (List.replicate n 0).map W64, v.oneCell' = true := by
    intro v hv
    obtain ⟨d, _, rfl⟩ := List.mem_map.1 hv
    rfl
  have hst := run_storeCells_at Tryz.prog g o 161 ((List.replicate n 0).map W64) 0 cur w hg (by simpa using hfit) h1
  rw [Nat.add_zero, List.append_assoc, setRow_putW _ _ _ (by simpa using hfit)] at hst
  obtain ⟨m, rfl⟩ : ∃ m, n = m + 1 := ⟨n - 1, by omega⟩
  have hz := Tryz.zeroValue161 w
  have hzc := zeroCells_u64 (m + 1)
  simp only [Builtin.clear_]
  simp [run_underlying Tryz.underlying131, hz, Value.cells, -List.map_replicate]
  rw [hzc, hst]
  rfl

theorem wpList_clear_W {w : World} {ops : Array Oper} {rest : List Oper} {o : Oper} {a : Act} {Q : Exit → Act → World → Prop} (hgd : o.guard = none) (s : Operand)
    (ho : o.op = .call { callee := .builtin .clear, args := #[s], argTypes := #[131] })
    (g off n c : Nat) (hs : a.eval s = .slice (some ⟨g, off, none⟩) n c) (cur : Array Value) (hg : Blk w g 161 cur) (hn : 0 < n) (hfit : off + n ≤ cur.size)
    (h : ∀ w', Blk w' g 161 (putW cur off (List.replicate n 0)) → Upd [g] w w' → wpList Tryz.prog ops Q rest (a.put o.dst (.tuple #[])) w') : wpList Tryz.prog ops Q (o :: rest) a w := by
  refine wpList_plain hgd fun K hK => ?_
  have hrun := run_clear_W w g off n c cur o.type hg hn hfit
  have h2 := h (w.setRow g (putW cur off (List.replicate n 0))) (by unfold Blk at hg ⊢; simp [World.setRow, Array.getElem?_modify, hg]) (setRow_upd _ _ _)
  unfold Oper.wp
  simp [execOp, ho, resolve, invoke, builtin, hs, hrun, Result.andThen]
  exact hK _ _ h2

theorem Wd.set_mid {cs : Array Value} {A M : List Nat} {p : Nat} (h : Wd cs 0 A) (hl : p + M.length ≤ A.length) (hs : A.length ≤ cs.size) : Wd (putW cs p M) 0 (A.take p ++ M ++ A.drop (p + M.length)) := by
  have h1 : Wd (putW cs p M) 0 (A.take p) := (h.take p).of_put (.inl (by rw [List.length_take]; omega))
  have h2 : Wd (putW cs p M) p M := Wd.put _ _ _ (by omega)
  have h3 : Wd (putW cs p M) (0 + (p + M.length)) (A.drop (p + M.length)) := (h.drop (p + M.length)).of_put (.inr (by omega))
  refine (h1.app ?_).app ?_
  · rw [List.length_take, Nat.min_eq_left (by omega), Nat.zero_add]; exact h2
  · rw [List.length_append, List.length_take, Nat.min_eq_left (by omega)]
    exact h3

theorem mul_step (A xs out' : List Nat) (k n d c T : Nat) (hA : A.length = n + k) (ho : out'.length = n) (hv : val A = T) (h : val out' + 18446744073709551616 ^ n * c = val (A.drop k) + val xs * d + 0) :
    val (A.take k ++ out' ++ [c]) = T + val xs * (18446744073709551616 ^ k * d) := by
  have e1 := val_take_drop A k (by omega)
  rw [val_snoc, val_append, List.length_append, List.length_take, Nat.min_eq_left (by omega), ho, Nat.pow_add, Nat.mul_assoc, Nat.add_assoc, ← Nat.mul_add, h, ← hv, e1]
  grind

set_option maxHeartbeats 4000000 in
theorem basicMul_any (w : World) (g bx by' C Cx Cy Lx Ly : Nat) (cs cx cy : Array Value) (xs ys : List Nat) (hz : Blk w g 161 cs) (hcs : cs.size = C) (hC : Lx + Ly ≤ C) (hC2 : C ≤ 100000)
    (hbx : Blk w bx 161 cx) (hby : Blk w by' 161 cy) (hxs : Wd cx 0 xs) (hys : Wd cy 0 ys) (hlx : xs.length = Lx) (hly : ys.length = Ly) (hx0 : 0 < Lx) (hy0 : 0 < Ly) (hxC : Lx ≤ Cx) (hyC : Ly ≤ Cy) (hCx : Cx ≤ 100000) (hCy : Cy ≤ 100000)
    (hxl : ∀ d ∈ xs, d < 18446744073709551616) (hyl : ∀ d ∈ ys, d < 18446744073709551616) (hgx : bx ≠ g) (hgy : by' ≠ g) :
    Calls Tryz.prog 184 #[.slice (some ⟨g, 0, none⟩) (Lx + Ly) C, .slice (some ⟨bx, 0, none⟩) Lx Cx, .slice (some ⟨by', 0, none⟩) Ly Cy] w fun e w' =>
      e = .returned (.tuple #[]) ∧ ∃ Z cs', Z.length = Lx + Ly ∧ (∀ d ∈ Z, d < 18446744073709551616) ∧ val Z = val xs * val ys ∧ Blk w' g 161 cs' ∧ cs'.size = C ∧ Wd cs' 0 Z ∧ Upd [g] w w' := by
  have HLX := hide hlx
  have HLY := hide hly
  have HCS := hide hcs
  clear hlx hly hcs
  have hX := blk_cells hbx hxs
  have hY := blk_cells hby hys
  rw [HLX.out] at hX
  rw [HLY.out] at hY
  have HX := hide hX
  have HY := hide hY
  clear hX hY
  have p1 : ¬ C = 0 := by omega
  have p2 : Lx + Ly ≤ C := by omega
  have p3 : (Lx : Int) + (Ly : Int) ≤ (C : Int) := by omega
  have p4 : wrap64 ((Lx : Int) + (Ly : Int)) = (Lx : Int) + (Ly : Int) := by unfold wrap64; omega
  have p5 : ((Lx : Int) + (Ly : Int)).toNat = Lx + Ly := by omega
  go_enter Tryz.func184, Tryz.ntmps184
  go_wp2_with (with_reducible refine wpList_clear_W rfl (.tmp 14) rfl g 0 (Lx + Ly) C rfl cs hz ?h1 ?h2 ?_)
  case h1 => omega
  case h2 => rw [HCS.out]; omega
  intro w1 hb1 hu1
  go_wp2
  go_loopw [17] (fun i wr => ∃ (k : Nat) (A : List Nat) (csr : Array Value), k ≤ Ly ∧ i = .int .i64 k ∧ Hid (A.length = Lx + k) ∧ Hid (∀ d ∈ A, d < 18446744073709551616) ∧ Hid (val A = val xs * val (ys.take k)) ∧
      Blk wr g 161 csr ∧ Hid (csr.size = C) ∧ Hid (Wd csr 0 (A ++ List.replicate (Ly - k) 0)) ∧ Upd [g] w wr)
    (fun i _ => Ly - (intOf i).toNat)
  case atStart =>
    refine ⟨0, List.replicate Lx 0, _, Nat.zero_le _, rfl, by simp [Hid], ?_, by simp [Hid, val, val_zeros], hb1, ?_, ?_, hu1⟩
    · show ∀ d ∈ _, _
      intro d hd
      rw [List.eq_of_mem_replicate hd]; omega
    · show _ = _
      rw [putW_size, HCS.out]
    · show Wd _ _ _
      rw [List.replicate_append_replicate, Nat.sub_zero]
      exact Wd.put _ _ _ (by rw [List.length_replicate, HCS.out]; omega)
  case round =>
    clear hb1 hu1
    obtain ⟨k, A, csr, hk, rfl, hal, has, hv, hbr, hcr, hwr, hu⟩ := hrel
    by_cases hlt : k < Ly
    · have cyk := hu.cell (p := ⟨by', k, none⟩) hby.lt (by simpa using hgy)
      rw [HY.out k hlt] at cyk
      obtain ⟨d, hd⟩ : ∃ d, ys.getD k 0 = d := ⟨_, rfl⟩
      rw [hd] at cyk
      have hdl := getD_lt ys hyl k
      rw [hd] at hdl
      have tk : val (ys.take (k + 1)) = val (ys.take k) + 18446744073709551616 ^ k * d := by
        rw [take_succ_getD ys k (by rw [HLY.out]; exact hlt), hd, val_snoc, List.length_take, HLY.out, Nat.min_eq_left (by omega)]
      have TK := hide tk
      clear tk hd
      have b0 : (0 : Int) ≤ (k : Int) := Int.natCast_nonneg _
      have b1 : (k : Int) < (Ly : Int) := by omega
      by_cases hd0 : d = 0
      · subst hd0
        go_wp2
        go_roundw
        case rel =>
          refine ⟨k + 1, A ++ [0], csr, by omega, by go_num, ?_, mem_snoc has.out (by omega), ?_, hbr, hcr, ?_, hu⟩
          · show _ = _
            rw [List.length_append, hal.out]; rfl
          · show _ = _
            rw [val_snoc, hv.out, TK.out]; simp
          · show Wd _ _ _
            have e : A ++ [0] ++ List.replicate (Ly - (k + 1)) 0 = A ++ List.replicate (Ly - k) 0 := by
              rw [List.append_assoc, List.singleton_append, ← List.replicate_succ, show Ly - (k + 1) + 1 = Ly - k from by omega]
            rw [e]; exact hwr.out
        case measure => simp [intOf]; omega
      · have e1 : ((d : Int) != 0) = true := by rw [bne_iff_ne]; omega
        have e2 : ((d : Int) == 0) = false := beq_eq_false_iff_ne.2 (by omega)
        have hlenZ : (A ++ List.replicate (Ly - k) 0).length = Lx + Ly := by rw [List.length_append, hal.out, List.length_replicate]; omega
        have HLZ := hide hlenZ
        clear hlenZ
        have hXr : ∀ i, i < Lx → wr.cell? ⟨bx, 0 + i, none⟩ = some (W64 (xs.getD i 0)) := fun i hi => by
          have := HX.out i hi
          rw [Nat.zero_add, ← this]
          exact hu.cell (p := ⟨bx, i, none⟩) hbx.lt (by simpa using hgx)
        have hZr : ∀ i, i < Lx → wr.cell? ⟨g, k + i, none⟩ = some (W64 ((A.drop k).getD i 0)) := fun i hi => by
          have := hwr.out.get (i := k + i) (by rw [HLZ.out]; omega)
          rw [Nat.zero_add] at this
          rw [hbr.at_ this, getD_drop]
          simp only [List.getD]
          rw [List.getElem?_append_left (by rw [hal.out]; omega)]
        have hC := addMulVVWW_any wr.drew g k g k bx 0 Lx (C - k) (C - k) Cx d 0 csr (A.drop k) xs (by omega) (by rw [List.length_drop, hal.out]; omega) HLX.out hbr (by rw [hcr.out]; omega) hZr (fun _ => Nat.le_refl _)
          hXr (fun h => absurd h hgx) (fun x hx => has.out x (List.mem_of_mem_drop hx)) hxl hdl (by omega)
        have HC := hide hC
        clear hC hXr hZr
        have q1 : ¬ C = k := by omega
        have q2 : (k : Int) ≤ (k : Int) + (Lx : Int) := by omega
        have q3 : (k : Int) + (Lx : Int) ≤ (C : Int) := by omega
        have q4 : IntKind.i64.wrap ((k : Int) + (Lx : Int)) = (k : Int) + (Lx : Int) := IntWalk.i64_in _ (by omega)
        have q5 : ((k : Int) + (Lx : Int)).toNat = k + Lx := by omega
        have q6 : IntKind.i64.wrap ((Lx : Int) + (k : Int)) = (Lx : Int) + (k : Int) := IntWalk.i64_in _ (by omega)
        have q7 : ((Lx : Int) + (k : Int)).toNat = Lx + k := by omega
        have q8 : (0 : Int) ≤ (Lx : Int) + (k : Int) := by omega
        have q9 : (Lx : Int) + (k : Int) < (Lx : Int) + (Ly : Int) := by omega
        have q10 : (0 : Int) ≤ (k : Int) + (Lx : Int) := by omega
        have q11 : k + Lx - k = Lx := by omega
        have hszA : ∀ out, Lx + k < (putW csr k out).size := fun out => by rw [putW_size, hcr.out]; omega
        have HSZ := hide hszA
        clear hszA
        go_wp2_with fail
        go_region_held3 (fun w' => True) (trivial) (first | (go_at_call 225; refine HC.out.mono ?_; rintro e w2 ⟨c, out, rfl, h1, h2, h3, h4, h5, h6⟩; have H2 := hide h2; have H3 := hide h3; have H4 := hide h4; clear h2 h3 h4; have cz := h5.at_ (Array.getElem?_eq_getElem (HSZ.out out)); have fz := h5.frozen (Lx + k)))
        have hput : (putW csr k out).setIfInBounds (Lx + k) (W64 c) = putW csr k (out ++ [c]) := by rw [putW_snoc, H2.out, Nat.add_comm]
        have hb7 := h5.set_ (Lx + k) (W64 c)
        rw [hput] at hb7
        clear hput
        have hu7 : Upd [g] w (w2.setCell ⟨g, Lx + k, none⟩ (W64 c)) := (hu.trans h6.undrew (fun k hk _ => hk)).setCell (by simp) _
        have hol : (out ++ [c]).length = Lx + 1 := by rw [List.length_append, H2.out]; rfl
        have HOL := hide hol
        clear hol
        go_wp2
        go_roundw
        case rel =>
          refine ⟨k + 1, A.take k ++ out ++ [c], _, by omega, by go_num, ?_, ?_, ?_, hb7, ?_, ?_, hu7⟩
          · show _ = _
            rw [List.length_append, List.length_append, List.length_take, hal.out, H2.out, Nat.min_eq_left (by omega)]; simp; omega
          · exact mem_snoc (mem_app (fun x hx => has.out x (List.mem_of_mem_take hx)) H3.out) h1
          · show _ = _
            rw [mul_step A xs out k Lx d c _ hal.out H2.out hv.out H4.out, TK.out, Nat.mul_add]
          · show _ = _
            rw [putW_size, hcr.out]
          · show Wd _ _ _
            have hm := hwr.out.set_mid (M := out ++ [c]) (p := k) (by rw [HOL.out, HLZ.out]; omega) (by rw [HLZ.out, hcr.out]; omega)
            have e : (A ++ List.replicate (Ly - k) 0).take k ++ (out ++ [c]) ++ (A ++ List.replicate (Ly - k) 0).drop (k + (out ++ [c]).length) = A.take k ++ out ++ [c] ++ List.replicate (Ly - (k + 1)) 0 := by
              rw [HOL.out, List.take_append_of_le_length (by rw [hal.out]; omega), List.drop_append, List.drop_of_length_le (by rw [hal.out]; omega), hal.out, List.nil_append, List.drop_replicate,
                show Ly - k - (k + (Lx + 1) - (Lx + k)) = Ly - (k + 1) from by omega, ← List.append_assoc]
            rw [e] at hm
            exact hm
        case measure => simp [intOf]; omega
    · obtain rfl : k = Ly := by omega
      go_wp2
      go_end0
      refine ⟨rfl, A, csr, hal.out, has.out, ?_, hbr, hcr.out, ?_, hu⟩
      · rw [hv.out, List.take_of_length_le (by rw [HLY.out]; exact Nat.le_refl _)]
      · have := hwr.out
        simpa using this
end Go.Proofs.YtnajekpckbfcdaaGreatDoor

namespace Go.Proofs.YtnajekpckbfcdaaGreatDoor
open Go.RowKit

/-- The package-level numbers that are read, at their places. -/
structure Nums (w : World) : Prop where
  size : 15 ≤ w.heap.size
  sq : w.cell? ⟨4, 0, none⟩ = some (.int .i64 12)
  ks : w.cell? ⟨5, 0, none⟩ = some (.int .i64 80)

theorem Nums.upd {S : List Nat} {w w' : World} (h : Nums w) (hu : Upd S w w') (hs : ∀ k ∈ S, 15 ≤ k) : Nums w' :=
  ⟨Nat.le_trans h.size hu.size, (hu.cell (p := ⟨4, 0, none⟩) (by have := h.size; show 4 < _; omega) (fun hm => by have := hs _ hm; simp at this)).trans h.sq,
    (hu.cell (p := ⟨5, 0, none⟩) (by have := h.size; show 5 < _; omega) (fun hm => by have := hs _ hm; simp at this)).trans h.ks⟩

theorem NatS.zero {w : World} {Z : Option Addr} {L C : Nat} {ws : List Nat} (h : NatS w Z L C ws) : NatS w Z 0 C (wo 0) := by
  obtain ⟨h1, h2, h3, h4, h5⟩ := h
  rw [wo_zero]
  refine ⟨rfl, by simp, Nat.zero_le _, h4, ?_⟩
  rcases h5 with ⟨h6, h7, h8⟩ | ⟨b, cs, h6, h7, h8, h9, h10⟩
  · exact .inl ⟨h6, rfl, h8⟩
  · exact .inr ⟨b, cs, h6, h7, h8, h9, Wd.nil _ _⟩

theorem wo_len_one {n : Nat} (h : (wo n).length = 1) : wo n = [n] ∧ n < 18446744073709551616 ∧ n ≠ 0 := by
  have h0 : n ≠ 0 := by rintro rfl; rw [wo_zero] at h; simp at h
  have h1 := val_lt (wo n) (wo_lt n)
  rw [val_wo, h, Nat.pow_one] at h1
  exact ⟨wo_one h0 h1, h1, h0⟩

set_option maxHeartbeats 4000000 in
theorem sqr_one (w : World) (Z X : Option Addr) (S : Value) (Lz Cz Cx n : Nat) (wz : List Nat) (hZ : NatS w Z Lz Cz wz) (hX : NatS w X 1 Cx (wo n)) :
    Calls Tryz.prog 136 #[.slice Z Lz Cz, S, .slice X 1 Cx] w (NatRes w Z (n * n)) := by
  obtain ⟨hn, hnl, hn0⟩ := wo_len_one hX.1
  obtain ⟨bx, cx, rfl, hbx, hcx, hwx⟩ := hX.row (by have := hX.2.2.1; omega)
  have cx0 := hX.cells 0 (by omega)
  rw [hn] at cx0
  simp only [List.getD_cons_zero] at cx0
  have HN := hide hn
  clear hn
  go_enter Tryz.func136, Tryz.ntmps136
  go_wp2_with fail
  refine (make_any w Z Lz Cz 2 wz (by omega) hZ).mono ?_
  rintro e w1 ⟨A', C', rfl, hu, hC', hC2, hr1⟩
  rcases hr1 with ⟨_, h0, _⟩ | ⟨g, cs, rfl, hb, hcs, hC0, hbz⟩
  · omega
  have HCS := hide hcs
  clear hcs
  go_wp2_with fail
  refine (mulWW_any n n hnl hnl _).mono ?_
  rintro e w2 ⟨h, l, rfl, rfl, he, hl⟩
  have HE := hide he
  clear he
  have hs0 : 0 < cs.size := by rw [HCS.out]; omega
  have hs1 : 1 < cs.size := by rw [HCS.out]; omega
  have cz0 := hb.at_ (Array.getElem?_eq_getElem hs0)
  have cz1 := hb.at_ (Array.getElem?_eq_getElem hs1)
  have fz0 := hb.frozen 0
  have fz1 := hb.frozen 1
  have hh : h < 18446744073709551616 := by
    have h1 := mul_le64 n n hnl hnl
    have := HE.out
    omega
  go_wp2_with fail
  have hb5 := (hb.set_ 1 (W64 h)).set_ 0 (W64 l)
  have hw5 : Wd ((cs.setIfInBounds 1 (W64 h)).setIfInBounds 0 (W64 l)) 0 [l, h] := fun i hi => by
    have hi2 : i < 2 := by simpa using hi
    rcases (by omega : i = 0 ∨ i = 1) with rfl | rfl
    · rw [Array.getElem?_setIfInBounds_self_of_lt (by rw [Array.size_setIfInBounds]; exact hs0)]; rfl
    · rw [Nat.zero_add, Array.getElem?_setIfInBounds_ne (by omega), Array.getElem?_setIfInBounds_self_of_lt hs1]; rfl
  have hnb := norm_blk _ g 2 C' _ [l, h] rfl hb5 hw5 (by intro d hd; simp at hd; rcases hd with rfl | rfl <;> assumption) (by rw [Array.size_setIfInBounds, Array.size_setIfInBounds]; exact HCS.out) hC' hC0 hC2
  have hv : val [l, h] = n * n := by
    have := HE.out
    simp only [val]
    omega
  rw [hv] at hnb
  have HNB := hide hnb
  clear hnb hv
  refine HNB.out.mono ?_
  rintro e w4 ⟨k, rfl, hS, rfl⟩
  go_wp2
  go_ret
  refine ⟨_, k, C', rfl, hS, ?_, by simpa [bof] using hbz⟩
  exact hu.into (((Upd.refl [g] _).setCell (by simp) _).setCell (by simp) _) (by simp) hbz

set_option maxHeartbeats 4000000 in
theorem sqr_big (w : World) (Z X : Option Addr) (S : Value) (Lz Cz Lx Cx n : Nat) (wz : List Nat) (hZ : NatS w Z Lz Cz wz) (hX : NatS w X Lx Cx (wo n)) (h2 : 2 ≤ Lx) (h11 : Lx ≤ 11) (hne : ∀ b ∈ bof Z, b ∉ bof X) (hN : Nums w) :
    Calls Tryz.prog 136 #[.slice Z Lz Cz, S, .slice X Lx Cx] w (NatRes w Z (n * n)) := by
  have HL := hide hX.1
  have hCx1 := hX.2.2.1
  have hCx2 := hX.2.2.2.1
  have t1 : ((Lx : Int) == 0) = false := beq_eq_false_iff_ne.2 (by omega)
  have t2 : ((Lx : Int) == 1) = false := beq_eq_false_iff_ne.2 (by omega)
  have ha := alias_no w Z X Lz Cz Lx Cx wz (wo n) hZ hX hne
  have HA := hide ha
  clear ha
  go_enter Tryz.func136, Tryz.ntmps136
  go_wp2_with fail
  refine HA.out.mono ?_
  rintro e w1 ⟨rfl, q, rfl⟩
  have hZ1 := hZ.drewN q
  have hX1 := hX.drewN q
  have t3 : wrap64 (2 * (Lx : Int)) = 2 * (Lx : Int) := by unfold wrap64; omega
  have hmk := make_any (w.drewN q) Z Lz Cz (2 * Lx) wz (by omega) hZ1
  have ec : ((2 * Lx : Nat) : Int) = 2 * (Lx : Int) := by omega
  rw [ec] at hmk
  have HMK := hide hmk
  clear hmk ec
  go_wp2_with fail
  refine HMK.out.mono ?_
  rintro e w2 ⟨A', C', rfl, hu, hC', hC2, hr1⟩
  have hN2 := (hN.upd (S := []) ((Upd.refl [] w).drewN q) (by simp)).upd (w' := w2) (S := []) hu (by simp)
  have n4 := hN2.sq
  have n5 := hN2.ks
  rcases hr1 with ⟨_, h0, _⟩ | ⟨g, cs, rfl, hb, hcs, hC0, hbz⟩
  · omega
  have HCS := hide hcs
  clear hcs
  have hX2 := hX1.upd hu (by simp)
  obtain ⟨bx, cx, rfl, hbx, hcx, hwx⟩ := hX2.row (by omega)
  have hgx : bx ≠ g := by
    rintro rfl
    rcases hbz with h | h
    · exact hne _ h (by simp [bof])
    · have := hX1.lt bx (by simp [bof])
      omega
  have l1 : (Lx : Int) < 12 := by omega
  have l2 : (Lx : Int) < 80 := by omega
  have l3 : Lx < 12 := by omega
  have l4 : Lx < 80 := by omega
  have hbm := basicMul_any w2 g bx bx C' Cx Cx Lx Lx cs cx cx (wo n) (wo n) hb HCS.out (by omega) hC2 hbx hbx hwx hwx HL.out HL.out (by omega) (by omega) hCx1 hCx1 hCx2 hCx2 (wo_lt n) (wo_lt n) hgx hgx
  have e2 : Lx + Lx = 2 * Lx := by omega
  rw [e2] at hbm
  have HBM := hide hbm
  clear hbm e2
  go_wp2_with fail
  refine HBM.out.mono ?_
  rintro e w3 ⟨rfl, Zs, cs', g1, g2, g3, g4, g5, g6, g7⟩
  rw [val_wo] at g3
  have hnb := norm_blk w3 g (2 * Lx) C' cs' Zs g1 g4 g6 g2 g5 (by omega) hC0 hC2
  rw [g3] at hnb
  have HNB := hide hnb
  clear hnb g3 g1 g5
  go_wp2_with fail
  refine HNB.out.mono ?_
  rintro e w4 ⟨k, rfl, hS, rfl⟩
  go_wp2
  go_ret
  refine ⟨_, k, C', rfl, hS, ?_, by simpa [bof] using hbz⟩
  exact Upd.undrewN (hu.into g7 (by simp) hbz)

/-- sqr: z = x * x, x in fewer than 12 words, in another row than z. -/
theorem sqr_any (w : World) (Z X : Option Addr) (S : Value) (Lz Cz Lx Cx n : Nat) (wz : List Nat) (hZ : NatS w Z Lz Cz wz) (hX : NatS w X Lx Cx (wo n)) (h11 : Lx ≤ 11) (hne : ∀ b ∈ bof Z, b ∉ bof X) (hN : Nums w) :
    Calls Tryz.prog 136 #[.slice Z Lz Cz, S, .slice X Lx Cx] w (NatRes w Z (n * n)) := by
  rcases (by omega : Lx = 0 ∨ Lx = 1 ∨ 2 ≤ Lx) with rfl | rfl | h2
  · have hn : n = 0 := by
      rcases Nat.eq_zero_or_pos n with h | h
      · exact h
      · have := wo_len_pos (by omega : n ≠ 0); rw [hX.1] at this; omega
    subst hn
    have hCz := hZ.2.2.2.1
    go_enter Tryz.func136, Tryz.ntmps136
    go_wp2
    go_ret
    exact ⟨Z, 0, Cz, rfl, hZ.zero, Upd.refl _ _, fun b hb => .inl hb⟩
  · exact sqr_one w Z X S Lz Cz Cx n wz hZ hX
  · exact sqr_big w Z X S Lz Cz Lx Cx n wz hZ hX h2 h11 hne hN

/-- mul: z = x * y, y one word, x no shorter. -/
theorem mul_one (w : World) (Z X Y : Option Addr) (S : Value) (Lz Cz Lx Cx Cy n y : Nat) (wz : List Nat) (hZ : NatS w Z Lz Cz wz) (hX : NatS w X Lx Cx (wo n)) (hY : NatS w Y 1 Cy (wo y)) (h1 : 1 ≤ Lx) (hL : Lx ≤ 1000) :
    Calls Tryz.prog 137 #[.slice Z Lz Cz, S, .slice X Lx Cx, .slice Y 1 Cy] w (NatRes w Z (n * y)) := by
  obtain ⟨hy, hyl, hy0⟩ := wo_len_one hY.1
  obtain ⟨by', cy, rfl, hby, hcy, hwy⟩ := hY.row (by have := hY.2.2.1; omega)
  have cy0 := hY.cells 0 (by omega)
  rw [hy] at cy0
  simp only [List.getD_cons_zero] at cy0
  have hm := mulAddWW_any w Z X Lz Cz Lx Cx n y 0 wz hZ hX hL hyl (by omega)
  rw [Nat.add_zero] at hm
  have HM := hide hm
  clear hm hy
  have t1 : ¬ Lx < 1 := by omega
  have t2 : ¬ (Lx : Int) < 1 := by omega
  have t3 : ((Lx : Int) == 0) = false := beq_eq_false_iff_ne.2 (by omega)
  go_enter Tryz.func137, Tryz.ntmps137
  go_wp2_with fail
  refine HM.out.mono ?_
  rintro e w1 ⟨A', L', C', rfl, g1, g2, g3⟩
  go_wp2
  go_ret
  exact ⟨A', L', C', rfl, g1, g2, g3⟩

theorem mul_zero (w : World) (Z X Y : Option Addr) (S : Value) (Lz Cz Lx Cx Ly Cy n y : Nat) (wz : List Nat) (hZ : NatS w Z Lz Cz wz) (hX : NatS w X Lx Cx (wo n)) (hY : NatS w Y Ly Cy (wo y)) (hL : Ly = 0) :
    Calls Tryz.prog 137 #[.slice Z Lz Cz, S, .slice X Lx Cx, .slice Y Ly Cy] w (NatRes w Z (n * y)) := by
  subst hL
  have hy : y = 0 := by
    rcases Nat.eq_zero_or_pos y with h | h
    · exact h
    · have := wo_len_pos (by omega : y ≠ 0); rw [hY.1] at this; omega
  subst hy
  rw [Nat.mul_zero]
  have hCz := hZ.2.2.2.1
  have t1 : ¬ Lx < 0 := by omega
  have t2 : ¬ (Lx : Int) < 0 := by omega
  by_cases h0 : Lx = 0
  · subst h0
    go_enter Tryz.func137, Tryz.ntmps137
    go_wp2
    go_ret
    exact ⟨Z, 0, Cz, rfl, hZ.zero, Upd.refl _ _, fun b hb => .inl hb⟩
  · have t3 : ((Lx : Int) == 0) = false := beq_eq_false_iff_ne.2 (by omega)
    go_enter Tryz.func137, Tryz.ntmps137
    go_wp2
    go_ret
    exact ⟨Z, 0, Cz, rfl, hZ.zero, Upd.refl _ _, fun b hb => .inl hb⟩

/-- mul: z = x * y, one of the two at most a word. -/
theorem mul_any (w : World) (Z X Y : Option Addr) (S : Value) (Lz Cz Lx Cx Ly Cy n y : Nat) (wz : List Nat) (hZ : NatS w Z Lz Cz wz) (hX : NatS w X Lx Cx (wo n)) (hY : NatS w Y Ly Cy (wo y)) (hL : Lx ≤ 1000) (hM : Ly ≤ 1000) (h1 : Lx ≤ 1 ∨ Ly ≤ 1) :
    Calls Tryz.prog 137 #[.slice Z Lz Cz, S, .slice X Lx Cx, .slice Y Ly Cy] w (NatRes w Z (n * y)) := by
  by_cases hlt : Lx < Ly
  · have hsw : Calls Tryz.prog 137 #[.slice Z Lz Cz, S, .slice Y Ly Cy, .slice X Lx Cx] w (NatRes w Z (y * n)) := by
      rcases (by omega : Lx = 0 ∨ Lx = 1) with rfl | rfl
      · exact mul_zero w Z Y X S Lz Cz Ly Cy 0 Cx y n wz hZ hY hX rfl
      · exact mul_one w Z Y X S Lz Cz Ly Cy Cx y n wz hZ hY hX (by omega) hM
    rw [Nat.mul_comm] at hsw
    have HS := hide hsw
    clear hsw
    have t2 : (Lx : Int) < (Ly : Int) := by omega
    go_enter Tryz.func137, Tryz.ntmps137
    go_wp2_with fail
    refine HS.out.mono ?_
    rintro e w1 ⟨A', L', C', rfl, g1, g2, g3⟩
    go_wp2
    go_ret
    exact ⟨A', L', C', rfl, g1, g2, g3⟩
  · rcases (by omega : Ly = 0 ∨ Ly = 1) with rfl | rfl
    · exact mul_zero w Z X Y S Lz Cz Lx Cx 0 Cy n y wz hZ hX hY rfl
    · exact mul_one w Z X Y S Lz Cz Lx Cx Cy n y wz hZ hX hY (by omega) hL

end Go.Proofs.YtnajekpckbfcdaaGreatDoor
