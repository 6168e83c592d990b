/-
  nat: make, norm, set, the loops over words.
-/
import Derived.Test.YtnajekpckbfcdaaGreatDoorM02
import Derived.Laws.CopyOwn
import Derived.LaidEqlPtr
import Derived.Deep.RegionHeld3
import Derived.Deep.RegionLaw
set_option linter.unusedVariables false
set_option linter.unusedSimpArgs false
namespace Go.Proofs.YtnajekpckbfcdaaGreatDoor
open Go.RowKit
theorem info161 : (Tryz.prog.info? 161).map (fun i => (i.zero, i.size, i.bytes)) = some (some (.int .u64 0), 1, 8) := by kernel_rfl

theorem run_make_rowN {P : Program} (t e : TypeId) (i : TypeInfo) (z : Value) (ht : P.underlying t = some (.slice e)) (hi : P.info? e = some i) (hz : i.zero = some z)
    (kl kc : IntKind) (n c : Nat) (hnc : n ≤ c) (hbytes : i.bytes * c ≤ 281474976710656) (h63 : c ≤ 9223372036854775807) (w : World) :
    (Instr.makeSlice t (.int kl (n : Int)) (.int kc (c : Int))).run P w = .ok (.slice (some ⟨w.heap.size, 0, none⟩) n c) (w.alloc (.cells (madeCells z.cells (c * i.size)) e)) := by
  have hb : (i.bytes : Int) * (c : Int) ≤ 281474976710656 := by
    have h : ((i.bytes * c : Nat) : Int) ≤ 281474976710656 := by omega
    rwa [Int.natCast_mul] at h
  have hr := run_make (P := P) w t e i z ht hi hz kl kc n c (by omega) (by omega) hb (by omega)
  simp only [Int.toNat_natCast] at hr
  exact hr

/-- A row of n words that may be written: z's own, or a new one. -/
def Made (w : World) (A : Option Addr) (n : Nat) (e : Ending) (w' : World) : Prop :=
  ∃ A' C', e = .returned (.slice A' n C') ∧ Upd [] w w' ∧ n ≤ C' ∧ C' ≤ 100000 ∧
    ((A' = none ∧ n = 0 ∧ C' = 0) ∨ ∃ b cs, A' = some ⟨b, 0, none⟩ ∧ Blk w' b 161 cs ∧ cs.size = C' ∧ 0 < C' ∧ (b ∈ bof A ∨ w.heap.size ≤ b))

theorem madeCells_size (z : Value) (n : Nat) (h : z.cells.size = 1) : (madeCells z.cells (n * 1)).size = n := by
  unfold madeCells; simp [h]

theorem make_any (w : World) (A : Option Addr) (L C n : Nat) (ws : List Nat) (hn : n ≤ 90000) (hS : NatS w A L C ws) :
    Calls Tryz.prog 139 #[.slice A L C, .int .i64 n] w (Made w A n) := by
  obtain ⟨h1, h2, h3, h4, h5⟩ := hS
  have H1 := hide h1
  clear h1
  by_cases hfit : n ≤ C
  · go_enter Tryz.func139, Tryz.ntmps139
    go_wp2
    go_ret
    refine ⟨A, C, rfl, Upd.refl _ _, hfit, by omega, ?_⟩
    rcases h5 with ⟨rfl, _, h6⟩ | ⟨b, cs, rfl, hb, h6, h7, h8⟩
    · exact .inl ⟨rfl, by omega, h6⟩
    · exact .inr ⟨b, cs, rfl, hb, h6, h7, .inl (by simp [bof])⟩
  · by_cases h1 : n = 1
    · subst h1
      have hmk : ∀ w, (Instr.makeSlice 131 (.int .i64 1) (.int .i64 1)).run Tryz.prog w = .ok (.slice (some ⟨w.heap.size, 0, none⟩) 1 1) (w.alloc (.cells #[.int .u64 0] 161)) := fun _ => by kernel_rfl
      have hC : C = 0 := by omega
      subst hC
      go_enter Tryz.func139, Tryz.ntmps139
      go_wp2
      go_ret
      exact ⟨some ⟨w.heap.size, 0, none⟩, 1, rfl, (Upd.refl _ _).alloc _, Nat.le_refl _, by omega, .inr ⟨w.heap.size, _, rfl, Blk.new _ _ _, rfl, by omega, .inr (Nat.le_refl _)⟩⟩
    · obtain ⟨i0, hi0, hz0, hz1, hz2⟩ := info_parts info161
      have hmk := fun w => run_make_rowN (P := Tryz.prog) 131 161 i0 (.int .u64 0) Tryz.underlying131 hi0 hz0 .i64 .i64 n (n + 4) (by omega) (by rw [hz2]; omega) (by omega) w
      rw [hz1] at hmk
      have hms := madeCells_size (.int .u64 0) (n + 4) rfl
      have HM := hide hms
      clear hms
      obtain ⟨mc, hmc⟩ : ∃ mc, madeCells (Value.int .u64 0).cells ((n + 4) * 1) = mc := ⟨_, rfl⟩
      rw [hmc] at hmk HM
      have ec : ((n + 4 : Nat) : Int) = (n : Int) + 4 := by omega
      rw [ec] at hmk
      have h1' : ((n : Int) == 1) = false := beq_eq_false_iff_ne.2 (by omega)
      clear ec hmc hi0 hz0 hz1 hz2
      go_enter Tryz.func139, Tryz.ntmps139
      go_wp2
      go_ret
      exact ⟨some ⟨w.heap.size, 0, none⟩, n + 4, rfl, (Upd.refl _ _).alloc _, by omega, by omega, .inr ⟨w.heap.size, mc, rfl, Blk.new _ _ _, HM.out, by omega, .inr (Nat.le_refl _)⟩⟩

/-- The words without those of 0 at the top: how many. -/
def nrmLen (ws : List Nat) : Nat → Nat
  | 0 => 0
  | k + 1 => if ws.getD k 0 = 0 then nrmLen ws k else k + 1
theorem nrmLen_le (ws : List Nat) (k : Nat) : nrmLen ws k ≤ k := by
  induction k with
  | zero => simp [nrmLen]
  | succ k ih => rw [nrmLen]; split <;> omega
theorem nrmLen_val (ws : List Nat) (k : Nat) (hk : k ≤ ws.length) : val (ws.take (nrmLen ws k)) = val (ws.take k) := by
  induction k with
  | zero => simp [nrmLen]
  | succ k ih =>
    rw [nrmLen]
    by_cases h : ws.getD k 0 = 0
    · rw [if_pos h, ih (by omega), take_succ_getD ws k (by omega), h, val_snoc]; simp
    · rw [if_neg h]
theorem nrmLen_nrm (ws : List Nat) (k : Nat) (hk : k ≤ ws.length) : Nrm (ws.take (nrmLen ws k)) := by
  induction k with
  | zero => intro h; simp [nrmLen] at h
  | succ k ih =>
    rw [nrmLen]
    by_cases h : ws.getD k 0 = 0
    · rw [if_pos h]; exact ih (by omega)
    · rw [if_neg h]
      intro _
      rw [List.length_take, Nat.min_eq_left hk, take_succ_getD ws k (by omega), show k + 1 - 1 = k from by omega]
      simp only [List.getD, List.getElem?_append, List.length_take, Nat.min_eq_left (by omega : k ≤ ws.length), Nat.lt_irrefl, if_false, Nat.sub_self] at h ⊢
      simpa using h
theorem take_nrm (ws : List Nat) (hl : ∀ d ∈ ws, d < 18446744073709551616) : ws.take (nrmLen ws ws.length) = wo (val ws) := by
  refine wo_inj (nrmLen_nrm ws _ (Nat.le_refl _)) (fun d hd => hl d (List.mem_of_mem_take hd)) ?_
  rw [nrmLen_val ws _ (Nat.le_refl _), List.take_length]

set_option maxHeartbeats 1000000 in
/-- norm: the words of the same number, none of 0 at the top. -/
theorem norm_any (w : World) (b C : Nat) (ws : List Nat) (hc : ∀ i, i < ws.length → w.cell? ⟨b, i, none⟩ = some (W64 (ws.getD i 0))) (hn : ws.length ≤ 1000000) (hC : ws.length ≤ C) (hC0 : 0 < C) (hC1 : C ≤ 1000000) :
    Calls Tryz.prog 142 #[.slice (some ⟨b, 0, none⟩) ws.length C] w fun e w' => e = .returned (.slice (some ⟨b, 0, none⟩) (nrmLen ws ws.length) C) ∧ w = w' := by
  obtain ⟨n, hn'⟩ : ∃ n, ws.length = n := ⟨_, rfl⟩
  rw [hn'] at hc hn hC ⊢
  have HN := hide hn'
  clear hn'
  obtain ⟨m, hm⟩ : ∃ m, nrmLen ws n = m := ⟨_, rfl⟩
  have hmn : m ≤ n := by rw [← hm]; exact nrmLen_le _ _
  rw [hm]
  have HM := hide hm
  clear hm
  go_enter Tryz.func142, Tryz.ntmps142
  go_wp2
  go_loop [3] (fun i => ∃ k : Nat, k ≤ n ∧ i = .int .i64 k ∧ Hid (nrmLen ws k = m)) (fun i => (intOf i).toNat)
  case atStart => exact ⟨n, Nat.le_refl _, rfl, HM⟩
  case round =>
    obtain ⟨k, hk, rfl, hv⟩ := hrel
    by_cases hk0 : 0 < k
    · obtain ⟨j, rfl⟩ : ∃ j, k = j + 1 := ⟨k - 1, by omega⟩
      have cx := hc j (by omega)
      obtain ⟨xj, hxj⟩ : ∃ xj, ws.getD j 0 = xj := ⟨_, rfl⟩
      rw [hxj] at cx
      have h0 : nrmLen ws (j + 1) = if xj = 0 then nrmLen ws j else j + 1 := by rw [nrmLen, hxj]
      have H0 := hide h0
      clear h0 hxj
      have ei : ((j + 1 : Nat) : Int) - 1 = (j : Int) := by omega
      have e2 : wrap64 (((j + 1 : Nat) : Int) - 1) = (j : Int) := by unfold wrap64; omega
      by_cases hx0 : xj = 0
      · subst hx0
        go_wp2
        go_round
        case rel => exact ⟨j, by omega, by go_num, by have := hv.out; rw [H0.out, if_pos rfl] at this; exact this⟩
        case measure => simp [intOf]
      · have hb : ((xj : Int) == 0) = false := beq_eq_false_iff_ne.2 (by omega)
        have hjm : j + 1 = m := by have := hv.out; rw [H0.out, if_neg hx0] at this; exact this
        subst hjm
        go_wp2
        go_ret
        exact ⟨rfl, rfl⟩
    · have hk1 : k = 0 := by omega
      subst hk1
      have hm0 : 0 = m := hv.out
      subst hm0
      go_wp2
      go_ret
      exact ⟨rfl, rfl⟩

/-- copy into a row of words that is known whole. -/
theorem setRow_putW (cur : Array Value) (off : Nat) (ws : List Nat) (h : off + ws.length ≤ cur.size) :
    (cur.toList.take off ++ (ws.map W64 ++ cur.toList.drop (off + (ws.map W64).length))).toArray = putW cur off ws := by
  apply Array.ext_getElem?
  intro j
  simp only [List.getElem?_toArray, List.length_map]
  by_cases h1 : j < off
  · rw [putW_out _ _ _ _ (.inl h1), List.getElem?_append_left (by simp; omega), List.getElem?_take_of_lt h1, Array.getElem?_toList]
  · rw [List.getElem?_append_right (by simp; omega)]
    simp only [List.length_take, Array.length_toList, Nat.min_eq_left (by omega : off ≤ cur.size)]
    by_cases h2 : j < off + ws.length
    · have := putW_in ws cur off (j - off) h (by omega)
      rw [show off + (j - off) = j from by omega] at this
      rw [this, List.getElem?_append_left (by simp; omega), List.getElem?_map, List.getElem?_eq_getElem (by omega)]
      rfl
    · rw [putW_out _ _ _ _ (.inr (by omega)), List.getElem?_append_right (by simp; omega), List.length_map, List.getElem?_drop, Array.getElem?_toList]
      congr 1
      omega

theorem setRow_upd (w : World) (g : Nat) (cs : Array Value) : Upd [g] w (w.setRow g cs) := by
  have h := below_setRow (B := g) (g := g) (Below.refl g w) (Nat.le_refl _) cs
  refine ⟨h.os, h.tape, h.output, h.size, fun k hk hn => ?_⟩
  have hne : k ≠ g := by simpa using hn
  simp only [World.setRow, Array.getElem?_modify]
  rw [if_neg (by omega)]

theorem wpList_copy_W {P : Program} {w : World} {ops : Array Oper} {rest : List Oper} {o : Oper} {a : Act} {Q : Exit → Act → World → Prop} (hgd : o.guard = none) (d s : Operand) (dT sT : TypeId)
    (ho : o.op = .call { callee := .builtin .copy, args := #[d, s], argTypes := #[dT, sT] }) (elem : TypeId) (hu : P.underlying dT = some (.slice elem)) (hsz : (P.info? elem).map (·.size) = some 1)
    (g off dLen dCap : Nat) (ad : Addr) (sLen sCap : Nat) (hd : a.eval d = .slice (some ⟨g, off, none⟩) dLen dCap) (hs : a.eval s = .slice (some ad) sLen sCap)
    (cur : Array Value) (hg : Blk w g 161 cur) (ws : List Nat) (hn : ws.length = Nat.min sLen dLen)
    (hsrc : ∀ j, j < ws.length → w.cell? (ad.add j) = some (W64 (ws.getD j 0))) (hfit : off + ws.length ≤ cur.size)
    (h : ∀ w', Blk w' g 161 (putW cur off ws) → Upd [g] w w' → wpList P ops Q rest (a.put o.dst (goInt ws.length)) w') : wpList P ops Q (o :: rest) a w := by
  refine wpList_copy_own hgd d s dT sT ho elem hu hsz g off dLen dCap ad sLen sCap hd hs cur 161 hg (ws.map W64) (by simpa using hn) ?_ (by simpa using hfit) ?_ ?_
  · intro j v hj
    rw [List.getElem?_map] at hj
    by_cases hl : j < ws.length
    · rw [List.getElem?_eq_getElem hl] at hj
      have := hsrc j hl
      simp only [List.getD, List.getElem?_eq_getElem hl, Option.getD_some] at this
      rw [this]
      simpa using hj
    · rw [List.getElem?_eq_none (by omega)] at hj; simp at hj
  · intro v hv
    obtain ⟨d, _, rfl⟩ := List.mem_map.1 hv
    rfl
  · rw [setRow_putW _ _ _ hfit, List.length_map]
    refine h _ ?_ (setRow_upd _ _ _)
    unfold Blk at hg ⊢
    simp [World.setRow, Array.getElem?_modify, hg]

theorem add_blk (b o j : Nat) : (⟨b, o, none⟩ : Addr).add j = ⟨b, o + j, none⟩ := by
  unfold Addr.add
  by_cases h : j = 0 <;> simp [h]
/-- First new blocks alone, then block b, which is one of Z's or new. -/
theorem Upd.into {w w1 w2 : World} {S Z : List Nat} {b : Nat} (h : Upd S w w1) (h2 : Upd [b] w1 w2) (hS : ∀ k ∈ S, k < w.heap.size → k ∈ Z) (hb : b ∈ Z ∨ w.heap.size ≤ b) : Upd Z w w2 :=
  (h.mono hS).trans h2 (fun k hk hlt => by
    rw [List.mem_singleton] at hk
    subst hk
    rcases hb with hb | hb
    · exact hb
    · omega)
theorem size161 : (Tryz.prog.info? 161).map (·.size) = some 1 := by kernel_rfl

set_option maxHeartbeats 1000000 in
/-- set: a copy of x. -/
theorem set_any (w : World) (Z A : Option Addr) (Lz Cz L C n : Nat) (wz : List Nat) (hZ : NatS w Z Lz Cz wz) (hA : NatS w A L C (wo n)) (hL : L ≤ 1000) :
    Calls Tryz.prog 138 #[.slice Z Lz Cz, .slice A L C] w (NatRes w Z n) := by
  have hlen := hA.1
  have HL := hide hlen
  clear hlen
  go_enter Tryz.func138, Tryz.ntmps138
  go_wp2_with fail
  refine (make_any w Z Lz Cz L wz (by omega) hZ).mono ?_
  rintro e w1 ⟨A', C', rfl, hu, hC', hC2, hr⟩
  have hA1 := hA.upd hu (by simp)
  rcases hr with ⟨rfl, hL0, rfl⟩ | ⟨b, cs, rfl, hb, hcs, hC0, hbz⟩
  · subst hL0
    have hcp := run_copy_none (P := Tryz.prog) w1 131 131 3 161 none A 0 0 0 C Tryz.underlying131 size161 (by rfl)
    go_wp2
    go_ret
    have hz : wo n = [] := List.eq_nil_of_length_eq_zero HL.out
    refine ⟨none, 0, 0, rfl, ?_, hu.mono (by simp), by simp [bof]⟩
    rw [hz]; exact NatS.nil _
  · by_cases hL0 : L = 0
    · subst hL0
      have hcp := run_copy_none (P := Tryz.prog) w1 131 131 3 161 (some ⟨b, 0, none⟩) A 0 C' 0 C Tryz.underlying131 size161 (by rfl)
      go_wp2
      go_ret
      have hz : wo n = [] := List.eq_nil_of_length_eq_zero HL.out
      refine ⟨_, 0, C', rfl, ?_, hu.mono (by simp), by simpa [bof] using hbz⟩
      rw [hz, ← hcs]
      exact NatS.mk b cs hb (Wd.nil _ _) (by simp) (by simp) (by omega) (by omega)
    · obtain ⟨bx, cx, rfl, hbx, hcx, hwx⟩ := hA1.row (by have := hA.2.2.1; omega)
      have hcell := hA1.cells
      go_wp2_with (with_reducible refine wpList_copy_W rfl (.tmp 9) (.tmp 10) 131 131 rfl 161 Tryz.underlying131 size161 b 0 L C' ⟨bx, 0, none⟩ L C rfl rfl cs hb (wo n) ?h1 ?h2 ?h3 ?_)
      case h1 => rw [HL.out]; exact (Nat.min_self L).symm
      case h2 =>
        intro j hj
        have := hcell j (by rw [← HL.out]; exact hj)
        rw [add_blk, Nat.zero_add]; exact this
      case h3 => rw [HL.out, hcs]; omega
      intro w2 hb2 hu2
      go_wp2
      go_ret
      refine ⟨_, L, C', rfl, ?_, hu.into hu2 (by simp) hbz, by simpa [bof] using hbz⟩
      have := NatS.mk b _ hb2 (Wd.put cs 0 (wo n) (by rw [HL.out, hcs]; omega)) (wo_lt n) (by rw [putW_size, HL.out, hcs]; exact hC') (by rw [putW_size, hcs]; exact hC0) (by rw [putW_size, hcs]; exact hC2)
      rw [putW_size, HL.out, hcs] at this
      exact this

set_option maxHeartbeats 1000000 in
/-- setWord -/
theorem setWord_any (w : World) (Z : Option Addr) (Lz Cz x : Nat) (wz : List Nat) (hZ : NatS w Z Lz Cz wz) (hx : x < 18446744073709551616) :
    Calls Tryz.prog 168 #[.slice Z Lz Cz, .int .u64 x] w (NatRes w Z x) := by
  by_cases h0 : x = 0
  · subst h0
    have hC := hZ.2.2.2.1
    go_enter Tryz.func168, Tryz.ntmps168
    go_wp2
    go_ret
    obtain ⟨h1, h2, h3, h4, h5⟩ := hZ
    refine ⟨Z, 0, Cz, rfl, ?_, Upd.refl _ _, fun b hb => .inl hb⟩
    rw [wo_zero]
    refine ⟨rfl, by simp, Nat.zero_le _, h4, ?_⟩
    rcases h5 with ⟨h6, h7, h8⟩ | ⟨b, cs, h6, h7, h8, h9, h10⟩
    · exact .inl ⟨h6, rfl, h8⟩
    · exact .inr ⟨b, cs, h6, h7, h8, h9, Wd.nil _ _⟩
  · have hb : ((x : Int) == 0) = false := beq_eq_false_iff_ne.2 (by omega)
    go_enter Tryz.func168, Tryz.ntmps168
    go_wp2_with fail
    refine (make_any w Z Lz Cz 1 wz (by omega) hZ).mono ?_
    rintro e w1 ⟨A', C', rfl, hu, hC', hC2, hr⟩
    rcases hr with ⟨rfl, hL0, rfl⟩ | ⟨b, cs, rfl, hb, hcs, hC0, hbz⟩
    · omega
    · have hsz : 0 < cs.size := by omega
      have cz := hb.at_ (Array.getElem?_eq_getElem hsz)
      have fz := hb.frozen 0
      go_wp2
      go_ret
      refine ⟨_, 1, C', rfl, ?_, (hu.mono (by simp)).trans ((Upd.refl [b] _).setCell (by simp) _) (fun k hk hlt => ?_), by simpa [bof] using hbz⟩
      · have hb2 := hb.set_ 0 (W64 x)
        have := NatS.mk b _ hb2 (ws := [x]) (fun i hi => by
          have hi0 : i = 0 := by simpa using hi
          subst hi0
          rw [Array.getElem?_setIfInBounds_self_of_lt (by omega)]; rfl) (by simpa using hx) (by rw [Array.size_setIfInBounds]; simp; omega) (by rw [Array.size_setIfInBounds]; omega) (by rw [Array.size_setIfInBounds]; omega)
        rw [Array.size_setIfInBounds, hcs] at this
        rw [wo_one h0 hx]
        exact this
      · rw [List.mem_singleton] at hk
        subst hk
        rcases hbz with hbz | hbz
        · exact hbz
        · omega

set_option maxHeartbeats 1000000 in
/-- alias: do the two end at one place? -/
theorem alias_no (w : World) (X Y : Option Addr) (Lx Cx Ly Cy : Nat) (wx wy : List Nat) (hX : NatS w X Lx Cx wx) (hY : NatS w Y Ly Cy wy) (hne : ∀ b ∈ bof X, b ∉ bof Y) :
    Calls Tryz.prog 183 #[.slice X Lx Cx, .slice Y Ly Cy] w fun e w' => e = .returned (.bool false) ∧ ∃ n, w' = w.drewN n := by
  have hCx := hX.2.2.2.1
  have hCy := hY.2.2.2.1
  by_cases hx0 : Cx = 0
  · subst hx0
    have d1 : decide ((0 : Int) < ((0 : Nat) : Int)) = false := by simp
    go_enter Tryz.func183, Tryz.ntmps183
    go_wp2_with fail
    go_quiet (fail)
    go_wp2
    go_ret
    exact ⟨rfl, _, rfl⟩
  · obtain ⟨bx, cx, rfl, hbx, hcx, hwx⟩ := hX.row (by omega)
    by_cases hy0 : Cy = 0
    · subst hy0
      have d1 : 0 < Cx := by omega
      have d1' : (0 : Int) < (Cx : Int) := by omega
      go_enter Tryz.func183, Tryz.ntmps183
      go_wp2_with fail
      go_quiet (fail)
      go_wp2
      go_ret
      exact ⟨rfl, _, rfl⟩
    · obtain ⟨by', cy, rfl, hby, hcy, hwy⟩ := hY.row (by omega)
      have hbne : bx ≠ by' := by simpa [bof] using hne
      obtain ⟨kx, rfl⟩ : ∃ kx, Cx = kx + 1 := ⟨Cx - 1, by omega⟩
      obtain ⟨ky, rfl⟩ : ∃ ky, Cy = ky + 1 := ⟨Cy - 1, by omega⟩
      have wx : IntKind.i64.wrap (kx : Int) = kx := IntWalk.i64_in _ (by omega)
      have wy : IntKind.i64.wrap (ky : Int) = ky := IntWalk.i64_in _ (by omega)
      have ex : ((kx + 1 : Nat) : Int) - 1 = (kx : Int) := by omega
      have ey : ((ky + 1 : Nat) : Int) - 1 = (ky : Int) := by omega
      obtain ⟨i0, hi0, hz0, hz1, hz2⟩ := info_parts info161
      have hp : ∀ n, (binOp .eql 243 (.pointer (some ⟨bx, kx, none⟩)) (.pointer (some ⟨by', ky, none⟩))).run Tryz.prog (w.drewN n) = .ok (.bool false) (w.drewN n) := fun n =>
        run_eql_ptr_other (te := 161) (w.drewN n) Tryz.underlying243 hi0 (by rw [hz1]; omega) (by intro e; injection e with e; exact hbne e) (hbx.drewN n) (hby.drewN n)
      clear hi0 hz0 hz1 hz2
      go_enter Tryz.func183, Tryz.ntmps183
      go_wp2_with fail
      go_quiet (fail)
      go_wp2
      go_ret
      exact ⟨rfl, _, rfl⟩

end Go.Proofs.YtnajekpckbfcdaaGreatDoor

namespace Go.Proofs.YtnajekpckbfcdaaGreatDoor
open Go.RowKit

theorem mulAddVWW_any (w : World) (zb zo xb xo n zc xc y r : Nat) (cs : Array Value) (xs : List Nat) (hn : n ≤ 1000000) (hxl : xs.length = n)
    (hz : Blk w zb 161 cs) (hzn : zo + n ≤ cs.size) (hx : ∀ i, i < n → w.cell? ⟨xb, xo + i, none⟩ = some (W64 (xs.getD i 0))) (ha : xb = zb → zo ≤ xo)
    (hxs : ∀ d ∈ xs, d < 18446744073709551616) (hy : y < 18446744073709551616) (hr : r < 18446744073709551616) :
    Calls Tryz.prog 226 #[.slice (some ⟨zb, zo, none⟩) n zc, .slice (some ⟨xb, xo, none⟩) n xc, .int .u64 y, .int .u64 r] w
      (VecOut w zb zo n cs (fun out c => val out + 18446744073709551616 ^ n * c = val xs * y + r)) := by
  have h := mulAddVWW_g_any w zb zo xb xo n zc xc y r cs xs hn hxl hz hzn hx ha hxs hy hr
  have H := hide h
  clear h hxl
  go_enter Tryz.func226, Tryz.ntmps226
  go_wp2_with fail
  refine H.out.mono ?_
  rintro e w' ⟨c, out, rfl, h1, h2, h3, h4, h5, h6⟩
  have H2 := hide h2
  have H3 := hide h3
  have H4 := hide h4
  clear h2 h3 h4
  go_wp2
  go_ret
  exact ⟨c, out, rfl, h1, H2.out, H3.out, H4.out, h5, h6⟩

theorem addMulVVWW_any (w : World) (zb zo xb xo yb yo n zc xc yc m a : Nat) (cs : Array Value) (xs ys : List Nat) (hn : n ≤ 1000000) (hxl : xs.length = n) (hyl : ys.length = n)
    (hz : Blk w zb 161 cs) (hzn : zo + n ≤ cs.size) (hx : ∀ i, i < n → w.cell? ⟨xb, xo + i, none⟩ = some (W64 (xs.getD i 0))) (ha : xb = zb → zo ≤ xo)
    (hy : ∀ i, i < n → w.cell? ⟨yb, yo + i, none⟩ = some (W64 (ys.getD i 0))) (hb : yb = zb → zo ≤ yo)
    (hxs : ∀ d ∈ xs, d < 18446744073709551616) (hys : ∀ d ∈ ys, d < 18446744073709551616) (hm : m < 18446744073709551616) (hr : a < 18446744073709551616) :
    Calls Tryz.prog 225 #[.slice (some ⟨zb, zo, none⟩) n zc, .slice (some ⟨xb, xo, none⟩) n xc, .slice (some ⟨yb, yo, none⟩) n yc, .int .u64 m, .int .u64 a] w
      (VecOut w zb zo n cs (fun out c => val out + 18446744073709551616 ^ n * c = val xs + val ys * m + a)) := by
  have h := addMulVVWW_g_any w zb zo xb xo yb yo n zc xc yc m a cs xs ys hn hxl hyl hz hzn hx ha hy hb hxs hys hm hr
  have H := hide h
  clear h hxl hyl
  go_enter Tryz.func225, Tryz.ntmps225
  go_wp2_with fail
  refine H.out.mono ?_
  rintro e w' ⟨c, out, rfl, h1, h2, h3, h4, h5, h6⟩
  have H2 := hide h2
  have H3 := hide h3
  have H4 := hide h4
  clear h2 h3 h4
  go_wp2
  go_ret
  exact ⟨c, out, rfl, h1, H2.out, H3.out, H4.out, h5, h6⟩

theorem subVV_any (w : World) (zb zo xb xo yb yo n zc xc yc : Nat) (cs : Array Value) (xs ys : List Nat) (hn : n ≤ 1000000) (hxl : xs.length = n) (hyl : ys.length = n)
    (hz : Blk w zb 161 cs) (hzn : zo + n ≤ cs.size) (hx : ∀ i, i < n → w.cell? ⟨xb, xo + i, none⟩ = some (W64 (xs.getD i 0))) (ha : xb = zb → zo ≤ xo)
    (hy : ∀ i, i < n → w.cell? ⟨yb, yo + i, none⟩ = some (W64 (ys.getD i 0))) (hb : yb = zb → zo ≤ yo)
    (hxs : ∀ d ∈ xs, d < 18446744073709551616) (hys : ∀ d ∈ ys, d < 18446744073709551616) :
    Calls Tryz.prog 143 #[.slice (some ⟨zb, zo, none⟩) n zc, .slice (some ⟨xb, xo, none⟩) n xc, .slice (some ⟨yb, yo, none⟩) n yc] w
      (VecOut w zb zo n cs (fun out c => val out + val ys = val xs + 18446744073709551616 ^ n * c ∧ c ≤ 1)) := by
  have h := subVV_g_any w zb zo xb xo yb yo n zc xc yc cs xs ys hn hxl hyl hz hzn hx ha hy hb hxs hys
  have H := hide h
  clear h hxl hyl
  go_enter Tryz.func143, Tryz.ntmps143
  go_wp2_with fail
  refine H.out.mono ?_
  rintro e w' ⟨c, out, rfl, h1, h2, h3, h4, h5, h6⟩
  have H2 := hide h2
  have H3 := hide h3
  have H4 := hide h4
  clear h2 h3 h4
  go_wp2
  go_ret
  exact ⟨c, out, rfl, h1, H2.out, H3.out, H4.out, h5, h6⟩

/-- Behind norm: the row reads as the number. -/
theorem NatS.normed {w : World} {b : Nat} {cs : Array Value} {ws : List Nat} (hb : Blk w b 161 cs) (hw : Wd cs 0 ws) (hd : ∀ d ∈ ws, d < 18446744073709551616) (h1 : ws.length ≤ cs.size) (h2 : 0 < cs.size) (h3 : cs.size ≤ 100000) :
    NatS w (some ⟨b, 0, none⟩) (nrmLen ws ws.length) cs.size (wo (val ws)) := by
  have hl := nrmLen_le ws ws.length
  have := NatS.mk (w := w) b cs hb (hw.take (nrmLen ws ws.length)) (fun d hdm => hd d (List.mem_of_mem_take hdm)) (by rw [List.length_take]; omega) h2 h3
  rw [take_nrm ws hd, ← take_nrm ws hd, List.length_take, Nat.min_eq_left hl, take_nrm ws hd] at this
  exact this

theorem blk_cells {w : World} {b : Nat} {cs : Array Value} {ws : List Nat} (hb : Blk w b 161 cs) (hw : Wd cs 0 ws) : ∀ i, i < ws.length → w.cell? ⟨b, i, none⟩ = some (W64 (ws.getD i 0)) := fun i hi => by
  have := hw.get hi
  rw [Nat.zero_add] at this
  exact hb.at_ this

/-- norm, at a row that is known whole: what comes back reads as the number. -/
theorem norm_blk (w : World) (b L C : Nat) (cs : Array Value) (ws : List Nat) (hl : ws.length = L) (hb : Blk w b 161 cs) (hw : Wd cs 0 ws) (hd : ∀ d ∈ ws, d < 18446744073709551616) (hcs : cs.size = C) (hL : L ≤ C) (hC0 : 0 < C) (hC : C ≤ 100000) :
    Calls Tryz.prog 142 #[.slice (some ⟨b, 0, none⟩) L C] w fun e w' => ∃ k, e = .returned (.slice (some ⟨b, 0, none⟩) k C) ∧ NatS w (some ⟨b, 0, none⟩) k C (wo (val ws)) ∧ w = w' := by
  subst hl
  subst hcs
  exact (norm_any w b cs.size ws (blk_cells hb hw) (by omega) hL hC0 (by omega)).mono fun e w' ⟨he, hw'⟩ => ⟨_, he, NatS.normed hb hw hd hL hC0 hC, hw'⟩

set_option maxHeartbeats 1000000 in
/-- mulAddWW: x * y + r -/
theorem mulAddWW_pos (w : World) (Z X : Option Addr) (Lz Cz Lx Cx n y r : Nat) (wz : List Nat) (hZ : NatS w Z Lz Cz wz) (hX : NatS w X Lx Cx (wo n)) (hL : Lx ≤ 1000) (hn : n ≠ 0) (hy0 : y ≠ 0)
    (hy : y < 18446744073709551616) (hr : r < 18446744073709551616) :
    Calls Tryz.prog 187 #[.slice Z Lz Cz, .slice X Lx Cx, .int .u64 y, .int .u64 r] w (NatRes w Z (n * y + r)) := by
  have hlen := hX.1
  have hpos := wo_len_pos hn
  rw [hlen] at hpos
  have HL := hide hlen
  clear hlen
  have hCx := hX.2.2.1
  have hb0 : ((Lx : Int) == 0) = false := beq_eq_false_iff_ne.2 (by omega)
  have hb1 : ((y : Int) == 0) = false := beq_eq_false_iff_ne.2 (by omega)
  go_enter Tryz.func187, Tryz.ntmps187
  go_wp2_with fail
  have hmk := make_any w Z Lz Cz (Lx + 1) wz (by omega) hZ
  have ec : ((Lx + 1 : Nat) : Int) = (Lx : Int) + 1 := by omega
  rw [ec] at hmk
  clear ec
  refine hmk.mono ?_
  rintro e w1 ⟨A', C', rfl, hu, hC', hC2, hr1⟩
  rcases hr1 with ⟨_, h0, _⟩ | ⟨b, cs, rfl, hb, hcs, hC0, hbz⟩
  · omega
  have hX1 := hX.upd hu (by simp)
  obtain ⟨bx, cx, rfl, hbx, hcx, hwx⟩ := hX1.row (by omega)
  have hcells := hX1.cells
  have hcap : ¬ C' = 0 := by omega
  go_wp2_with fail
  refine (mulAddVWW_any w1 b 0 bx 0 Lx C' Cx y r cs (wo n) (by omega) HL.out hb (by omega) (by simpa using hcells) (fun _ => Nat.le_refl _) (wo_lt n) hy hr).mono ?_
  rintro e w2 ⟨c, out, rfl, h1, h2, h3, h4, h5, h6⟩
  have H2 := hide h2
  have H3 := hide h3
  have H4 := hide h4
  clear h2 h3 h4
  have hsz : Lx < (putW cs 0 out).size := by rw [putW_size]; omega
  have cz := h5.at_ (Array.getElem?_eq_getElem hsz)
  have fz := h5.frozen Lx
  go_wp2_with fail
  have hb3 := h5.set_ Lx (W64 c)
  have hput : (putW cs 0 out).setIfInBounds Lx (W64 c) = putW cs 0 (out ++ [c]) := by rw [putW_snoc, H2.out, Nat.zero_add]
  rw [hput] at hb3
  have hlen : (out ++ [c]).length = Lx + 1 := by rw [List.length_append, H2.out]; rfl
  have hnb := norm_blk (w2.setCell ⟨b, Lx, none⟩ (W64 c)) b (Lx + 1) C' _ (out ++ [c]) hlen hb3 (Wd.put _ _ _ (by rw [hlen]; omega)) (mem_snoc H3.out h1) (by rw [putW_size]; exact hcs) hC' hC0 hC2
  have hv : val (out ++ [c]) = n * y + r := by rw [val_snoc, H2.out, H4.out, val_wo]
  rw [hv] at hnb
  have HNB := hide hnb
  clear hnb hv hlen hput
  refine HNB.out.mono ?_
  rintro e w3 ⟨k, rfl, hS, rfl⟩
  go_wp2
  go_ret
  refine ⟨_, k, C', rfl, hS, ?_, by simpa [bof] using hbz⟩
  exact hu.into (h6.setCell (by simp) _) (by simp) hbz

set_option maxHeartbeats 1000000 in
theorem mulAddWW_zero (w : World) (Z X : Option Addr) (Lz Cz Lx Cx n y r : Nat) (wz : List Nat) (hZ : NatS w Z Lz Cz wz) (hX : NatS w X Lx Cx (wo n)) (hn : n = 0 ∨ y = 0) (hr : r < 18446744073709551616) :
    Calls Tryz.prog 187 #[.slice Z Lz Cz, .slice X Lx Cx, .int .u64 y, .int .u64 r] w (NatRes w Z (n * y + r)) := by
  have hv : n * y + r = r := by rcases hn with rfl | rfl <;> simp
  rw [hv]
  clear hv
  have hlen := hX.1
  have HL := hide hlen
  clear hlen
  by_cases hL : Lx = 0
  · subst hL
    go_enter Tryz.func187, Tryz.ntmps187
    go_wp2_with fail
    refine (setWord_any w Z Lz Cz r wz hZ hr).mono ?_
    rintro e w1 ⟨A', L', C', rfl, h1, h2, h3⟩
    go_wp2
    go_ret
    exact ⟨A', L', C', rfl, h1, h2, h3⟩
  · have hy : y = 0 := by
      rcases hn with rfl | hy
      · have := HL.out; rw [wo_zero] at this; simp at this; omega
      · exact hy
    subst hy
    have hb0 : ((Lx : Int) == 0) = false := beq_eq_false_iff_ne.2 (by omega)
    go_enter Tryz.func187, Tryz.ntmps187
    go_wp2_with fail
    refine (setWord_any w Z Lz Cz r wz hZ hr).mono ?_
    rintro e w1 ⟨A', L', C', rfl, h1, h2, h3⟩
    go_wp2
    go_ret
    exact ⟨A', L', C', rfl, h1, h2, h3⟩

theorem mulAddWW_any (w : World) (Z X : Option Addr) (Lz Cz Lx Cx n y r : Nat) (wz : List Nat) (hZ : NatS w Z Lz Cz wz) (hX : NatS w X Lx Cx (wo n)) (hL : Lx ≤ 1000)
    (hy : y < 18446744073709551616) (hr : r < 18446744073709551616) :
    Calls Tryz.prog 187 #[.slice Z Lz Cz, .slice X Lx Cx, .int .u64 y, .int .u64 r] w (NatRes w Z (n * y + r)) := by
  by_cases h : n = 0 ∨ y = 0
  · exact mulAddWW_zero w Z X Lz Cz Lx Cx n y r wz hZ hX h hr
  · exact mulAddWW_pos w Z X Lz Cz Lx Cx n y r wz hZ hX hL (fun h0 => h (.inl h0)) (fun h0 => h (.inr h0)) hy hr

end Go.Proofs.YtnajekpckbfcdaaGreatDoor

namespace Go.Proofs.YtnajekpckbfcdaaGreatDoor
open Go.RowKit

theorem putW_self (ws : List Nat) : ∀ (cs : Array Value) (o : Nat), Wd cs o ws → putW cs o ws = cs := by
  induction ws with
  | nil => intro cs o _; rfl
  | cons d r ih =>
    intro cs o h
    have h0 := h 0 (by simp)
    rw [Nat.add_zero] at h0
    have e : cs.setIfInBounds o (W64 d) = cs := by
      apply Array.ext_getElem?
      intro j
      by_cases hj : j = o
      · subst hj
        rw [Array.getElem?_setIfInBounds_self_of_lt (Array.getElem?_eq_some_iff.1 h0).1, h0]; rfl
      · rw [Array.getElem?_setIfInBounds_ne (by omega)]
    rw [putW, e]
    refine ih _ _ (fun i hi => ?_)
    have := h (i + 1) (by simp; omega)
    rw [show o + (i + 1) = o + 1 + i from by omega] at this
    simpa using this

theorem run_neq_ptr_other {P : Program} (w : World) {tp te : TypeId} {j : TypeInfo} {a b : Addr} {ca cb : Array Value} {ta tb : TypeId} (hp : P.underlying tp = some (.pointer te)) (hte : P.info? te = some j) (hsz : j.size ≠ 0)
    (hne : a ≠ b) (ha : w.heap[a.block]? = some (.cells ca ta (0, 0))) (hb : w.heap[b.block]? = some (.cells cb tb (0, 0))) :
    (binOp .neq tp (.pointer (some a)) (.pointer (some b))).run P w = .ok (.bool true) w := by
  have h : ∀ d : Nat, (Op.equalIn (d + 1) tp (.pointer (some a)) (.pointer (some b))).run P w = .ok false w := fun d => by
    simp [Op.equalIn, run_underlying hp, sizeOf, typeInfo, hte, hsz, run_sameAddr_other w hne ha hb]
  simp only [binOp]
  simp [Op.equal, Op.maxDepth, h 9999]

theorem run_neq_ptr_same {P : Program} (w : World) {tp te : TypeId} {j : TypeInfo} (a : Addr) (hp : P.underlying tp = some (.pointer te)) (hte : P.info? te = some j) :
    (binOp .neq tp (.pointer (some a)) (.pointer (some a))).run P w = .ok (.bool false) w := by
  have h : ∀ d : Nat, (Op.equalIn (d + 1) tp (.pointer (some a)) (.pointer (some a))).run P w = .ok true w := fun d => by
    simp [Op.equalIn, run_underlying hp, sizeOf, typeInfo, hte, run_sameAddr_same]
  simp only [binOp]
  simp [Op.equal, Op.maxDepth, h 9999]

theorem neq_other (w : World) {a b : Addr} {ca cb : Array Value} (hne : a ≠ b) (ha : Blk w a.block 161 ca) (hb : Blk w b.block 161 cb) :
    ∀ n, (binOp .neq 243 (.pointer (some a)) (.pointer (some b))).run Tryz.prog (w.drewN n) = .ok (.bool true) (w.drewN n) := fun n => by
  obtain ⟨i0, hi0, hz0, hz1, hz2⟩ := info_parts info161
  exact run_neq_ptr_other (te := 161) (w.drewN n) Tryz.underlying243 hi0 (by rw [hz1]; omega) hne (ha.drewN n) (hb.drewN n)
theorem neq_same (w : World) (a : Addr) :
    ∀ n, (binOp .neq 243 (.pointer (some a)) (.pointer (some a))).run Tryz.prog (w.drewN n) = .ok (.bool false) (w.drewN n) := fun n => by
  obtain ⟨i0, hi0, hz0, hz1, hz2⟩ := info_parts info161
  exact run_neq_ptr_same (te := 161) (w.drewN n) a Tryz.underlying243 hi0

/-- copy into a row of words, as one step of a region that draws its order. -/
theorem step_copy_W {P : Program} {ops : Array Oper} {o : Oper} {a : Act} {w : World} {K : Act → World → Prop} {Q : Exit → Act → World → Prop} {E : Prop} (hgd : o.guard = none) (d s : Operand) (dT sT : TypeId)
    (ho : o.op = .call { callee := .builtin .copy, args := #[d, s], argTypes := #[dT, sT] }) (elem : TypeId) (hu : P.underlying dT = some (.slice elem)) (hsz : (P.info? elem).map (·.size) = some 1)
    (dp sp : Option Addr) (dLen dCap sLen sCap : Nat) (hd : a.eval d = .slice dp dLen dCap) (hs : a.eval s = .slice sp sLen sCap)
    (g off : Nat) (cur : Array Value) (hg : Blk w g 161 cur) (ws : List Nat) (hn : ws.length = Nat.min sLen dLen)
    (hpos : 0 < ws.length → dp = some ⟨g, off, none⟩ ∧ ∃ xb xo, sp = some ⟨xb, xo, none⟩ ∧ ∀ j, j < ws.length → w.cell? ⟨xb, xo + j, none⟩ = some (W64 (ws.getD j 0)))
    (hfit : off + ws.length ≤ cur.size)
    (h : ∀ w', Hid (Blk w' g 161 (putW cur off ws)) → Upd [g] w w' → K (a.put o.dst (goInt ws.length)) w') :
    if Region.wanted o (yielded ops a.tmps) = true then Oper.wp P o a w K Q else E := by
  have hw : Region.wanted o (yielded ops a.tmps) = true := by simp [Region.wanted, hgd]
  rw [if_pos hw]
  by_cases h0 : ws.length = 0
  · obtain rfl : ws = [] := List.eq_nil_of_length_eq_zero h0
    have hrun := run_copy_none (P := P) w dT sT o.type elem dp sp dLen dCap sLen sCap hu hsz (by simpa using hn.symm)
    unfold Oper.wp
    simp [execOp, ho, resolve, invoke, builtin, hd, hs, hrun, Result.andThen]
    exact h w hg (Upd.refl _ _)
  · obtain ⟨rfl, xb, xo, rfl, hsrc⟩ := hpos (by omega)
    have hrun := run_copy_row (P := P) w dT sT o.type elem g off dLen dCap ⟨xb, xo, none⟩ sLen sCap cur 161 (ws.map W64) hu hsz hg (by simpa using hn) (by
        intro j v hj
        rw [List.getElem?_map] at hj
        by_cases hl : j < ws.length
        · rw [List.getElem?_eq_getElem hl] at hj
          have := hsrc j hl
          simp only [List.getD, List.getElem?_eq_getElem hl, Option.getD_some] at this
          rw [add_blk, this]
          simpa using hj
        · rw [List.getElem?_eq_none (by omega)] at hj; simp at hj) (by simpa using hfit) (by
        intro v hv
        obtain ⟨d, _, rfl⟩ := List.mem_map.1 hv
        rfl)
    rw [List.append_assoc, setRow_putW _ _ _ hfit, List.length_map] at hrun
    unfold Oper.wp
    simp [execOp, ho, resolve, invoke, builtin, hd, hs, hrun, Result.andThen]
    refine h _ ?_ (setRow_upd _ _ _)
    show Blk _ _ _ _
    unfold Blk at hg ⊢
    simp [World.setRow, Array.getElem?_modify, hg]

/-- The rest of x behind k words: it lies there already (one row), or it is copied. -/
theorem rest_same {w : World} {zb zo n k : Nat} {cs : Array Value} {xs out : List Nat} (hz : Blk w zb 161 cs) (hx : ∀ i, i < n → w.cell? ⟨zb, zo + i, none⟩ = some (W64 (xs.getD i 0))) (hn : xs.length = n) (hk : out.length = k) :
    putW cs zo (out ++ xs.drop k) = putW cs zo out := by
  rw [← putW_append, hk]
  refine putW_self _ _ _ (fun i hi => ?_)
  rw [List.length_drop] at hi
  have := hx (k + i) (by omega)
  rw [hz.cell] at this
  rw [putW_out _ _ _ _ (.inr (by omega)), Nat.add_assoc, this]
  simp [List.getD, show k + i < xs.length by omega]

theorem getD_drop (xs : List Nat) (k j : Nat) : (xs.drop k).getD j 0 = xs.getD (k + j) 0 := by simp only [List.getD, List.getElem?_drop]

theorem val_take_drop (xs : List Nat) (k : Nat) (hk : k ≤ xs.length) : val xs = val (xs.take k) + 18446744073709551616 ^ k * val (xs.drop k) := by
  conv => lhs; rw [← List.take_append_drop k xs]
  rw [val_append, List.length_take, Nat.min_eq_left hk]

set_option maxHeartbeats 4000000 in
theorem subVW_any (w : World) (zb zo xb xo n zc xc y : Nat) (cs : Array Value) (xs : List Nat) (hn : n ≤ 1000000) (hxl : xs.length = n) (hzc : n ≤ zc) (hxc : n ≤ xc) (hzc1 : zc ≤ 1000000) (hxc1 : xc ≤ 1000000)
    (hz : Blk w zb 161 cs) (hzn : zo + n ≤ cs.size) (cx : Array Value) (hxb : Blk w xb 161 cx) (hx : ∀ i, i < n → w.cell? ⟨xb, xo + i, none⟩ = some (W64 (xs.getD i 0))) (ha : xb = zb → zo = xo)
    (hxs : ∀ d ∈ xs, d < 18446744073709551616) (hy : y < 18446744073709551616) :
    Calls Tryz.prog 144 #[.slice (some ⟨zb, zo, none⟩) n zc, .slice (some ⟨xb, xo, none⟩) n xc, .int .u64 y] w
      (VecOut w zb zo n cs (fun out c => val out + y = val xs + 18446744073709551616 ^ n * c)) := by
  have HL := hide hxl
  clear hxl
  by_cases hn0 : n = 0
  · subst hn0
    go_enter Tryz.func144, Tryz.ntmps144
    go_wp2
    go_ret
    have hx0 : xs = [] := List.eq_nil_of_length_eq_zero HL.out
    subst hx0
    exact ⟨y, [], rfl, hy, rfl, by simp, by simp [val], hz, Upd.refl _ _⟩
  · have hnb : ((n : Int) == 0) = false := beq_eq_false_iff_ne.2 (by omega)
    have hp0 : 0 < n := by omega
    have hp0' : (0 : Int) < (n : Int) := by omega
    have cx0 := hx 0 (by omega)
    rw [Nat.add_zero] at cx0
    have hx0' := getD_lt xs hxs 0
    obtain ⟨x0, hx0⟩ : ∃ x0, xs.getD 0 0 = x0 := ⟨_, rfl⟩
    rw [hx0] at cx0 hx0'
    have HX0 := hide hx0
    clear hx0
    have hsz : zo < cs.size := by omega
    have cz := hz.at_ (Array.getElem?_eq_getElem hsz)
    have fz := hz.frozen zo
    have hx1 : xs = x0 :: xs.drop 1 := by
      have := HX0.out
      match xs, HL.out with
      | [], h => simp at h; omega
      | a :: r, _ => simp at this; subst this; rfl
    have HX1 := hide hx1
    clear hx1
    have hlen1 : ∀ d : Nat, (d :: xs.drop 1).length = n := fun d => by rw [List.length_cons, List.length_drop, HL.out]; omega
    have hlt1 : ∀ d : Nat, d < 18446744073709551616 → ∀ x ∈ d :: xs.drop 1, x < 18446744073709551616 := fun d hd x hx => by
      rcases List.mem_cons.1 hx with h | h
      · rw [h]; exact hd
      · exact hxs x (List.mem_of_mem_drop h)
    have hval1 : ∀ d : Nat, d + y + 0 = x0 + 18446744073709551616 * 0 → val (d :: xs.drop 1) + y = val xs + 18446744073709551616 ^ n * 0 := fun d h => by
      have e := congrArg val HX1.out
      rw [val_cons] at e
      rw [val_cons, e]
      omega
    have HLEN1 := hide hlen1
    have HLT1 := hide hlt1
    have HVAL1 := hide hval1
    clear hlen1 hlt1 hval1
    go_enter Tryz.func144, Tryz.ntmps144
    go_wp2_with fail
    refine (bSub_any x0 y 0 hx0' hy (by omega) _).mono ?_
    rintro e w' ⟨d, b', rfl, rfl, he, hd, hb'⟩
    have HE := hide he
    clear he
    have hb1 := hz.set_ zo (W64 d)
    have hu1 : Upd [zb] w (w.setCell ⟨zb, zo, none⟩ (W64 d)) := (Upd.refl _ _).setCell (by simp) _
    have hput1 : cs.setIfInBounds zo (W64 d) = putW cs zo [d] := rfl
    rw [hput1] at hb1
    clear hput1
    rcases (by omega : b' = 0 ∨ b' = 1) with rfl | rfl
    · by_cases hsame : xb = zb
      · obtain rfl := hsame
        obtain rfl := ha rfl
        have hq := neq_same (w.setCell ⟨xb, zo, none⟩ (W64 d)) ⟨xb, zo, none⟩
        go_wp2_with fail
        go_quiet (fail)
        go_wp2
        go_ret
        have hr := rest_same (k := 1) (out := [d]) hz hx HL.out rfl
        exact ⟨0, d :: xs.drop 1, rfl, by omega, HLEN1.out d, HLT1.out d hd, HVAL1.out d HE.out, (by rw [show d :: xs.drop 1 = [d] ++ xs.drop 1 from rfl, hr]; exact hb1), hu1.drewN _⟩
      · have hq := neq_other (w.setCell ⟨zb, zo, none⟩ (W64 d)) (a := ⟨zb, zo, none⟩) (b := ⟨xb, xo, none⟩) (by intro e; injection e with e; exact hsame e.symm) hb1 (hxb.far (p := ⟨zb, zo, none⟩) (by simpa using hsame) _)
        obtain ⟨A1, hA1, hA1'⟩ : ∃ A1 : Option Addr, (if zc = 1 then some (⟨zb, zo, none⟩ : Addr) else some ⟨zb, zo + 1, none⟩) = A1 ∧ (1 < n → A1 = some ⟨zb, zo + 1, none⟩) := ⟨_, rfl, fun h => by rw [if_neg (by omega)]⟩
        obtain ⟨A2, hA2, hA2'⟩ : ∃ A2 : Option Addr, (if xc = 1 then some (⟨xb, xo, none⟩ : Addr) else some ⟨xb, xo + 1, none⟩) = A2 ∧ (1 < n → A2 = some ⟨xb, xo + 1, none⟩) := ⟨_, rfl, fun h => by rw [if_neg (by omega)]⟩
        have HA1 := hide hA1'
        have HA2 := hide hA2'
        clear hA1' hA2'
        have hcl : Hid ((xs.drop 1).length = Nat.min (n - 1) (n - 1)) := by show _ = _; rw [List.length_drop, HL.out]; exact (Nat.min_self _).symm
        have hp1 : 1 ≤ n := by omega
        have hp1' : (1 : Int) ≤ (n : Int) := by omega
        have hp1b : (1 : Int) ≤ (zc : Int) := by omega
        have hp1c : (1 : Int) ≤ (xc : Int) := by omega
        have hp2 : 1 ≤ zc := by omega
        have hp3 : 1 ≤ xc := by omega
        go_wp2_with fail
        go_quiet (fail)
        go_wp2_with fail
        have hpos : 0 < (xs.drop 1).length → A1 = some ⟨zb, zo + 1, none⟩ ∧ ∃ xb' xo', A2 = some ⟨xb', xo', none⟩ ∧ ∀ j, j < (xs.drop 1).length → (w.setCell ⟨zb, zo, none⟩ (W64 d)).cell? ⟨xb', xo' + j, none⟩ = some (W64 ((xs.drop 1).getD j 0)) := by
          intro h0
          rw [List.length_drop, HL.out] at h0
          refine ⟨HA1.out (by omega), xb, xo + 1, HA2.out (by omega), fun j hj => ?_⟩
          rw [List.length_drop, HL.out] at hj
          rw [World.cell?_setCell_other _ _ _ _ (by intro e; injection e with e; exact hsame e.symm), Nat.add_assoc, hx (1 + j) (by omega), getD_drop]
        have hfit : zo + 1 + (xs.drop 1).length ≤ (putW cs zo [d]).size := by rw [putW_size, List.length_drop, HL.out]; omega
        go_region_law (refine step_copy_W rfl (.tmp 40) (.tmp 42) 130 130 rfl 161 Tryz.underlying130 size161 A1 A2 (n - 1) (zc - 1) (n - 1) (xc - 1) (by simp [Act.eval, Act.put]) (by simp [Act.eval, Act.put]) zb (zo + 1) (putW cs zo [d]) hb1 (xs.drop 1) hcl.out hpos hfit ?_; intro w4 hb4 hu4)
        all_goals go_wp2
        all_goals go_ret
        all_goals exact ⟨0, d :: xs.drop 1, rfl, by omega, HLEN1.out d, HLT1.out d hd, HVAL1.out d HE.out, hb4.out, ((hu1.drewN _).drew.trans hu4 (fun k hk _ => hk))⟩
    · have hv1 : val [d] + y = val (xs.take 1) + 18446744073709551616 ^ 1 * 1 := by
        have hx1 : xs.take 1 = [x0] := by rw [HX1.out]; rfl
        rw [hx1]
        have := HE.out
        simp only [val, Nat.pow_one]
        omega
      have HV1 := hide hv1
      clear hv1
      go_wp2_with fail
      go_loopw [9] (fun i wr => ∃ (k : Nat) (out : List Nat), 1 ≤ k ∧ k ≤ n ∧ i = .int .i64 k ∧ Hid (out.length = k) ∧ Hid (∀ d ∈ out, d < 18446744073709551616) ∧
          Hid (val out + y = val (xs.take k) + 18446744073709551616 ^ k * 1) ∧ Blk wr zb 161 (putW cs zo out) ∧ Upd [zb] w wr)
        (fun i _ => n - (intOf i).toNat)
      case atStart => exact ⟨1, [d], Nat.le_refl _, by omega, rfl, rfl, (by intro x hx; rw [List.mem_singleton.1 hx]; exact hd), HV1, hb1, hu1⟩
      case round =>
        clear cx0 cz fz hb1 hu1 HE HV1
        obtain ⟨k, out, hk1, hk, rfl, hol, hos, hv, hbk, hu⟩ := hrel
        by_cases hlt : k < n
        · have cxk := read_kept hz hu hbk hol.out (fun e => by have := ha e; omega) (hx k hlt)
          have hxk' := getD_lt xs hxs k
          obtain ⟨xk, hxk⟩ : ∃ xk, xs.getD k 0 = xk := ⟨_, rfl⟩
          rw [hxk] at cxk hxk'
          have HX := hide hxk
          clear hxk
          have hsz : zo + k < (putW cs zo out).size := by rw [putW_size]; omega
          have cz := hbk.at_ (Array.getElem?_eq_getElem hsz)
          have fz := hbk.frozen (zo + k)
          have vx : val (xs.take (k + 1)) = val (xs.take k) + 18446744073709551616 ^ k * xk := by
            rw [take_succ_getD xs k (by rw [HL.out]; exact hlt), HX.out, val_snoc, List.length_take, HL.out, Nat.min_eq_left (by omega)]
          have VX := hide vx
          clear vx
          have hk0' : (0 : Int) ≤ (k : Int) := by omega
          have hlt' : (k : Int) < (n : Int) := by omega
          by_cases hx0 : xk = 0
          · subst hx0
            go_wp2
            go_roundw
            case rel =>
              refine ⟨k + 1, out ++ [18446744073709551615], by omega, by omega, by go_num, ?_, mem_snoc hos.out (by omega), ?_, ?_, hu.setCell (by simp) _⟩
              · show (out ++ [_]).length = k + 1
                rw [List.length_append, hol.out]; rfl
              · exact borrow_step out k 1 18446744073709551615 1 0 0 _ y _ y hol.out hv.out (by omega) VX.out (by omega)
              · rw [putW_snoc, hol.out]
                exact hbk.set_ _ _
            case measure => simp [intOf]; omega
          · obtain ⟨xp, hxp⟩ : ∃ xp, xk = xp + 1 := ⟨xk - 1, by omega⟩
            have hxb1 : ((xk : Int) == 0) = false := beq_eq_false_iff_ne.2 (by omega)
            have hxb2 : ((xk : Int) != 0) = true := by rw [bne_iff_ne]; omega
            have hw : IntKind.u64.wrap ((xk : Int) - 1) = (xp : Int) := by rw [IntKind.wrap_u64]; omega
            have hxpl : xp < 18446744073709551616 := by omega
            have HXP := hide hxp
            clear hxp
            have hput : (putW cs zo out).setIfInBounds (zo + k) (W64 xp) = putW cs zo (out ++ [xp]) := by rw [putW_snoc, hol.out]
            have hb2 := hbk.set_ (zo + k) (W64 xp)
            rw [hput] at hb2
            clear hput
            have hu2 : Upd [zb] w (wr.setCell ⟨zb, zo + k, none⟩ (W64 xp)) := hu.setCell (by simp) _
            have hol2 : (out ++ [xp]).length = k + 1 := by rw [List.length_append, hol.out]; rfl
            have HO2 := hide hol2
            clear hol2
            have hv2 : val (out ++ [xp]) + y = val (xs.take (k + 1)) + 18446744073709551616 ^ (k + 1) * 0 := borrow_step out k 1 xp 0 xk 0 _ y _ y hol.out hv.out (by have := HXP.out; omega) VX.out (by omega)
            have hfin : val (out ++ [xp] ++ xs.drop (k + 1)) + y = val xs + 18446744073709551616 ^ n * 0 := by
              rw [val_append, HO2.out, val_take_drop xs (k + 1) (by rw [HL.out]; omega)]
              omega
            have hflen : (out ++ [xp] ++ xs.drop (k + 1)).length = n := by rw [List.length_append, HO2.out, List.length_drop, HL.out]; omega
            have hflt : ∀ x ∈ out ++ [xp] ++ xs.drop (k + 1), x < 18446744073709551616 := by
              intro x hx
              rcases List.mem_append.1 hx with h | h
              · exact mem_snoc hos.out hxpl x h
              · exact hxs x (List.mem_of_mem_drop h)
            have HFI := hide hfin
            have HFL := hide hflen
            have HFT := hide hflt
            clear hv2 hfin hflen hflt
            by_cases hsame : xb = zb
            · obtain rfl := hsame
              obtain rfl := ha rfl
              clear cz
              have hq := neq_same (wr.setCell ⟨xb, zo + k, none⟩ (W64 xp)) ⟨xb, zo, none⟩
              go_wp2_with fail
              go_quiet (fail)
              go_wp2
              go_ret
              have hr := rest_same (out := out ++ [xp]) hz hx HL.out HO2.out
              exact ⟨0, _, rfl, by omega, HFL.out, HFT.out, HFI.out, (by rw [hr]; exact hb2), hu2.drewN _⟩
            · have hxb3 : Blk (wr.setCell ⟨zb, zo + k, none⟩ (W64 xp)) xb 161 cx := (hxb.upd hu2 (by simpa using hsame))
              have hq := neq_other (wr.setCell ⟨zb, zo + k, none⟩ (W64 xp)) (a := ⟨zb, zo, none⟩) (b := ⟨xb, xo, none⟩) (by intro e; injection e with e; exact hsame e.symm) hb2 hxb3
              obtain ⟨A1, hA1, hA1'⟩ : ∃ A1 : Option Addr, (if zc = k + 1 then some (⟨zb, zo, none⟩ : Addr) else some ⟨zb, zo + (k + 1), none⟩) = A1 ∧ (k + 1 < n → A1 = some ⟨zb, zo + (k + 1), none⟩) := ⟨_, rfl, fun h => by rw [if_neg (by omega)]⟩
              obtain ⟨A2, hA2, hA2'⟩ : ∃ A2 : Option Addr, (if xc = k + 1 then some (⟨xb, xo, none⟩ : Addr) else some ⟨xb, xo + (k + 1), none⟩) = A2 ∧ (k + 1 < n → A2 = some ⟨xb, xo + (k + 1), none⟩) := ⟨_, rfl, fun h => by rw [if_neg (by omega)]⟩
              have HA1 := hide hA1'
              have HA2 := hide hA2'
              clear hA1' hA2'
              have hcl : Hid ((xs.drop (k + 1)).length = Nat.min (n - (k + 1)) (n - (k + 1))) := by show _ = _; rw [List.length_drop, HL.out]; exact (Nat.min_self _).symm
              have hp1 : k + 1 ≤ n := by omega
              have hp1' : (k : Int) + 1 ≤ (n : Int) := by omega
              have hp1b : (k : Int) + 1 ≤ (zc : Int) := by omega
              have hp1c : (k : Int) + 1 ≤ (xc : Int) := by omega
              have hp2 : k + 1 ≤ zc := by omega
              have hp3 : k + 1 ≤ xc := by omega
              have hw2 : IntKind.i64.wrap ((k : Int) + 1) = (k : Int) + 1 := IntWalk.i64_in _ (by omega)
              have hw3 : ((k : Int) + 1).toNat = k + 1 := by omega
              have hw4 : (0 : Int) ≤ (k : Int) + 1 := by omega
              go_wp2_with fail
              go_quiet (fail)
              go_wp2_with fail
              have hpos : 0 < (xs.drop (k + 1)).length → A1 = some ⟨zb, zo + (k + 1), none⟩ ∧ ∃ xb' xo', A2 = some ⟨xb', xo', none⟩ ∧ ∀ j, j < (xs.drop (k + 1)).length → (wr.setCell ⟨zb, zo + k, none⟩ (W64 xp)).cell? ⟨xb', xo' + j, none⟩ = some (W64 ((xs.drop (k + 1)).getD j 0)) := by
                intro h0
                rw [List.length_drop, HL.out] at h0
                refine ⟨HA1.out (by omega), xb, xo + (k + 1), HA2.out (by omega), fun j hj => ?_⟩
                rw [List.length_drop, HL.out] at hj
                have hc := hx (k + 1 + j) (by omega)
                rw [hu2.cell (p := ⟨xb, xo + (k + 1) + j, none⟩) hxb.lt (by simpa using hsame), Nat.add_assoc, hc, getD_drop]
              have hfit : zo + (k + 1) + (xs.drop (k + 1)).length ≤ (putW cs zo (out ++ [xp])).size := by rw [putW_size, List.length_drop, HL.out]; omega
              go_region_law (refine step_copy_W rfl (.tmp 69) (.tmp 73) 130 130 rfl 161 Tryz.underlying130 size161 A1 A2 (n - (k + 1)) (zc - (k + 1)) (n - (k + 1)) (xc - (k + 1)) (by simp [Act.eval, Act.put]) (by simp [Act.eval, Act.put]) zb (zo + (k + 1)) (putW cs zo (out ++ [xp])) hb2 (xs.drop (k + 1)) hcl.out hpos hfit ?_; intro w4 hb4 hu4)
              have hpa := putW_append (out ++ [xp]) (xs.drop (k + 1)) cs zo
              rw [HO2.out] at hpa
              have HPA := hide hpa
              clear hpa
              all_goals go_wp2
              all_goals go_ret
              all_goals exact ⟨0, _, rfl, by omega, HFL.out, HFT.out, HFI.out, (by have := hb4.out; rw [HPA.out] at this; exact this), ((hu2.drewN _).drew.trans hu4 (fun k hk _ => hk))⟩
        · obtain rfl : k = n := by omega
          go_wp2
          go_ret
          refine ⟨1, out, rfl, by omega, hol.out, hos.out, ?_, hbk, hu⟩
          have := hv.out
          have tX : xs.take k = xs := List.take_of_length_le (by rw [HL.out]; exact Nat.le_refl _)
          rw [tX] at this
          exact this

end Go.Proofs.YtnajekpckbfcdaaGreatDoor
