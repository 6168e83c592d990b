/-
  NormalizeCoins, backCoins, ParseCoins where each part is read.
-/
import Derived.Test.YtnajekpckbfcdaaGreatDoorN4
import Derived.Test.YtnajekpckbfcdaaGreatDoorN2
set_option linter.unusedVariables false
set_option linter.unusedSimpArgs false
namespace Go.Proofs.YtnajekpckbfcdaaGreatDoor
open Go.RowKit

theorem info103 : (Tryz.prog.info? 103).map (fun i => (i.zero, i.size, i.bytes)) = some (some (.agg #[.string ⟨#[]⟩, .pointer none]), 2, 24) := by kernel_rfl
/-- A coin cut to whole ones. -/
def whole (c : DC) : List UInt8 × Nat := (c.d, c.m / 1000000000000000000)
theorem DVals.append {w : World} {l l' : List DC} (h : DVals w l) (h' : DVals w l') : DVals w (l ++ l') := fun c hc => by
  rcases List.mem_append.1 hc with hc | hc
  · exact h c hc
  · exact h' c hc
theorem DVals.one {w : World} {d : List UInt8} {m p : Nat} {A : Option Addr} (h : IntV w p A m) : DVals w [⟨d, m, p⟩] := fun c hc => by
  rw [List.mem_singleton.1 hc]
  exact ⟨A, h⟩

/-- The numbers stay behind an append onto a row of coins. -/
theorem DVals.own {w w' : World} {l : List DC} {base s n : Nat} {v : Value} {xs : List Value} (h : DVals w l) (hown : w.ownsRow base 103 s v n xs) (hg : w.grownBy w' v.ownBlock) : DVals w' l := fun c hc => by
  obtain ⟨A, L, C, hb, hS⟩ := h c hc
  rcases hown.2 with ⟨rfl, _⟩ | ⟨g, cap, cur, rfl, _, hgb, _⟩
  · have hu : Upd [] w w' := ⟨hg.os, hg.tape, hg.output, hg.size, fun k hk _ => hg.block k hk (by simp [Value.ownBlock])⟩
    exact ⟨A, L, C, hb.upd hu (by simp), hS.upd hu (by simp)⟩
  · have hB : Blk w g 103 cur := hgb
    have hu : Upd [g] w w' := ⟨hg.os, hg.tape, hg.output, hg.size, fun k hk hn => hg.block k hk (by simp [Value.ownBlock]; rintro rfl; simp at hn)⟩
    have hne := hb.ne_ hB (by decide)
    refine ⟨A, L, C, hb.upd hu (by simpa using hne), hS.upd hu ?_⟩
    intro b hb' hm
    simp at hm
    subst hm
    exact hS.not_mem hB (by decide) hb'

/-- What NormalizeCoins hands back. -/
def NormRes (w : World) (l : List DC) (e : Ending) (w' : World) : Prop :=
  ∃ v l2, e = .returned v ∧ w'.ownsRow w.heap.size 103 2 v l2.length (dcells l2) ∧ l2.map dm = l.map whole ∧ DVals w' l2 ∧ Upd [] w w'

set_option maxRecDepth 20000 in
set_option maxHeartbeats 4000000 in
theorem NormalizeCoins_50 (p : Nat) (mv : Value) (l : List DC) (a : Addr) (c : Nat) (hn : l.length ≤ 1000) (hd : ∀ x ∈ l, isDen x.d = true ∧ x.d.length ≤ 1000 ∧ x.m < 18446744073709551616 * 1000000000000000000) (w : World)
    (hrow : 0 < l.length → ∃ g cap, a = ⟨g, 0, none⟩ ∧ DRow w g cap l) (hv : DVals w l) (hp : Blk w p 129 #[mv, .string ⟨#[]⟩]) (hN : Nums w) :
    Calls Tryz.prog 50 #[.pointer (some ⟨p, 0, none⟩), .slice (some a) l.length c] w (NormRes w l) := by
  have Q := q58
  obtain ⟨n, hne⟩ : ∃ n, l.length = n := ⟨_, rfl⟩
  have HN := hide hne
  have HD := hide hd
  have HROW := hide hrow
  rw [hne] at hn ⊢
  obtain ⟨i0, hi, hz0, hz1, hz2⟩ := info_parts info103
  have hmk : ∀ w : World, (Instr.makeSlice 66 (.int .i64 0) (.int .i64 (n : Int))).run Tryz.prog w = .ok (.slice (some ⟨w.heap.size, 0, none⟩) 0 n) (w.alloc (.cells (madeCells #[.string ⟨#[]⟩, .pointer none] (n * 2)) 103)) := fun w => by
    have := run_make_rowN (P := Tryz.prog) 66 103 i0 _ Tryz.underlying66 hi hz0 .i64 .i64 0 n (Nat.zero_le _) (by rw [hz2]; omega) (by omega) w
    rw [hz1] at this
    exact this
  have hpl := hp.lt
  clear hd hrow hne
  go_enter Tryz.func50, Tryz.ntmps50
  go_upto_region 4 with (fail)
  have hown0 := World.ownsRow_made (e := 103) (size := 2) (base := w.heap.size) w (madeCells #[.string ⟨#[]⟩, .pointer none] (n * 2)) n (Nat.le_refl _) (by unfold maxLen; omega) (by rw [size_madeCells])
  have u1 := (Upd.refl [] w).alloc (.cells (madeCells #[.string ⟨#[]⟩, .pointer none] (n * 2)) 103)
  generalize madeCells #[.string ⟨#[]⟩, .pointer none] (n * 2) = cur0 at *
  generalize w.alloc (.cells cur0 103) = w1 at *
  go_wp2_with fail
  go_loopw [5, 17] (fun v i wr => ∃ (k : Nat) (l2 : List DC), k ≤ n ∧ i = .int .i64 k ∧ wr.ownsRow w.heap.size 103 2 v l2.length (dcells l2) ∧ Hid (l2.map dm = (l.take k).map whole) ∧ DVals wr l2 ∧ Upd [] w wr) (fun _ i _ => n - (intOf i).toNat)
  case atStart => exact ⟨0, [], by omega, rfl, hown0, rfl, fun c hc => by simp at hc, u1⟩
  case round =>
    obtain ⟨k, l2, hk, rfl, hown, hmap, hv2, hu⟩ := hrel
    have HOWN := hide hown
    clear hown hown0 u1
    rcases (by omega : k < n ∨ k = n) with hlt | rfl
    · have hkl : k < l.length := by have := HN.out; omega
      obtain ⟨g, cap, rfl, h⟩ := HROW.out (by omega)
      have hr := h.grow hu
      have c0 := hr.cell0 k hkl
      have c1 := hr.cell1 k hkl
      obtain ⟨A, hI⟩ := (hv.grow hu) l[k] (List.getElem_mem _)
      obtain ⟨hxd, hxl, hxm⟩ := HD.out l[k] (List.getElem_mem _)
      have htk : l.take (k + 1) = l.take k ++ [l[k]] := List.take_succ_eq_append_getElem hkl
      have hl2 : l2.length ≤ 1000 := by
        have h1 := congrArg List.length hmap.out
        rw [List.length_map, List.length_map, List.length_take] at h1
        omega
      have s1 : (k : Int) < (n : Int) := by omega
      have HTK := hide htk
      clear htk
      generalize l[k] = x at *
      have HNM := hide (fun w' (hu' : Upd [] w w') => Normalize_78 p mv (bs x.d) x.q w' (hp.grow hu'))
      have HTD := hide (fun w' (hu' : Upd [] wr w') => TruncDec_79 x.d (by omega) hxd w' x.q A x.m (hI.grow hu') hxm (hN.grow (hu.on0 hu')))
      have HU := hide hu
      clear hxd hxl hxm hr hI h hv hp hN HD HROW
      obtain ⟨m1, hm1⟩ : ∃ m1, x.m / 1000000000000000000 = m1 := ⟨_, rfl⟩
      obtain ⟨m2, hm2⟩ : ∃ m2, x.m % 1000000000000000000 = m2 := ⟨_, rfl⟩
      rw [hm1, hm2] at HTD
      have HX := hide (show whole x = (x.d, m1) by unfold whole; rw [hm1])
      clear hm1 hm2
      have u2 := hu.alloc (.cells #[.string (bs x.d), .pointer (some ⟨x.q, 0, none⟩)] 87)
      have U2 := (Upd.refl [] wr).alloc (.cells #[.string (bs x.d), .pointer (some ⟨x.q, 0, none⟩)] 87)
      have hT2 := Blk.new wr 87 #[.string (bs x.d), .pointer (some ⟨x.q, 0, none⟩)]
      have HO2 := hide (HOWN.out.alloc (.cells #[.string (bs x.d), .pointer (some ⟨x.q, 0, none⟩)] 87))
      have hV2 := hv2.grow U2
      clear HOWN hu hv2
      go_upto_region 7 with (fail)
      clear c0 c1
      obtain ⟨Y, hY⟩ : ∃ Y, wr.heap.size = Y := ⟨_, rfl⟩
      rw [hY] at hT2 ⊢
      generalize wr.alloc (.cells #[.string (bs x.d), .pointer (some ⟨x.q, 0, none⟩)] 87) = w2 at *
      clear hY
      have y0 := hT2.fst
      have y1 := hT2.snd
      go_wp2_with fail
      refine (HNM.out _ u2).mono ?_
      rintro e w3 ⟨rfl, hu3⟩
      have u3 := u2.on0 hu3
      have U3 := U2.on0 hu3
      have HO3 := hide (own_grow HO2.out hu3)
      have hV3 := hV2.grow hu3
      clear HNM HO2 u2 hT2 y0 y1 hu3 U2 hV2
      go_wp2_with fail
      refine (HTD.out _ U3).mono ?_
      rintro e w4 ⟨p1, A1, p2, A2, rfl, hI1, hI2, hu4, hp1, hp2, hA1, hA2⟩
      have u4 := u3.on0 hu4
      have HO4 := hide (own_grow HO3.out hu4)
      have HV4 := hide ((hV3.grow hu4).append (DVals.one (d := x.d) hI1))
      clear HTD HO3 u3 U3 hV3 hu4 hI1 hI2 hp1 hp2 hA1 hA2
      go_upto_region 8 with (fail)
      have hW5 : Upd [] w4 ((w4.alloc (.cells #[.string (bs x.d), .pointer (some ⟨p1, 0, none⟩)] 103)).alloc (.cells #[.string (bs x.d), .pointer (some ⟨p2, 0, none⟩)] 87)) := ((Upd.refl [] w4).alloc _).alloc _
      have u5 := u4.on0 hW5
      have HO5 := hide (own_grow HO4.out hW5)
      have HV5 := hide (HV4.out.grow hW5)
      have hT5 := (Blk.new w4 103 #[.string (bs x.d), .pointer (some ⟨p1, 0, none⟩)]).alloc (.cells #[.string (bs x.d), .pointer (some ⟨p2, 0, none⟩)] 87)
      generalize (w4.alloc (.cells #[.string (bs x.d), .pointer (some ⟨p1, 0, none⟩)] 103)).alloc (.cells #[.string (bs x.d), .pointer (some ⟨p2, 0, none⟩)] 87) = w5 at *
      generalize w4.heap.size = Z at hT5 ⊢
      clear HO4 HV4 u4 hW5
      have y0 := hT5.fst
      have y1 := hT5.snd
      have hwb := u5.size
      go_upto_region 9 with (first
        | (at_builtin; refine wpList_append_own _ rfl _ _ 66 rfl w.heap.size 103 i0 (.agg #[.string ⟨#[]⟩, .pointer none]) 2 24 Tryz.underlying66 hi hz0 hz1 hz2 rfl (by decide) _ _ _ rfl (HO5.out.alloc _) ⟨w5.heap.size, 0, none⟩ 1 1 [.string (bs x.d), .pointer (some ⟨p1, 0, none⟩)] rfl rfl ?d1 ?d2 ?d3 ?d4 ?d5 ?_)
        | fail)
      case d1 =>
        intro j u hj
        match j, hj with
        | 0, hj => simp at hj; subst hj; simp [Addr.add]
        | 1, hj => simp at hj; subst hj; simp [Addr.add]
        | j + 2, hj => simp at hj
      case d2 =>
        intro u hu
        simp at hu
        rcases hu with rfl | rfl <;> rfl
      case d3 => unfold maxLen; omega
      case d4 => omega
      case d5 => simp; omega
      intro v' w6 hown' hgrow _
      have u6 : Upd [] w w6 := Upd.of_below ((Below.alloc (u5.below (Nat.le_refl _) (by simp)) hwb _).grown hgrow (by simp; omega) (fun k hk => (World.ownsRow.lt HO5.out k hk).1)) []
      have hv6 : DVals w6 (l2 ++ [⟨x.d, m1, p1⟩]) := (HV5.out.grow ((Upd.refl [] w5).alloc _)).own (HO5.out.alloc _) hgrow
      have ho6 : w6.ownsRow w.heap.size 103 2 v' (l2 ++ [(⟨x.d, m1, p1⟩ : DC)]).length (dcells (l2 ++ [(⟨x.d, m1, p1⟩ : DC)])) := by
        rw [dcells_append, List.length_append]; exact hown'
      have hmap' : (l2 ++ [(⟨x.d, m1, p1⟩ : DC)]).map dm = (l.take (k + 1)).map whole := by
        rw [HTK.out, List.map_append, List.map_append, hmap.out, List.map_cons, List.map_nil, List.map_cons, List.map_nil, HX.out]; rfl
      have HO6 := hide ho6
      have HM6 := hide hmap'
      clear ho6 hown' hgrow HO5 u5 hmap' HV5
      go_wp2
      go_roundw
      case rel => exact ⟨k + 1, l2 ++ [⟨x.d, m1, p1⟩], by omega, by go_num, HO6.out, HM6, hv6, u6⟩
      case measure => first | (simp [intOf]; done) | (simp [intOf]; omega)
    · have s1 : ¬ (k : Int) < (k : Int) := by omega
      have hlk : l.take k = l := List.take_of_length_le (by have := HN.out; omega)
      rw [hlk] at hmap
      go_wp2
      go_ret
      exact ⟨_, l2, rfl, HOWN.out, hmap.out, hv2, hu⟩

end Go.Proofs.YtnajekpckbfcdaaGreatDoor

namespace Go.Proofs.YtnajekpckbfcdaaGreatDoor
open Go.RowKit

/-- Strictly ascending denominations. -/
def StrictC (L : List (List UInt8 × Nat)) : Prop := L.Pairwise fun x y => Op.bytesLess x.1 y.1 = true
/-- No denomination twice. -/
def Uniq (L : List (List UInt8 × Nat)) : Prop := L.Pairwise fun x y => x.1 ≠ y.1
theorem StrictC.uniq {L : List (List UInt8 × Nat)} (h : StrictC L) : Uniq L := by
  unfold StrictC at h
  unfold Uniq
  exact h.imp (fun {a b} hab e => by rw [e, less_irrefl] at hab; cases hab)
theorem Uniq.perm {L M : List (List UInt8 × Nat)} (h : L.Perm M) (hu : Uniq L) : Uniq M := by
  unfold Uniq at *
  exact (h.pairwise_iff (fun {a b} hab e => hab e.symm)).1 hu
theorem Strict.map {l : List DC} (h : Strict l) : StrictC (l.map dm) := by
  unfold StrictC
  rw [List.pairwise_map]
  exact h
theorem Asc.strict {l : List DC} (h : Asc l) (hu : Uniq (l.map dm)) : Strict l := by
  unfold Asc at h
  unfold Uniq at hu
  rw [List.pairwise_map] at hu
  unfold Strict
  refine (h.and hu).imp ?_
  rintro a b ⟨h1, h2⟩
  cases h3 : Op.bytesLess a.d b.d with
  | true => rfl
  | false => exact absurd (less_antisymm _ _ h3 h1) h2
/-- Two strictly ascending lists of the same coins are alike. -/
theorem StrictC.eq : ∀ {L M : List (List UInt8 × Nat)}, StrictC L → StrictC M → L.Perm M → L = M
  | [], M, _, _, h => by rw [List.nil_perm] at h; rw [h]
  | x :: L, [], _, _, h => by rw [List.perm_nil] at h; exact h
  | x :: L, y :: M, h1, h2, h => by
    have g1 := h1
    have g2 := h2
    unfold StrictC at h1 h2
    rw [List.pairwise_cons] at h1 h2
    have hxy : x = y := by
      have hx : x ∈ y :: M := h.mem_iff.1 (by simp)
      have hy : y ∈ x :: L := h.mem_iff.2 (by simp)
      rcases List.mem_cons.1 hx with hx | hx
      · exact hx
      rcases List.mem_cons.1 hy with hy | hy
      · exact hy.symm
      have a1 := h2.1 x hx
      have a2 := h1.1 y hy
      rw [less_asymm _ _ a1] at a2; cases a2
    subst hxy
    rw [StrictC.eq h1.2 h2.2 (List.Perm.cons_inv h)]
/-- A coin set in at its place. -/
theorem StrictC.insert {L : List (List UInt8 × Nat)} {c : List UInt8 × Nat} {k : Nat} (h : StrictC L) (hk : k ≤ L.length) (h1 : ∀ x ∈ L.take k, Op.bytesLess x.1 c.1 = true)
    (h2 : ∀ x, L[k]? = some x → Op.bytesLess x.1 c.1 = false ∧ x.1 ≠ c.1) : StrictC (L.take k ++ c :: L.drop k) := by
  have h0 := h
  rw [← List.take_append_drop k L] at h0
  unfold StrictC at h0 ⊢
  rw [List.pairwise_append] at h0 ⊢
  obtain ⟨a1, a2, a3⟩ := h0
  have hd : ∀ y ∈ L.drop k, Op.bytesLess c.1 y.1 = true := by
    intro y hy
    rcases Nat.lt_or_ge k L.length with hlt | hge
    · rw [List.drop_eq_getElem_cons hlt] at hy a2
      obtain ⟨b1, b2⟩ := h2 _ (List.getElem?_eq_getElem hlt)
      have b3 : Op.bytesLess c.1 (L[k]).1 = true := by
        cases h3 : Op.bytesLess c.1 (L[k]).1 with
        | true => rfl
        | false => exact absurd (less_antisymm _ _ b1 h3) b2
      rcases List.mem_cons.1 hy with rfl | hy
      · exact b3
      · exact less_trans _ _ _ b3 ((List.pairwise_cons.1 a2).1 y hy)
    · rw [List.drop_of_length_le hge] at hy; cases hy
  refine ⟨a1, List.pairwise_cons.2 ⟨hd, a2⟩, ?_⟩
  intro a ha b hb
  rcases List.mem_cons.1 hb with rfl | hb
  · exact h1 a ha
  · exact a3 a ha b hb
/-- What a part that is read holds. -/
theorem Part.Ok.rd_some {p : Part} (h : p.Ok) {x : List UInt8 × Nat} (hr : p.rd = some x) : p.expr = true ∧ p.amt = true ∧ x = (p.denom, dv p.digits) ∧ isDen x.1 = true ∧ x.1.length ≤ 140 ∧ x.2 < 1000000000000000000 * 1000000000000000000 := by
  unfold Part.rd at hr
  split at hr
  · rename_i hc
    rw [Bool.and_eq_true] at hc
    injection hr with hr
    subst hr
    have ha := h.amount hc.2
    have hw := h.wv
    refine ⟨hc.1, hc.2, rfl, ?_, h.d140, ?_⟩
    · have := hc.1
      unfold Part.expr at this
      rw [Bool.and_eq_true] at this
      exact this.2
    · show dv p.digits < _
      rw [ha.1]; omega
  · cases hr
/-- The parts' law: the sorted row that is strict, or a denomination twice. -/
theorem sorted_eq {l' : List DC} {N L : List (List UInt8 × Nat)} (hp : (l'.map dm).Perm N) (ha : Asc l') (hL : StrictC L) (hN : L.Perm N) : Strict l' ∧ l'.map dm = L := by
  have hu : Uniq (l'.map dm) := Uniq.perm (hN.trans hp.symm) hL.uniq
  have hs := Asc.strict ha hu
  exact ⟨hs, StrictC.eq hs.map hL (hp.trans hN.symm)⟩
end Go.Proofs.YtnajekpckbfcdaaGreatDoor

namespace Go.Proofs.YtnajekpckbfcdaaGreatDoor
open Go.RowKit

section
variable {P : Program} (w : World)
end
end Go.Proofs.YtnajekpckbfcdaaGreatDoor

namespace Go.Proofs.YtnajekpckbfcdaaGreatDoor
open Go.RowKit

theorem CoinIsNil_80 (d : ByteArray) (p : Nat) (A : Option Addr) (m : Int) (w : World) (h : IntV w p A m) (hm : Sm m) :
    Calls Tryz.prog 80 #[CV d p] w fun e w' => e = .returned (.bool false) ∧ Upd [] w w' := by
  have u1 : Upd [] w (w.alloc (.cells #[.string d, .pointer (some ⟨p, 0, none⟩)] 103)) := (Upd.refl _ _).alloc _
  have HB := hide (IntBigInt_114 _ p A m (h.grow u1) hm)
  have c1 := (Blk.new w 103 #[.string d, .pointer (some ⟨p, 0, none⟩)]).snd
  clear h hm
  go_enter Tryz.func80, Tryz.ntmps80
  go_wp2_with fail
  refine HB.out.mono ?_
  rintro e w2 ⟨p2, A2, rfl, hI, hu, _, _⟩
  have nn := n_ptr83_nil
  go_wp2
  go_ret
  exact ⟨rfl, u1.on0 hu⟩

theorem backCoin_51 (d : ByteArray) (p : Nat) (A : Option Addr) (a : Nat) (w : World) (h : IntV w p A a) (ha : a < 9223372036854775808) :
    Calls Tryz.prog 51 #[CV d p] w fun e w' => e = .returned (.tuple #[.agg #[.string d, .int .i64 a], .bool true]) ∧ Upd [] w w' := by
  have hsa : Sm (a : Int) := sm_of (k := 9223372036854775808) (by rw [Int.natAbs_natCast]; omega) (by decide)
  have HSA := hide hsa
  have HN := hide (fun w' (hu : Upd [] w w') => CoinIsNil_80 d p A a w' (h.grow hu) HSA.out)
  have HI := hide (fun w' (hu : Upd [] w w') => IntIsInt64_81 w' p A a (h.grow hu) ha)
  have HV := hide (fun w' (hu : Upd [] w w') => IntInt64_82 w' p A a (h.grow hu) ha)
  have u1 : Upd [] w ((w.alloc (.cells #[.string d, .pointer (some ⟨p, 0, none⟩)] 103)).alloc (.cells #[.string ⟨#[]⟩, .int .i64 0] 52)) := ((Upd.refl [] w).alloc _).alloc _
  have hb := (Blk.new w 103 #[.string d, .pointer (some ⟨p, 0, none⟩)]).alloc (.cells #[.string ⟨#[]⟩, .int .i64 0] 52)
  have hR := Blk.new (w.alloc (.cells #[.string d, .pointer (some ⟨p, 0, none⟩)] 103)) 52 #[.string ⟨#[]⟩, .int .i64 0]
  rw [World.size_alloc] at hR
  clear h hsa ha
  go_enter Tryz.func51, Tryz.ntmps51
  go_upto_region 1 with (fail)
  generalize (w.alloc (.cells #[.string d, .pointer (some ⟨p, 0, none⟩)] 103)).alloc (.cells #[.string ⟨#[]⟩, .int .i64 0] 52) = w1 at *
  have c0 := hb.fst
  have c1 := hb.snd
  go_wp2_with fail
  refine (HN.out _ u1).mono ?_
  rintro e w2 ⟨rfl, hu2⟩
  have u2 := u1.on0 hu2
  have hb2 := hb.grow hu2
  have hR2 := hR.grow hu2
  clear u1 hb hR c0 c1 hu2 HN
  have c0 := hb2.fst
  have c1 := hb2.snd
  go_wp2_with fail
  refine (HI.out _ u2).mono ?_
  rintro e w3 ⟨rfl, hu3⟩
  have u3 := u2.on0 hu3
  have hb3 := hb2.grow hu3
  have hR3 := hR2.grow hu3
  clear u2 hb2 hR2 c0 c1 hu3 HI
  go_upto_region 3 with (fail)
  have u4 := u3.drew
  have hb4 := hb3.drew
  have hR4 := hR3.drew
  have c0 := hb4.fst
  have c1 := hb4.snd
  clear u3 hb3 hR3
  go_region_held3 (fun w' => w'.cell? ⟨w.heap.size, 0, none⟩ = some (.string d) ∧ w'.cell? ⟨w.heap.size, 1, none⟩ = some (.pointer (some ⟨p, 0, none⟩)))
    (first | exact ⟨e0, e1⟩ | exact ⟨d0, d1⟩ | exact ⟨c0, c1⟩)
    (first
      | (go_at_call 82; refine (HV.out _ u4).mono ?_; rintro e w5 ⟨rfl, hu5⟩; have u5 := u4.on0 hu5; have hb5 := hb4.grow hu5; have hR5 := hR4.grow hu5; have d0 := hb5.fst; have d1 := hb5.snd; have r0 := hR5.fst; have r1 := hR5.snd; have f0 := hR5.frozen 0; have f1 := hR5.frozen 1;
         have hb6 := (hb5.far (p := ⟨w.heap.size + 1, 0, none⟩) (show w.heap.size ≠ w.heap.size + 1 by omega) (.string d)).far (p := ⟨w.heap.size + 1, 1, none⟩) (show w.heap.size ≠ w.heap.size + 1 by omega) (.int .i64 a); have e0 := hb6.fst; have e1 := hb6.snd))
  have hR6 := (hR5.put0 (.string d)).put1 (.int .i64 a)
  have u6 := (u5.setCell (p := ⟨w.heap.size + 1, 0, none⟩) (fun h => absurd (show w.heap.size + 1 < w.heap.size from h) (by omega)) (.string d)).setCell (p := ⟨w.heap.size + 1, 1, none⟩) (fun h => absurd (show w.heap.size + 1 < w.heap.size from h) (by omega)) (.int .i64 a)
  generalize (w5.setCell ⟨w.heap.size + 1, 0, none⟩ (.string d)).setCell ⟨w.heap.size + 1, 1, none⟩ (.int .i64 a) = w6 at *
  clear c0 c1 d0 d1 e0 e1 r0 r1 f0 f1
  have r0 := hR6.fst
  have r1 := hR6.snd
  have hl6 := hR6.lt
  go_wp2
  refine bodyPost_ret (v := .tuple #[.agg #[.string d, .int .i64 a], .bool true]) (by simp [results, Tryz.results51, r0, r1, hl6, go_sem]) rfl ?_
  exact ⟨rfl, u6⟩

theorem info52 : (Tryz.prog.info? 52).map (fun i => (i.zero, i.size, i.bytes)) = some (some (.agg #[.string ⟨#[]⟩, .int .i64 0]), 2, 24) := by kernel_rfl
/-- A coin as plain data: denomination, amount. -/
def wcells : List (List UInt8 × Nat) → List Value
  | [] => []
  | c :: r => .string (bs c.1) :: .int .i64 (c.2 : Nat) :: wcells r
theorem wcells_append (a b : List (List UInt8 × Nat)) : wcells (a ++ b) = wcells a ++ wcells b := by
  induction a with
  | nil => rfl
  | cons c r ih => simp [wcells, ih]
theorem addr_add0 (g j : Nat) : (⟨g, 0, none⟩ : Addr).add j = ⟨g, j, none⟩ := by
  by_cases h : j = 0
  · subst h; simp [Addr.add]
  · simp [Addr.add, h]
/-- A row of coins of whole ones, read. -/
theorem own_crow {w : World} {base n : Nat} {v : Value} {l : List DC} (h : w.ownsRow base 103 2 v n (dcells l)) (hn : n = l.length) (h0 : 0 < n) :
    ∃ g cap, v = .slice (some ⟨g, 0, none⟩) n cap ∧ ∀ (k : Nat) (hk : k < l.length), w.cell? ⟨g, k * 2, none⟩ = some (.string (bs l[k].d)) ∧ w.cell? ⟨g, k * 2 + 1, none⟩ = some (.pointer (some ⟨l[k].q, 0, none⟩)) := by
  rcases h.2 with ⟨_, h1⟩ | ⟨g, cap, cur, rfl, _, hg, _⟩
  · omega
  · refine ⟨g, cap, rfl, ?_⟩
    intro k hk
    obtain ⟨e1, e2⟩ := dcells_get l k hk
    have c1 := h.cells (g := g) rfl _ _ e1
    have c2 := h.cells (g := g) rfl _ _ e2
    rw [addr_add0] at c1 c2
    exact ⟨c1, c2⟩

set_option maxRecDepth 20000 in
set_option maxHeartbeats 4000000 in
theorem backCoins_30 (l : List DC) (base : Nat) (A : Value) (hn : l.length ≤ 1000) (hm : ∀ x ∈ l, x.m < 9223372036854775808) (w : World) (hA : w.ownsRow base 103 2 A l.length (dcells l)) (hv : DVals w l) :
    Calls Tryz.prog 30 #[A] w fun e w' => ∃ v, e = .returned (.tuple #[v, .bool true]) ∧ w'.ownsRow w.heap.size 52 2 v l.length (wcells (l.map dm)) ∧ Upd [] w w' := by
  rcases Nat.eq_zero_or_pos l.length with h0 | h0
  · have hl : l = [] := List.length_eq_zero_iff.1 h0
    subst hl
    obtain ⟨a, c, rfl⟩ : ∃ a c, A = .slice a 0 c := by
      rcases hA.2 with ⟨h, _⟩ | ⟨g, cap, cur, h, _⟩
      · exact ⟨_, _, h⟩
      · exact ⟨_, _, h⟩
    simp only [List.length_nil]
    clear hA hm hv hn h0
    go_enter Tryz.func30, Tryz.ntmps30
    go_wp2
    refine wp_loop_rounds 1 ?_
    rw [rounds_succ]
    go_wp2
    go_ret2
    exact ⟨_, rfl, World.ownsRow_nil _ _ _ _, Upd.refl _ _⟩
  obtain ⟨g, cap, rfl, hcell⟩ := own_crow hA rfl h0
  have hgl : g < w.heap.size := by
    have := (hcell 0 h0).1
    exact World.block_lt_of_cell? w _ this
  have HC := hide hcell
  obtain ⟨n, hne⟩ : ∃ n, l.length = n := ⟨_, rfl⟩
  have HN := hide hne
  rw [hne] at hn ⊢
  clear hne hA h0 hcell
  obtain ⟨i0, hi, hz0, hz1, hz2⟩ := info_parts info52
  have HM := hide hm
  clear hm
  go_enter Tryz.func30, Tryz.ntmps30
  go_wp2_with fail
  go_loopw [4, 11] (fun v i wr => ∃ k : Nat, k ≤ n ∧ i = .int .i64 k ∧ wr.ownsRow w.heap.size 52 2 v k (wcells ((l.take k).map dm)) ∧ Upd [] w wr) (fun _ i _ => n - (intOf i).toNat)
  case atStart => exact ⟨0, by omega, rfl, World.ownsRow_nil _ _ _ _, Upd.refl _ _⟩
  case round =>
    obtain ⟨k, hk, rfl, hown, hu⟩ := hrel
    have HOWN := hide hown
    clear hown
    rcases (by omega : k < n ∨ k = n) with hlt | rfl
    · have hkl : k < l.length := by have := HN.out; omega
      obtain ⟨c0', c1'⟩ := HC.out k hkl
      have c0 := (hu.cell (p := ⟨g, k * 2, none⟩) hgl (by simp)).trans c0'
      have c1 := (hu.cell (p := ⟨g, k * 2 + 1, none⟩) hgl (by simp)).trans c1'
      obtain ⟨A, hI⟩ := (hv.grow hu) l[k] (List.getElem_mem _)
      have hmk := HM.out l[k] (List.getElem_mem _)
      have htk : l.take (k + 1) = l.take k ++ [l[k]] := List.take_succ_eq_append_getElem hkl
      have s1 : (k : Int) < (n : Int) := by omega
      have HTK := hide htk
      clear htk c0' c1'
      generalize l[k] = x at *
      have HB := hide (fun w hI => backCoin_51 (bs x.d) x.q A x.m w hI hmk)
      have HX := hide (show wcells ([x].map dm) = [.string (bs x.d), .int .i64 x.m] by simp [wcells, dm])
      clear hmk
      have u2 := hu.alloc (.cells #[.string (bs x.d), .pointer (some ⟨x.q, 0, none⟩)] 103)
      have hI2 := hI.alloc (.cells #[.string (bs x.d), .pointer (some ⟨x.q, 0, none⟩)] 103)
      have hT2 := Blk.new wr 103 #[.string (bs x.d), .pointer (some ⟨x.q, 0, none⟩)]
      have ho2 := HOWN.out.alloc (.cells #[.string (bs x.d), .pointer (some ⟨x.q, 0, none⟩)] 103)
      have HO2 := hide ho2
      clear ho2 HOWN
      go_upto_region 5 with (fail)
      clear c0 c1 hu hI
      obtain ⟨Y, hY⟩ : ∃ Y, wr.heap.size = Y := ⟨_, rfl⟩
      rw [hY] at hT2 ⊢
      generalize wr.alloc (.cells #[.string (bs x.d), .pointer (some ⟨x.q, 0, none⟩)] 103) = w2 at *
      clear hY
      have y0 := hT2.fst
      have y1 := hT2.snd
      go_wp2_with fail
      refine (HB.out _ hI2).mono ?_
      rintro e w3 ⟨rfl, hu3⟩
      have u3 := u2.on0 hu3
      have HO3 := hide (own_grow HO2.out hu3)
      clear HB HO2 u2 hT2 y0 y1 hu3 hI2
      obtain ⟨xm, hxm⟩ : ∃ xm, x.m = xm := ⟨_, rfl⟩
      rw [hxm] at HX ⊢
      clear hxm
      have u4 := u3.alloc (.cells #[.string (bs x.d), .int .i64 xm] 52)
      have hT4 := Blk.new w3 52 #[.string (bs x.d), .int .i64 xm]
      have HO4 := hide (HO3.out.alloc (.cells #[.string (bs x.d), .int .i64 xm] 52))
      go_upto_region 8 with (fail)
      obtain ⟨Y2, hY2⟩ : ∃ Y2, w3.heap.size = Y2 := ⟨_, rfl⟩
      rw [hY2] at hT4 ⊢
      generalize w3.alloc (.cells #[.string (bs x.d), .int .i64 xm] 52) = w4 at *
      clear hY2 HO3 u3
      have y0 := hT4.fst
      have y1 := hT4.snd
      have hwb := u4.size
      go_upto_region 9 with (first
        | (at_builtin; refine wpList_append_own _ rfl _ _ 31 rfl w.heap.size 52 i0 (.agg #[.string ⟨#[]⟩, .int .i64 0]) 2 24 Tryz.underlying31 hi hz0 hz1 hz2 rfl (by decide) _ _ _ rfl (HO4.out.alloc _) ⟨w4.heap.size, 0, none⟩ 1 1 [.string (bs x.d), .int .i64 xm] rfl rfl ?d1 ?d2 ?d3 ?d4 ?d5 ?_)
        | fail)
      case d1 =>
        intro j u hj
        match j, hj with
        | 0, hj => simp at hj; subst hj; simp [Addr.add]
        | 1, hj => simp at hj; subst hj; simp [Addr.add]
        | j + 2, hj => simp at hj
      case d2 =>
        intro u hu
        simp at hu
        rcases hu with rfl | rfl <;> rfl
      case d3 => unfold maxLen; omega
      case d4 => omega
      case d5 => simp; omega
      intro v' w5 hown' hgrow _
      have u5 : Upd [] w w5 := Upd.of_below ((Below.alloc (u4.below (Nat.le_refl _) (by simp)) hwb _).grown hgrow (by simp; omega) (fun k hk => (World.ownsRow.lt HO4.out k hk).1)) []
      have ho5 : w5.ownsRow w.heap.size 52 2 v' (k + 1) (wcells ((l.take (k + 1)).map dm)) := by
        rw [HTK.out, List.map_append, wcells_append, HX.out, List.map_take]; exact hown'
      have HO5 := hide ho5
      clear ho5 hown' hgrow HO4 u4
      go_wp2
      go_roundw
      case rel => exact ⟨k + 1, by omega, by go_num, HO5.out, u5⟩
      case measure => first | (simp [intOf]; done) | (simp [intOf]; omega)
    · have s1 : ¬ (k : Int) < (k : Int) := by omega
      have hlk : l.take k = l := List.take_of_length_le (by have := HN.out; omega)
      rw [hlk] at HOWN
      go_wp2
      go_ret2
      exact ⟨_, rfl, HOWN.out, hu⟩

end Go.Proofs.YtnajekpckbfcdaaGreatDoor

namespace Go.Proofs.YtnajekpckbfcdaaGreatDoor
open Go.RowKit

def PCNRes (w : World) (cs : List (List UInt8 × Nat)) (e : Ending) (w' : World) : Prop :=
  ∃ l' : List DC, (l'.map dm).Perm (nzr cs) ∧ Asc l' ∧ Upd [] w w' ∧
    ((Strict l' ∧ ∃ v l2, e = .returned (.tuple #[v, .nilIface]) ∧ w'.ownsRow w.heap.size 103 2 v l2.length (dcells l2) ∧ l2.map dm = l'.map whole ∧ DVals w' l2) ∨
     (¬ Strict l' ∧ ∃ v0 v s, e = .returned (.tuple #[v0, v]) ∧ ErrV w' v s ∧ 0 < s.size))

set_option maxRecDepth 20000 in
theorem PCN_good (ps : List Part) (cs : List (List UInt8 × Nat)) (hok : ∀ p ∈ ps, p.Ok) (l : List UInt8) (hJ : (spl 44 l).map trim = ps.map Part.core) (hll : l.length ≤ 10000) (hne : trim l ≠ [])
    (hcl : cs.length = ps.length) (hrd : ∀ (k : Nat) (h : k < ps.length), ∃ x, cs[k]? = some x ∧ ps[k].rd = some x) (h12 : ps.length ≤ 12) (hden : ∀ x ∈ cs, isDen x.1 = true ∧ x.1.length ≤ 1000) (hsm : ∀ x ∈ cs, x.2 < 9223372036854775808 * 1000000000000000000) (p : Nat) (mv : Value) (w : World) (hG : Gl w) (hb : Blk w p 129 #[mv, .string ⟨#[]⟩]) :
    Calls Tryz.prog 29 #[.pointer (some ⟨p, 0, none⟩), .string (bs l)] w (PCNRes w cs) := by
  have HP := hide (ParseDecCoins_good ps cs hok l hJ hll hne hcl hrd h12 hden w hG)
  have HSM := hide hsm
  have HDEN := hide hden
  have HG := hide hG
  have hlen : (nzr cs).length ≤ 12 := Nat.le_trans (List.length_filter_le _ _) (by omega)
  clear hok hJ hll hne hrd hden hsm hG
  go_enter Tryz.func29, Tryz.ntmps29
  go_wp2_with fail
  refine HP.out.mono ?_
  rintro e w2 ⟨l', hp, hasc, hu, hres⟩
  rcases hres with ⟨hstr, A, n, c, rfl, hn, hA, hv, hrow⟩ | ⟨hstr, v, s, rfl, ⟨p2, rfl, hpb⟩, hs⟩
  · have hl' : l'.length ≤ 1000 := by
      have := hp.length_eq
      rw [List.length_map] at this
      omega
    have hd' : ∀ x ∈ l', isDen x.d = true ∧ x.d.length ≤ 1000 ∧ x.m < 18446744073709551616 * 1000000000000000000 := by
      intro x hx
      have h1 : dm x ∈ nzr cs := hp.mem_iff.1 (List.mem_map.2 ⟨x, hx, rfl⟩)
      have h2 := (List.mem_filter.1 h1).1
      have h3 := HDEN.out _ h2
      have h4 := HSM.out _ h2
      exact ⟨h3.1, h3.2, Nat.lt_trans h4 (by decide)⟩
    obtain ⟨a, rfl⟩ : ∃ a, A = some a := by
      cases A with
      | none => exact absurd rfl hA
      | some a => exact ⟨a, rfl⟩
    subst hn
    have HB := hide (NormalizeCoins_50 p mv l' a c hl' hd' w2 (fun h => by obtain ⟨g, cap, h1, h2⟩ := hrow h; exact ⟨g, cap, by injection h1, h2⟩) hv (hb.grow hu) (HG.out.grow hu).nums)
    have nn := n_nil_nil
    have HSTR := hide hstr
    have hs2 := hu.size
    obtain ⟨m, hm⟩ : ∃ m, l'.length = m := ⟨_, rfl⟩
    rw [hm] at HB ⊢
    clear hstr HP hl' hd' hm hrow hv
    go_wp2_with fail
    refine HB.out.mono ?_
    rintro e w3 ⟨v, l2, rfl, hown, hmap, hv2, hu3⟩
    have HOWN := hide hown
    have HMAP := hide hmap
    clear hown hmap
    go_wp2
    go_ret2
    exact ⟨l', hp, hasc, hu.on0 hu3, .inl ⟨HSTR.out, v, l2, rfl, own_mono HOWN.out hs2, HMAP.out, hv2⟩⟩
  · have nn := n_eof_nil ⟨p2, 0, none⟩
    have HSTR := hide hstr
    have HPB := hide hpb
    clear HP hstr hpb
    go_wp2
    go_ret2
    first
      | exact ⟨l', hp, hasc, hu, .inr ⟨HSTR.out, _, _, s, rfl, ⟨p2, rfl, HPB.out⟩, hs⟩⟩
      | exact ⟨l', hp, hasc, hu.alloc _, .inr ⟨HSTR.out, _, _, s, rfl, ⟨p2, rfl, HPB.out.alloc _⟩, hs⟩⟩

/-- What impl.ParseCoins hands back where each part is read. -/
def PCsRes (w : World) (cs : List (List UInt8 × Nat)) (e : Ending) (w' : World) : Prop :=
  ∃ l' : List DC, (l'.map dm).Perm (nzr cs) ∧ Asc l' ∧ Upd [] w w' ∧
    ((Strict l' ∧ ∃ v, e = .returned (.tuple #[v, .string ⟨#[]⟩]) ∧ w'.ownsRow w.heap.size 52 2 v l'.length (wcells (l'.map whole))) ∨
     (¬ Strict l' ∧ ∃ s, e = .returned (.tuple #[.slice none 0 0, .string s]) ∧ 0 < s.size))
set_option maxRecDepth 20000 in
theorem ParseCoins_good (ps : List Part) (cs : List (List UInt8 × Nat)) (hok : ∀ p ∈ ps, p.Ok) (l : List UInt8) (hJ : (spl 44 l).map trim = ps.map Part.core) (hll : l.length ≤ 10000) (hne : trim l ≠ [])
    (hcl : cs.length = ps.length) (hrd : ∀ (k : Nat) (h : k < ps.length), ∃ x, cs[k]? = some x ∧ ps[k].rd = some x) (h12 : ps.length ≤ 12) (hden : ∀ x ∈ cs, isDen x.1 = true ∧ x.1.length ≤ 1000) (hsm : ∀ x ∈ cs, x.2 < 9223372036854775808 * 1000000000000000000) (w : World) (hG : Gl w) :
    Calls Tryz.prog 12 #[.slice none 0 0, .string (bs l)] w (PCsRes w cs) := by
  have HP := hide (fun p mv w hG hb => PCN_good ps cs hok l hJ hll hne hcl hrd h12 hden hsm p mv w hG hb)
  have HSM := hide hsm
  have HG := hide hG
  have hlen : (nzr cs).length ≤ 12 := Nat.le_trans (List.length_filter_le _ _) (by omega)
  have n1 := nil_err
  have n2 := meth_err
  clear hok hJ hll hne hrd hden hsm hG
  go_enter Tryz.func12, Tryz.ntmps12
  go_wp2_with fail
  refine (registry_nil _).mono ?_
  rintro e w1 ⟨pr, mv, rfl, hb, hu1⟩
  have hG1 := HG.out.grow hu1
  go_wp2_with fail
  refine (HP.out _ _ _ hG1 hb).mono ?_
  rintro e w2 ⟨l', hp, hasc, hu, hres⟩
  have u2 := hu1.on0 hu
  rcases hres with ⟨hstr, v, l2, rfl, hown, hmap, hv⟩ | ⟨hstr, v0, v, s, rfl, ⟨p2, rfl, hpb⟩, hs⟩
  · have hl2 : l2.length = l'.length := by
      have := congrArg List.length hmap
      rwa [List.length_map, List.length_map] at this
    have hl' : l2.length ≤ 1000 := by
      have := hp.length_eq
      rw [List.length_map] at this
      omega
    have hm' : ∀ x ∈ l2, x.m < 9223372036854775808 := by
      intro x hx
      have h1 : dm x ∈ l'.map whole := by rw [← hmap]; exact List.mem_map.2 ⟨x, hx, rfl⟩
      obtain ⟨y, hy, hyx⟩ := List.mem_map.1 h1
      have h2 : dm y ∈ nzr cs := hp.mem_iff.1 (List.mem_map.2 ⟨y, hy, rfl⟩)
      have h3 := HSM.out _ (List.mem_filter.1 h2).1
      have h4 : y.m / 1000000000000000000 = x.m := congrArg Prod.snd hyx
      have h5 : y.m < 9223372036854775808 * 1000000000000000000 := h3
      omega
    have HB := hide (backCoins_30 l2 _ v hl' hm' w2 hown hv)
    have nn := n_nil_nil
    have HSTR := hide hstr
    have HMAP := hide hmap
    have HL2 := hide hl2
    have hs2 := u2.size
    clear hstr HP hl' hm' hown hmap hv hl2 hb hG1 HG HSM
    go_wp2_with fail
    refine HB.out.mono ?_
    rintro e w3 ⟨v3, rfl, hown, hu3⟩
    have HOWN := hide hown
    clear hown
    go_wp2
    go_ret2
    refine ⟨l', hp, hasc, u2.on0 hu3, .inl ⟨HSTR.out, v3, rfl, ?_⟩⟩
    have h := own_mono HOWN.out hs2
    rw [HMAP.out, HL2.out] at h
    exact h
  · have nn := n_eof_nil ⟨p2, 0, none⟩
    have HE := hide (Error_344 p2 s w2 hpb)
    have HSTR := hide hstr
    clear HP hstr hpb hb hG1 HG
    go_wp2_with fail
    refine HE.out.mono ?_
    rintro e w3 ⟨rfl, rfl⟩
    go_wp2
    go_ret2
    exact ⟨l', hp, hasc, u2, .inr ⟨HSTR.out, s, rfl, hs⟩⟩

end Go.Proofs.YtnajekpckbfcdaaGreatDoor
