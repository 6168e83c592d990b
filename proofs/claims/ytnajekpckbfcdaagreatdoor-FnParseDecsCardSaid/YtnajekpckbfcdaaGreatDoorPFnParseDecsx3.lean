-- PRINTED BY print.sh 35421559b90ae4d0a3588c463048766b98c2df88dd9212a6774a882060cdf62d: not written by this session
import Derived.Test.YtnajekpckbfcdaaGreatDoorPFnParseDecsx0
import Derived.Test.YtnajekpckbfcdaaGreatDoorPFnParseDecsx2
namespace Go.Proofs.YtnajekpckbfcdaaGreatDoor.PFnParseDecs
open Go.RowKit Go.Proofs.YtnajekpckbfcdaaGreatDoorW.PrintWords Go.Proofs.YtnajekpckbfcdaaGreatDoorW.PrintLast Go.Proofs.YtnajekpckbfcdaaGreatDoorW.PrintMore
attribute [local go_sem] max2_int min2_int max_two min_two max_three min_three max_four min_four   -- for this text's walks alone
set_option linter.unusedVariables false
set_option linter.unusedSimpArgs false

/-! ### spec_IsTextPart: function 23 -/
mutual
def spec_IsTextPart.j0 : Nat → Bool → ByteArray → ByteArray → Bool → ByteArray → ByteArray → ByteArray → ByteArray → Option (Bool)
  | 0, _, _, _, _, _, _, _, _ => none
  | k + 1, x40, x106000, x106001, x106002, x106003, x106004, x106005, x106006 => if x40 = true then (some false) else (spec_IsTextPart.l0 k 0 x106000 x106001 x106002 x106003 x106004 x106005 x106006)
def spec_IsTextPart.j2 : Nat → Int → ByteArray → ByteArray → Bool → ByteArray → ByteArray → ByteArray → ByteArray → Option (Bool)
  | 0, _, _, _, _, _, _, _, _ => none
  | k + 1, x3, x106000, x106001, x106002, x106003, x106004, x106005, x106006 => if (wrap64 ((x106001.size : Int) - x3)) > 15 then (spec_IsTextPart.j3 k (⟨#[48, 49, 50, 51, 52, 53, 54, 55, 56, 57]⟩ : ByteArray) true x106000 x106001 x106002 x106003 x106004 x106005 x106006) else (if (x106001.size : Int) > 25 then (spec_IsTextPart.j3 k (⟨#[48, 49, 50, 51, 52, 53, 54, 55, 56, 57]⟩ : ByteArray) true x106000 x106001 x106002 x106003 x106004 x106005 x106006) else (if (x106003.size : Int) > 30 then (spec_IsTextPart.j3 k (⟨#[48, 49, 50, 51, 52, 53, 54, 55, 56, 57]⟩ : ByteArray) true x106000 x106001 x106002 x106003 x106004 x106005 x106006) else ((spec_textIs.f k x106001 (⟨#[48, 49, 50, 51, 52, 53, 54, 55, 56, 57]⟩ : ByteArray)).bind fun t109 => (if t109 = true then ((spec_textIs.f k x106003 (⟨#[48, 49, 50, 51, 52, 53, 54, 55, 56, 57]⟩ : ByteArray)).bind fun t110 => (if t110 = true then (if x106002 = true then (spec_IsTextPart.j3 k (⟨#[48, 49, 50, 51, 52, 53, 54, 55, 56, 57]⟩ : ByteArray) (decide ((x106005.size : Int) > 140)) x106000 x106001 x106002 x106003 x106004 x106005 x106006) else (if x106003.toList = ([] : List UInt8) then (spec_IsTextPart.j3 k (⟨#[48, 49, 50, 51, 52, 53, 54, 55, 56, 57]⟩ : ByteArray) (decide ((x106005.size : Int) > 140)) x106000 x106001 x106002 x106003 x106004 x106005 x106006) else (spec_IsTextPart.j3 k (⟨#[48, 49, 50, 51, 52, 53, 54, 55, 56, 57]⟩ : ByteArray) true x106000 x106001 x106002 x106003 x106004 x106005 x106006))) else (spec_IsTextPart.j3 k (⟨#[48, 49, 50, 51, 52, 53, 54, 55, 56, 57]⟩ : ByteArray) true x106000 x106001 x106002 x106003 x106004 x106005 x106006))) else (spec_IsTextPart.j3 k (⟨#[48, 49, 50, 51, 52, 53, 54, 55, 56, 57]⟩ : ByteArray) true x106000 x106001 x106002 x106003 x106004 x106005 x106006)))))
def spec_IsTextPart.j3 : Nat → ByteArray → Bool → ByteArray → ByteArray → Bool → ByteArray → ByteArray → ByteArray → ByteArray → Option (Bool)
  | 0, _, _, _, _, _, _, _, _, _ => none
  | k + 1, x4, x102, x106000, x106001, x106002, x106003, x106004, x106005, x106006 => if x102 = true then (some false) else (spec_IsTextPart.l1 k x4 (x106005.size : Int) 0 x106000 x106001 x106002 x106003 x106004 x106005 x106006)
def spec_IsTextPart.l1 : Nat → ByteArray → Int → Int → ByteArray → ByteArray → Bool → ByteArray → ByteArray → ByteArray → ByteArray → Option (Bool)
  | 0, _, _, _, _, _, _, _, _, _, _ => none
  | k + 1, x4, x105, x106, x106000, x106001, x106002, x106003, x106004, x106005, x106006 => if x106 < x105 then (if 0 ≤ x106 then (if x106 < (x106005.size : Int) then (if (bt x106005 x106) ≤ 32 then (some false) else (if (bt x106005 x106) > 126 then (some false) else (if (bt x106005 x106) = 44 then (some false) else (spec_IsTextPart.l1 k x4 x105 (wrap64 (x106 + 1)) x106000 x106001 x106002 x106003 x106004 x106005 x106006)))) else (none)) else (none)) else (if x106005.toList = ([] : List UInt8) then (some true) else (if 0 ≤ 1 then (if 1 ≤ (x106005.size : Int) then (if x4.size + 1 ≤ 9223372036854775807 then ((spec_textIs.f k (x106005.extract 0 1) (x4 ++ (⟨#[46]⟩ : ByteArray))).bind fun t111 => (some (!t111))) else (none)) else (none)) else (none)))
def spec_IsTextPart.l0 : Nat → Int → ByteArray → ByteArray → Bool → ByteArray → ByteArray → ByteArray → ByteArray → Option (Bool)
  | 0, _, _, _, _, _, _, _, _ => none
  | k + 1, x3, x106000, x106001, x106002, x106003, x106004, x106005, x106006 => if x3 < (x106001.size : Int) then (if 0 ≤ x3 then (if (bt x106001 x3) = 48 then (spec_IsTextPart.l0 k (wrap64 (x3 + 1)) x106000 x106001 x106002 x106003 x106004 x106005 x106006) else (spec_IsTextPart.j2 k x3 x106000 x106001 x106002 x106003 x106004 x106005 x106006)) else (none)) else (spec_IsTextPart.j2 k x3 x106000 x106001 x106002 x106003 x106004 x106005 x106006)
end
def spec_IsTextPart.f (k : Nat) (a0_0 : ByteArray) (a0_1 : ByteArray) (a0_2 : Bool) (a0_3 : ByteArray) (a0_4 : ByteArray) (a0_5 : ByteArray) (a0_6 : ByteArray) : Option (Bool) := if (a0_0.size : Int) > 6 then (spec_IsTextPart.j0 k true a0_0 a0_1 a0_2 a0_3 a0_4 a0_5 a0_6) else (if (a0_4.size : Int) > 6 then (spec_IsTextPart.j0 k true a0_0 a0_1 a0_2 a0_3 a0_4 a0_5 a0_6) else (if (a0_6.size : Int) > 6 then (spec_IsTextPart.j0 k true a0_0 a0_1 a0_2 a0_3 a0_4 a0_5 a0_6) else ((spec_textIs.f k a0_0 (⟨#[32, 9, 10, 11, 12, 13]⟩ : ByteArray)).bind fun t106 => (if t106 = true then ((spec_textIs.f k a0_4 (⟨#[32, 9, 10, 11, 12, 13]⟩ : ByteArray)).bind fun t107 => (if t107 = true then ((spec_textIs.f k a0_6 (⟨#[32, 9, 10, 11, 12, 13]⟩ : ByteArray)).bind fun t108 => (spec_IsTextPart.j0 k (!t108) a0_0 a0_1 a0_2 a0_3 a0_4 a0_5 a0_6)) else (spec_IsTextPart.j0 k true a0_0 a0_1 a0_2 a0_3 a0_4 a0_5 a0_6))) else (spec_IsTextPart.j0 k true a0_0 a0_1 a0_2 a0_3 a0_4 a0_5 a0_6)))))
theorem spec_IsTextPart.mono_l : ∀ k, (∀ y0 y1 y2 y3 y4 y5 y6 y7, LeO (spec_IsTextPart.j0 k y0 y1 y2 y3 y4 y5 y6 y7) (spec_IsTextPart.j0 (k + 1) y0 y1 y2 y3 y4 y5 y6 y7)) ∧ (∀ y0 y1 y2 y3 y4 y5 y6 y7, LeO (spec_IsTextPart.j2 k y0 y1 y2 y3 y4 y5 y6 y7) (spec_IsTextPart.j2 (k + 1) y0 y1 y2 y3 y4 y5 y6 y7)) ∧ (∀ y0 y1 y2 y3 y4 y5 y6 y7 y8, LeO (spec_IsTextPart.j3 k y0 y1 y2 y3 y4 y5 y6 y7 y8) (spec_IsTextPart.j3 (k + 1) y0 y1 y2 y3 y4 y5 y6 y7 y8)) ∧ (∀ y0 y1 y2 y3 y4 y5 y6 y7 y8 y9, LeO (spec_IsTextPart.l1 k y0 y1 y2 y3 y4 y5 y6 y7 y8 y9) (spec_IsTextPart.l1 (k + 1) y0 y1 y2 y3 y4 y5 y6 y7 y8 y9)) ∧ (∀ y0 y1 y2 y3 y4 y5 y6 y7, LeO (spec_IsTextPart.l0 k y0 y1 y2 y3 y4 y5 y6 y7) (spec_IsTextPart.l0 (k + 1) y0 y1 y2 y3 y4 y5 y6 y7))
  | 0 => ⟨fun _ _ _ _ _ _ _ _ r h => by simp [spec_IsTextPart.j0] at h, fun _ _ _ _ _ _ _ _ r h => by simp [spec_IsTextPart.j2] at h, fun _ _ _ _ _ _ _ _ _ r h => by simp [spec_IsTextPart.j3] at h, fun _ _ _ _ _ _ _ _ _ _ r h => by simp [spec_IsTextPart.l1] at h, fun _ _ _ _ _ _ _ _ r h => by simp [spec_IsTextPart.l0] at h⟩
  | k + 1 => by
    obtain ⟨ih0, ih1, ih2, ih3, ih4⟩ := spec_IsTextPart.mono_l k
    refine ⟨?_, ?_, ?_, ?_, ?_⟩
    · intro y0 y1 y2 y3 y4 y5 y6 y7
      unfold spec_IsTextPart.j0
      repeat' first
      | (with_reducible exact ih0 _ _ _ _ _ _ _ _)
      | (with_reducible exact ih1 _ _ _ _ _ _ _ _)
      | (with_reducible exact ih2 _ _ _ _ _ _ _ _ _)
      | (with_reducible exact ih3 _ _ _ _ _ _ _ _ _ _)
      | (with_reducible exact ih4 _ _ _ _ _ _ _ _)
      | (with_reducible exact spec_textIs.mono _ _ _)
      | (with_reducible exact LeO.refl _)
      | (with_reducible exact LeO.none _)
      | (with_reducible refine LeO.ite ?_ ?_)
      | (with_reducible refine LeO.bind ?_ (fun _ => ?_))
      | exact ih0 _ _ _ _ _ _ _ _
      | exact ih1 _ _ _ _ _ _ _ _
      | exact ih2 _ _ _ _ _ _ _ _ _
      | exact ih3 _ _ _ _ _ _ _ _ _ _
      | exact ih4 _ _ _ _ _ _ _ _
      | exact spec_textIs.mono _ _ _
      | exact LeO.none _
      | refine LeO.ite ?_ ?_
      | refine LeO.bind ?_ (fun _ => ?_)
    · intro y0 y1 y2 y3 y4 y5 y6 y7
      unfold spec_IsTextPart.j2
      repeat' first
      | (with_reducible exact ih0 _ _ _ _ _ _ _ _)
      | (with_reducible exact ih1 _ _ _ _ _ _ _ _)
      | (with_reducible exact ih2 _ _ _ _ _ _ _ _ _)
      | (with_reducible exact ih3 _ _ _ _ _ _ _ _ _ _)
      | (with_reducible exact ih4 _ _ _ _ _ _ _ _)
      | (with_reducible exact spec_textIs.mono _ _ _)
      | (with_reducible exact LeO.refl _)
      | (with_reducible exact LeO.none _)
      | (with_reducible refine LeO.ite ?_ ?_)
      | (with_reducible refine LeO.bind ?_ (fun _ => ?_))
      | exact ih0 _ _ _ _ _ _ _ _
      | exact ih1 _ _ _ _ _ _ _ _
      | exact ih2 _ _ _ _ _ _ _ _ _
      | exact ih3 _ _ _ _ _ _ _ _ _ _
      | exact ih4 _ _ _ _ _ _ _ _
      | exact spec_textIs.mono _ _ _
      | exact LeO.none _
      | refine LeO.ite ?_ ?_
      | refine LeO.bind ?_ (fun _ => ?_)
    · intro y0 y1 y2 y3 y4 y5 y6 y7 y8
      unfold spec_IsTextPart.j3
      repeat' first
      | (with_reducible exact ih0 _ _ _ _ _ _ _ _)
      | (with_reducible exact ih1 _ _ _ _ _ _ _ _)
      | (with_reducible exact ih2 _ _ _ _ _ _ _ _ _)
      | (with_reducible exact ih3 _ _ _ _ _ _ _ _ _ _)
      | (with_reducible exact ih4 _ _ _ _ _ _ _ _)
      | (with_reducible exact spec_textIs.mono _ _ _)
      | (with_reducible exact LeO.refl _)
      | (with_reducible exact LeO.none _)
      | (with_reducible refine LeO.ite ?_ ?_)
      | (with_reducible refine LeO.bind ?_ (fun _ => ?_))
      | exact ih0 _ _ _ _ _ _ _ _
      | exact ih1 _ _ _ _ _ _ _ _
      | exact ih2 _ _ _ _ _ _ _ _ _
      | exact ih3 _ _ _ _ _ _ _ _ _ _
      | exact ih4 _ _ _ _ _ _ _ _
      | exact spec_textIs.mono _ _ _
      | exact LeO.none _
      | refine LeO.ite ?_ ?_
      | refine LeO.bind ?_ (fun _ => ?_)
    · intro y0 y1 y2 y3 y4 y5 y6 y7 y8 y9
      unfold spec_IsTextPart.l1
      repeat' first
      | (with_reducible exact ih0 _ _ _ _ _ _ _ _)
      | (with_reducible exact ih1 _ _ _ _ _ _ _ _)
      | (with_reducible exact ih2 _ _ _ _ _ _ _ _ _)
      | (with_reducible exact ih3 _ _ _ _ _ _ _ _ _ _)
      | (with_reducible exact ih4 _ _ _ _ _ _ _ _)
      | (with_reducible exact spec_textIs.mono _ _ _)
      | (with_reducible exact LeO.refl _)
      | (with_reducible exact LeO.none _)
      | (with_reducible refine LeO.ite ?_ ?_)
      | (with_reducible refine LeO.bind ?_ (fun _ => ?_))
      | exact ih0 _ _ _ _ _ _ _ _
      | exact ih1 _ _ _ _ _ _ _ _
      | exact ih2 _ _ _ _ _ _ _ _ _
      | exact ih3 _ _ _ _ _ _ _ _ _ _
      | exact ih4 _ _ _ _ _ _ _ _
      | exact spec_textIs.mono _ _ _
      | exact LeO.none _
      | refine LeO.ite ?_ ?_
      | refine LeO.bind ?_ (fun _ => ?_)
    · intro y0 y1 y2 y3 y4 y5 y6 y7
      unfold spec_IsTextPart.l0
      repeat' first
      | (with_reducible exact ih0 _ _ _ _ _ _ _ _)
      | (with_reducible exact ih1 _ _ _ _ _ _ _ _)
      | (with_reducible exact ih2 _ _ _ _ _ _ _ _ _)
      | (with_reducible exact ih3 _ _ _ _ _ _ _ _ _ _)
      | (with_reducible exact ih4 _ _ _ _ _ _ _ _)
      | (with_reducible exact spec_textIs.mono _ _ _)
      | (with_reducible exact LeO.refl _)
      | (with_reducible exact LeO.none _)
      | (with_reducible refine LeO.ite ?_ ?_)
      | (with_reducible refine LeO.bind ?_ (fun _ => ?_))
      | exact ih0 _ _ _ _ _ _ _ _
      | exact ih1 _ _ _ _ _ _ _ _
      | exact ih2 _ _ _ _ _ _ _ _ _
      | exact ih3 _ _ _ _ _ _ _ _ _ _
      | exact ih4 _ _ _ _ _ _ _ _
      | exact spec_textIs.mono _ _ _
      | exact LeO.none _
      | refine LeO.ite ?_ ?_
      | refine LeO.bind ?_ (fun _ => ?_)
theorem spec_IsTextPart.mono : ∀ a0 a1 a2 a3 a4 a5 a6 k, LeO (spec_IsTextPart.f k a0 a1 a2 a3 a4 a5 a6) (spec_IsTextPart.f (k + 1) a0 a1 a2 a3 a4 a5 a6) := by
  intro a0 a1 a2 a3 a4 a5 a6 k
  obtain ⟨ih0, ih1, ih2, ih3, ih4⟩ := spec_IsTextPart.mono_l k
  unfold spec_IsTextPart.f
  repeat' first
      | (with_reducible exact ih0 _ _ _ _ _ _ _ _)
      | (with_reducible exact ih1 _ _ _ _ _ _ _ _)
      | (with_reducible exact ih2 _ _ _ _ _ _ _ _ _)
      | (with_reducible exact ih3 _ _ _ _ _ _ _ _ _ _)
      | (with_reducible exact ih4 _ _ _ _ _ _ _ _)
      | (with_reducible exact spec_textIs.mono _ _ _)
      | (with_reducible exact LeO.refl _)
      | (with_reducible exact LeO.none _)
      | (with_reducible refine LeO.ite ?_ ?_)
      | (with_reducible refine LeO.bind ?_ (fun _ => ?_))
      | exact ih0 _ _ _ _ _ _ _ _
      | exact ih1 _ _ _ _ _ _ _ _
      | exact ih2 _ _ _ _ _ _ _ _ _
      | exact ih3 _ _ _ _ _ _ _ _ _ _
      | exact ih4 _ _ _ _ _ _ _ _
      | exact spec_textIs.mono _ _ _
      | exact LeO.none _
      | refine LeO.ite ?_ ?_
      | refine LeO.bind ?_ (fun _ => ?_)
set_option maxHeartbeats 8000000 in
set_option maxRecDepth 100000 in
theorem spec_IsTextPart.calls (k : Nat) (a0_0 : ByteArray) (a0_1 : ByteArray) (a0_2 : Bool) (a0_3 : ByteArray) (a0_4 : ByteArray) (a0_5 : ByteArray) (a0_6 : ByteArray) (r : Bool) (w : World) (h : spec_IsTextPart.f k a0_0 a0_1 a0_2 a0_3 a0_4 a0_5 a0_6 = some r) :
    Calls Tryz.prog 23 #[.agg #[.string a0_0, .string a0_1, .bool a0_2, .string a0_3, .string a0_4, .string a0_5, .string a0_6]] w fun e w' => e = .returned (.bool r) ∧ Below w.heap.size w w' := by
  have hu26 := Tryz.underlying26
  have HB := Aside0.mk (Below.refl w.heap.size w)
  have H : (if (a0_0.size : Int) > 6 then (spec_IsTextPart.j0 k true a0_0 a0_1 a0_2 a0_3 a0_4 a0_5 a0_6) else (if (a0_4.size : Int) > 6 then (spec_IsTextPart.j0 k true a0_0 a0_1 a0_2 a0_3 a0_4 a0_5 a0_6) else (if (a0_6.size : Int) > 6 then (spec_IsTextPart.j0 k true a0_0 a0_1 a0_2 a0_3 a0_4 a0_5 a0_6) else ((spec_textIs.f k a0_0 (⟨#[32, 9, 10, 11, 12, 13]⟩ : ByteArray)).bind fun t106 => (if t106 = true then ((spec_textIs.f k a0_4 (⟨#[32, 9, 10, 11, 12, 13]⟩ : ByteArray)).bind fun t107 => (if t107 = true then ((spec_textIs.f k a0_6 (⟨#[32, 9, 10, 11, 12, 13]⟩ : ByteArray)).bind fun t108 => (spec_IsTextPart.j0 k (!t108) a0_0 a0_1 a0_2 a0_3 a0_4 a0_5 a0_6)) else (spec_IsTextPart.j0 k true a0_0 a0_1 a0_2 a0_3 a0_4 a0_5 a0_6))) else (spec_IsTextPart.j0 k true a0_0 a0_1 a0_2 a0_3 a0_4 a0_5 a0_6)))))) = some r := h
  clear h
  have HC2 := Aside0.mk H
  clear H
  go_enter Tryz.func23, Tryz.ntmps23
  go_upto_region 1 with (first | ((with_reducible refine gate_dst (N := 1) rfl ?_); (try (refine gate_guard (by rfl) ?_; dsimp only)); refine box_event ?hg (N := 1) ?hd (cs := #[.string a0_0, .string a0_1, .bool a0_2, .string a0_3, .string a0_4, .string a0_5, .string a0_6]) (t := 26) ?hr ?_; (case hd => rfl); (case hg => rfl); (case hr => first | (go_simp; done) | (go_simp; rfl)); intro gb105 hg w3 hbox hb; have n0_ := Aside0.mk (below_step (by repeat (first | (with_reducible first | exact HB.out | apply below_alloc | apply pw_below_drewN | apply below_drew1) | exact HB.out)) hb); have n1_ := Aside0.mk (hbox); have n2_ := Aside0.mk ((by rw [hg]; exact (below_size (by repeat (first | (with_reducible first | exact HB.out | apply below_alloc | apply pw_below_drewN | apply below_drew1) | exact HB.out))) : w.heap.size ≤ gb105)); have n3_ := Aside0.mk ((by rw [hg]; exact (below_size (by repeat (first | (with_reducible first | exact HB.out | apply below_alloc | apply pw_below_drewN | apply below_drew1) | exact HB.out))) : w.heap.size ≤ gb105)); clear HB; have HB := n0_; have BK105 := n1_; have GW105 := n2_; have GE105 := n3_; clear n0_ n1_ n2_ n3_; clear hb hbox hg))
  (try simp only [Act.put, List.setIfInBounds_toArray, List.set_cons_zero, List.set_cons_succ])
  go_cut [40] (fun v40 wc => ∃ (kq : Nat) (x40_1 : Bool), v40 = .bool x40_1 ∧ Aside0 (spec_IsTextPart.j0 kq x40_1 a0_0 a0_1 a0_2 a0_3 a0_4 a0_5 a0_6 = some r) ∧ Aside0 (kq ≤ k) ∧ Aside0 (wc.heap[gb105]? = some (.cells #[.string a0_0, .string a0_1, .bool a0_2, .string a0_3, .string a0_4, .string a0_5, .string a0_6] 26 (0, 0))) ∧ Aside0 (Below w.heap.size w wc))
  case first =>
    have H := HC2.out
    clear HC2
    by_cases c4 : (a0_0.size : Int) > 6
    · rw [if_pos c4] at H
      have c4b0 : decide (6 < (a0_0.size : Int)) = true := decide_eq_true c4
      have c4b1 : decide (6 < a0_0.size) = true := decide_eq_true (by omega)
      clear c4
      (first | rw [c4b0] | (simp only [i64_w, i32_w]; rw [c4b0]) | skip)
      have H' := Aside0.mk H
      clear H
      have hcz5_0 : w3.cell? ⟨gb105, 0, none⟩ = some (.string a0_0) := (blk_cell BK105.out 0).trans rfl
      have hcz5_1 : w3.cell? ⟨gb105, 1, none⟩ = some (.string a0_1) := (blk_cell BK105.out 1).trans rfl
      have hcz5_2 : w3.cell? ⟨gb105, 2, none⟩ = some (.bool a0_2) := (blk_cell BK105.out 2).trans rfl
      have hcz5_3 : w3.cell? ⟨gb105, 3, none⟩ = some (.string a0_3) := (blk_cell BK105.out 3).trans rfl
      have hcz5_4 : w3.cell? ⟨gb105, 4, none⟩ = some (.string a0_4) := (blk_cell BK105.out 4).trans rfl
      have hcz5_5 : w3.cell? ⟨gb105, 5, none⟩ = some (.string a0_5) := (blk_cell BK105.out 5).trans rfl
      have hcz5_6 : w3.cell? ⟨gb105, 6, none⟩ = some (.string a0_6) := (blk_cell BK105.out 6).trans rfl
      have hfz5_0 := blk_frozen BK105.out 0
      have hfz5_1 := blk_frozen BK105.out 1
      have hfz5_2 := blk_frozen BK105.out 2
      have hfz5_3 := blk_frozen BK105.out 3
      have hfz5_4 := blk_frozen BK105.out 4
      have hfz5_5 := blk_frozen BK105.out 5
      have hfz5_6 := blk_frozen BK105.out 6
      go_wp2
      go_meet
      case rel => exact ⟨_, (true), (by first | rfl | (simp; done) | (simp [*]; done)), H', ⟨by first | omega | exact Nat.le_refl _⟩, ⟨by (with_reducible repeat (first | refine blk_drewN ?_ _ | refine blk_drew ?_ | refine blk_alloc ?_ _)); exact BK105.out⟩, ⟨by repeat (first | (with_reducible first | exact HB.out | apply below_alloc | apply pw_below_drewN | apply below_drew1 | refine below_set ?_ GE105.out) | exact HB.out)⟩⟩
    · rw [if_neg c4] at H
      have c4b0 : decide (6 < (a0_0.size : Int)) = false := decide_eq_false c4
      have c4b1 : decide (6 < a0_0.size) = false := decide_eq_false (by omega)
      clear c4
      (first | rw [c4b0] | (simp only [i64_w, i32_w]; rw [c4b0]) | skip)
      by_cases c6 : (a0_4.size : Int) > 6
      · rw [if_pos c6] at H
        have c6b0 : decide (6 < (a0_4.size : Int)) = true := decide_eq_true c6
        have c6b1 : decide (6 < a0_4.size) = true := decide_eq_true (by omega)
        clear c6
        have H' := Aside0.mk H
        clear H
        have hcz7_0 : w3.cell? ⟨gb105, 0, none⟩ = some (.string a0_0) := (blk_cell BK105.out 0).trans rfl
        have hcz7_1 : w3.cell? ⟨gb105, 1, none⟩ = some (.string a0_1) := (blk_cell BK105.out 1).trans rfl
        have hcz7_2 : w3.cell? ⟨gb105, 2, none⟩ = some (.bool a0_2) := (blk_cell BK105.out 2).trans rfl
        have hcz7_3 : w3.cell? ⟨gb105, 3, none⟩ = some (.string a0_3) := (blk_cell BK105.out 3).trans rfl
        have hcz7_4 : w3.cell? ⟨gb105, 4, none⟩ = some (.string a0_4) := (blk_cell BK105.out 4).trans rfl
        have hcz7_5 : w3.cell? ⟨gb105, 5, none⟩ = some (.string a0_5) := (blk_cell BK105.out 5).trans rfl
        have hcz7_6 : w3.cell? ⟨gb105, 6, none⟩ = some (.string a0_6) := (blk_cell BK105.out 6).trans rfl
        have hfz7_0 := blk_frozen BK105.out 0
        have hfz7_1 := blk_frozen BK105.out 1
        have hfz7_2 := blk_frozen BK105.out 2
        have hfz7_3 := blk_frozen BK105.out 3
        have hfz7_4 := blk_frozen BK105.out 4
        have hfz7_5 := blk_frozen BK105.out 5
        have hfz7_6 := blk_frozen BK105.out 6
        go_wp2
        go_meet
        case rel => exact ⟨_, (true), (by first | rfl | (simp; done) | (simp [*]; done)), H', ⟨by first | omega | exact Nat.le_refl _⟩, ⟨by (with_reducible repeat (first | refine blk_drewN ?_ _ | refine blk_drew ?_ | refine blk_alloc ?_ _)); exact BK105.out⟩, ⟨by repeat (first | (with_reducible first | exact HB.out | apply below_alloc | apply pw_below_drewN | apply below_drew1 | refine below_set ?_ GE105.out) | exact HB.out)⟩⟩
      · rw [if_neg c6] at H
        have c6b0 : decide (6 < (a0_4.size : Int)) = false := decide_eq_false c6
        have c6b1 : decide (6 < a0_4.size) = false := decide_eq_false (by omega)
        clear c6
        by_cases c8 : (a0_6.size : Int) > 6
        · rw [if_pos c8] at H
          have c8b0 : decide (6 < (a0_6.size : Int)) = true := decide_eq_true c8
          have c8b1 : decide (6 < a0_6.size) = true := decide_eq_true (by omega)
          clear c8
          have H' := Aside0.mk H
          clear H
          have hcz9_0 : w3.cell? ⟨gb105, 0, none⟩ = some (.string a0_0) := (blk_cell BK105.out 0).trans rfl
          have hcz9_1 : w3.cell? ⟨gb105, 1, none⟩ = some (.string a0_1) := (blk_cell BK105.out 1).trans rfl
          have hcz9_2 : w3.cell? ⟨gb105, 2, none⟩ = some (.bool a0_2) := (blk_cell BK105.out 2).trans rfl
          have hcz9_3 : w3.cell? ⟨gb105, 3, none⟩ = some (.string a0_3) := (blk_cell BK105.out 3).trans rfl
          have hcz9_4 : w3.cell? ⟨gb105, 4, none⟩ = some (.string a0_4) := (blk_cell BK105.out 4).trans rfl
          have hcz9_5 : w3.cell? ⟨gb105, 5, none⟩ = some (.string a0_5) := (blk_cell BK105.out 5).trans rfl
          have hcz9_6 : w3.cell? ⟨gb105, 6, none⟩ = some (.string a0_6) := (blk_cell BK105.out 6).trans rfl
          have hfz9_0 := blk_frozen BK105.out 0
          have hfz9_1 := blk_frozen BK105.out 1
          have hfz9_2 := blk_frozen BK105.out 2
          have hfz9_3 := blk_frozen BK105.out 3
          have hfz9_4 := blk_frozen BK105.out 4
          have hfz9_5 := blk_frozen BK105.out 5
          have hfz9_6 := blk_frozen BK105.out 6
          go_wp2
          go_meet
          case rel => exact ⟨_, (true), (by first | rfl | (simp; done) | (simp [*]; done)), H', ⟨by first | omega | exact Nat.le_refl _⟩, ⟨by (with_reducible repeat (first | refine blk_drewN ?_ _ | refine blk_drew ?_ | refine blk_alloc ?_ _)); exact BK105.out⟩, ⟨by repeat (first | (with_reducible first | exact HB.out | apply below_alloc | apply pw_below_drewN | apply below_drew1 | refine below_set ?_ GE105.out) | exact HB.out)⟩⟩
        · rw [if_neg c8] at H
          have c8b0 : decide (6 < (a0_6.size : Int)) = false := decide_eq_false c8
          have c8b1 : decide (6 < a0_6.size) = false := decide_eq_false (by omega)
          clear c8
          replace H := Option.bind_eq_some_iff.mp H
          obtain ⟨t106, A100, H⟩ := H
          replace H : (if t106 = true then ((spec_textIs.f k a0_4 (⟨#[32, 9, 10, 11, 12, 13]⟩ : ByteArray)).bind fun t107 => (if t107 = true then ((spec_textIs.f k a0_6 (⟨#[32, 9, 10, 11, 12, 13]⟩ : ByteArray)).bind fun t108 => (spec_IsTextPart.j0 k (!t108) a0_0 a0_1 a0_2 a0_3 a0_4 a0_5 a0_6)) else (spec_IsTextPart.j0 k true a0_0 a0_1 a0_2 a0_3 a0_4 a0_5 a0_6))) else (spec_IsTextPart.j0 k true a0_0 a0_1 a0_2 a0_3 a0_4 a0_5 a0_6)) = some r := H
          have A10 := Aside0.mk A100
          clear A100
          by_cases c11 : t106 = true
          · subst c11
            have H1 : ((spec_textIs.f k a0_4 (⟨#[32, 9, 10, 11, 12, 13]⟩ : ByteArray)).bind fun t107 => (if t107 = true then ((spec_textIs.f k a0_6 (⟨#[32, 9, 10, 11, 12, 13]⟩ : ByteArray)).bind fun t108 => (spec_IsTextPart.j0 k (!t108) a0_0 a0_1 a0_2 a0_3 a0_4 a0_5 a0_6)) else (spec_IsTextPart.j0 k true a0_0 a0_1 a0_2 a0_3 a0_4 a0_5 a0_6))) = some r := by rw [if_pos rfl] at H; exact H
            clear H
            have H := H1
            clear H1
            replace H := Option.bind_eq_some_iff.mp H
            obtain ⟨t107, A120, H⟩ := H
            replace H : (if t107 = true then ((spec_textIs.f k a0_6 (⟨#[32, 9, 10, 11, 12, 13]⟩ : ByteArray)).bind fun t108 => (spec_IsTextPart.j0 k (!t108) a0_0 a0_1 a0_2 a0_3 a0_4 a0_5 a0_6)) else (spec_IsTextPart.j0 k true a0_0 a0_1 a0_2 a0_3 a0_4 a0_5 a0_6)) = some r := H
            have A12 := Aside0.mk A120
            clear A120
            by_cases c13 : t107 = true
            · subst c13
              have H1 : ((spec_textIs.f k a0_6 (⟨#[32, 9, 10, 11, 12, 13]⟩ : ByteArray)).bind fun t108 => (spec_IsTextPart.j0 k (!t108) a0_0 a0_1 a0_2 a0_3 a0_4 a0_5 a0_6)) = some r := by rw [if_pos rfl] at H; exact H
              clear H
              have H := H1
              clear H1
              replace H := Option.bind_eq_some_iff.mp H
              obtain ⟨t108, A140, H⟩ := H
              replace H : (spec_IsTextPart.j0 k (!t108) a0_0 a0_1 a0_2 a0_3 a0_4 a0_5 a0_6) = some r := H
              have A14 := Aside0.mk A140
              clear A140
              have H' := Aside0.mk H
              clear H
              have hcz15_0 : w3.cell? ⟨gb105, 0, none⟩ = some (.string a0_0) := (blk_cell BK105.out 0).trans rfl
              have hcz15_1 : w3.cell? ⟨gb105, 1, none⟩ = some (.string a0_1) := (blk_cell BK105.out 1).trans rfl
              have hcz15_2 : w3.cell? ⟨gb105, 2, none⟩ = some (.bool a0_2) := (blk_cell BK105.out 2).trans rfl
              have hcz15_3 : w3.cell? ⟨gb105, 3, none⟩ = some (.string a0_3) := (blk_cell BK105.out 3).trans rfl
              have hcz15_4 : w3.cell? ⟨gb105, 4, none⟩ = some (.string a0_4) := (blk_cell BK105.out 4).trans rfl
              have hcz15_5 : w3.cell? ⟨gb105, 5, none⟩ = some (.string a0_5) := (blk_cell BK105.out 5).trans rfl
              have hcz15_6 : w3.cell? ⟨gb105, 6, none⟩ = some (.string a0_6) := (blk_cell BK105.out 6).trans rfl
              have hfz15_0 := blk_frozen BK105.out 0
              have hfz15_1 := blk_frozen BK105.out 1
              have hfz15_2 := blk_frozen BK105.out 2
              have hfz15_3 := blk_frozen BK105.out 3
              have hfz15_4 := blk_frozen BK105.out 4
              have hfz15_5 := blk_frozen BK105.out 5
              have hfz15_6 := blk_frozen BK105.out 6
              go_wp2_with (first | (go_at_call 39; (with_reducible refine (spec_textIs.calls k a0_0 (⟨#[32, 9, 10, 11, 12, 13]⟩ : ByteArray) true _ A10.out).mono ?_); rintro e w' ⟨rfl, ⟨nd, rfl⟩⟩) | (go_at_call 39; (with_reducible refine (spec_textIs.calls k a0_4 (⟨#[32, 9, 10, 11, 12, 13]⟩ : ByteArray) true _ A12.out).mono ?_); rintro e w' ⟨rfl, ⟨nd, rfl⟩⟩) | (go_at_call 39; (with_reducible refine (spec_textIs.calls k a0_6 (⟨#[32, 9, 10, 11, 12, 13]⟩ : ByteArray) t108 _ A14.out).mono ?_); rintro e w' ⟨rfl, ⟨nd, rfl⟩⟩))
              go_meet
              case rel => exact ⟨_, (!t108), (by first | rfl | (simp; done) | (simp [*]; done)), H', ⟨by first | omega | exact Nat.le_refl _⟩, ⟨by (with_reducible repeat (first | refine blk_drewN ?_ _ | refine blk_drew ?_ | refine blk_alloc ?_ _)); exact BK105.out⟩, ⟨by repeat (first | (with_reducible first | exact HB.out | apply below_alloc | apply pw_below_drewN | apply below_drew1 | refine below_set ?_ GE105.out) | exact HB.out)⟩⟩
            · replace c13 := Bool.eq_false_iff.mpr c13
              subst c13
              have H1 : (spec_IsTextPart.j0 k true a0_0 a0_1 a0_2 a0_3 a0_4 a0_5 a0_6) = some r := by rw [if_neg (show ¬ (false = true) by decide)] at H; exact H
              clear H
              have H := H1
              clear H1
              have H' := Aside0.mk H
              clear H
              have hcz16_0 : w3.cell? ⟨gb105, 0, none⟩ = some (.string a0_0) := (blk_cell BK105.out 0).trans rfl
              have hcz16_1 : w3.cell? ⟨gb105, 1, none⟩ = some (.string a0_1) := (blk_cell BK105.out 1).trans rfl
              have hcz16_2 : w3.cell? ⟨gb105, 2, none⟩ = some (.bool a0_2) := (blk_cell BK105.out 2).trans rfl
              have hcz16_3 : w3.cell? ⟨gb105, 3, none⟩ = some (.string a0_3) := (blk_cell BK105.out 3).trans rfl
              have hcz16_4 : w3.cell? ⟨gb105, 4, none⟩ = some (.string a0_4) := (blk_cell BK105.out 4).trans rfl
              have hcz16_5 : w3.cell? ⟨gb105, 5, none⟩ = some (.string a0_5) := (blk_cell BK105.out 5).trans rfl
              have hcz16_6 : w3.cell? ⟨gb105, 6, none⟩ = some (.string a0_6) := (blk_cell BK105.out 6).trans rfl
              have hfz16_0 := blk_frozen BK105.out 0
              have hfz16_1 := blk_frozen BK105.out 1
              have hfz16_2 := blk_frozen BK105.out 2
              have hfz16_3 := blk_frozen BK105.out 3
              have hfz16_4 := blk_frozen BK105.out 4
              have hfz16_5 := blk_frozen BK105.out 5
              have hfz16_6 := blk_frozen BK105.out 6
              go_wp2_with (first | (go_at_call 39; (with_reducible refine (spec_textIs.calls k a0_0 (⟨#[32, 9, 10, 11, 12, 13]⟩ : ByteArray) true _ A10.out).mono ?_); rintro e w' ⟨rfl, ⟨nd, rfl⟩⟩) | (go_at_call 39; (with_reducible refine (spec_textIs.calls k a0_4 (⟨#[32, 9, 10, 11, 12, 13]⟩ : ByteArray) false _ A12.out).mono ?_); rintro e w' ⟨rfl, ⟨nd, rfl⟩⟩))
              go_meet
              case rel => exact ⟨_, (true), (by first | rfl | (simp; done) | (simp [*]; done)), H', ⟨by first | omega | exact Nat.le_refl _⟩, ⟨by (with_reducible repeat (first | refine blk_drewN ?_ _ | refine blk_drew ?_ | refine blk_alloc ?_ _)); exact BK105.out⟩, ⟨by repeat (first | (with_reducible first | exact HB.out | apply below_alloc | apply pw_below_drewN | apply below_drew1 | refine below_set ?_ GE105.out) | exact HB.out)⟩⟩
          · replace c11 := Bool.eq_false_iff.mpr c11
            subst c11
            have H1 : (spec_IsTextPart.j0 k true a0_0 a0_1 a0_2 a0_3 a0_4 a0_5 a0_6) = some r := by rw [if_neg (show ¬ (false = true) by decide)] at H; exact H
            clear H
            have H := H1
            clear H1
            have H' := Aside0.mk H
            clear H
            have hcz17_0 : w3.cell? ⟨gb105, 0, none⟩ = some (.string a0_0) := (blk_cell BK105.out 0).trans rfl
            have hcz17_1 : w3.cell? ⟨gb105, 1, none⟩ = some (.string a0_1) := (blk_cell BK105.out 1).trans rfl
            have hcz17_2 : w3.cell? ⟨gb105, 2, none⟩ = some (.bool a0_2) := (blk_cell BK105.out 2).trans rfl
            have hcz17_3 : w3.cell? ⟨gb105, 3, none⟩ = some (.string a0_3) := (blk_cell BK105.out 3).trans rfl
            have hcz17_4 : w3.cell? ⟨gb105, 4, none⟩ = some (.string a0_4) := (blk_cell BK105.out 4).trans rfl
            have hcz17_5 : w3.cell? ⟨gb105, 5, none⟩ = some (.string a0_5) := (blk_cell BK105.out 5).trans rfl
            have hcz17_6 : w3.cell? ⟨gb105, 6, none⟩ = some (.string a0_6) := (blk_cell BK105.out 6).trans rfl
            have hfz17_0 := blk_frozen BK105.out 0
            have hfz17_1 := blk_frozen BK105.out 1
            have hfz17_2 := blk_frozen BK105.out 2
            have hfz17_3 := blk_frozen BK105.out 3
            have hfz17_4 := blk_frozen BK105.out 4
            have hfz17_5 := blk_frozen BK105.out 5
            have hfz17_6 := blk_frozen BK105.out 6
            go_wp2_with (first | (go_at_call 39; (with_reducible refine (spec_textIs.calls k a0_0 (⟨#[32, 9, 10, 11, 12, 13]⟩ : ByteArray) false _ A10.out).mono ?_); rintro e w' ⟨rfl, ⟨nd, rfl⟩⟩))
            go_meet
            case rel => exact ⟨_, (true), (by first | rfl | (simp; done) | (simp [*]; done)), H', ⟨by first | omega | exact Nat.le_refl _⟩, ⟨by (with_reducible repeat (first | refine blk_drewN ?_ _ | refine blk_drew ?_ | refine blk_alloc ?_ _)); exact BK105.out⟩, ⟨by repeat (first | (with_reducible first | exact HB.out | apply below_alloc | apply pw_below_drewN | apply below_drew1 | refine below_set ?_ GE105.out) | exact HB.out)⟩⟩
  case rest =>
    clear HC2
    try clear c1
    try clear c2
    try clear p2
    try clear c4
    try clear c4b0
    try clear c4b1
    try clear c6
    try clear c6b0
    try clear c6b1
    try clear c8
    try clear c8b0
    try clear c8b1
    try clear c11
    try clear c13
    try clear hcz15_0
    try clear hcz15_1
    try clear hcz15_2
    try clear hcz15_3
    try clear hcz15_4
    try clear hcz15_5
    try clear hcz15_6
    try clear hcz16_0
    try clear hcz16_1
    try clear hcz16_2
    try clear hcz16_3
    try clear hcz16_4
    try clear hcz16_5
    try clear hcz16_6
    try clear hcz17_0
    try clear hcz17_1
    try clear hcz17_2
    try clear hcz17_3
    try clear hcz17_4
    try clear hcz17_5
    try clear hcz17_6
    try clear hcz5_0
    try clear hcz5_1
    try clear hcz5_2
    try clear hcz5_3
    try clear hcz5_4
    try clear hcz5_5
    try clear hcz5_6
    try clear hcz7_0
    try clear hcz7_1
    try clear hcz7_2
    try clear hcz7_3
    try clear hcz7_4
    try clear hcz7_5
    try clear hcz7_6
    try clear hcz9_0
    try clear hcz9_1
    try clear hcz9_2
    try clear hcz9_3
    try clear hcz9_4
    try clear hcz9_5
    try clear hcz9_6
    try clear hfz15_0
    try clear hfz15_1
    try clear hfz15_2
    try clear hfz15_3
    try clear hfz15_4
    try clear hfz15_5
    try clear hfz15_6
    try clear hfz16_0
    try clear hfz16_1
    try clear hfz16_2
    try clear hfz16_3
    try clear hfz16_4
    try clear hfz16_5
    try clear hfz16_6
    try clear hfz17_0
    try clear hfz17_1
    try clear hfz17_2
    try clear hfz17_3
    try clear hfz17_4
    try clear hfz17_5
    try clear hfz17_6
    try clear hfz5_0
    try clear hfz5_1
    try clear hfz5_2
    try clear hfz5_3
    try clear hfz5_4
    try clear hfz5_5
    try clear hfz5_6
    try clear hfz7_0
    try clear hfz7_1
    try clear hfz7_2
    try clear hfz7_3
    try clear hfz7_4
    try clear hfz7_5
    try clear hfz7_6
    try clear hfz9_0
    try clear hfz9_1
    try clear hfz9_2
    try clear hfz9_3
    try clear hfz9_4
    try clear hfz9_5
    try clear hfz9_6
    obtain ⟨kq, x40_1, rfl, HA, HJ1, BK105, HB⟩ := hcut
    cases kq with
    | zero => exact absurd HA.out (by simp [spec_IsTextPart.j0])
    | succ kj1 =>
      have H := HA.out
      clear HA
      simp only [spec_IsTextPart.j0] at H
      by_cases c18 : x40_1 = true
      · subst c18
        have H1 : (some false) = some r := by rw [if_pos rfl] at H; exact H
        clear H
        have H := H1
        clear H1
        obtain rfl := Option.some.inj H
        go_wp2
        go_ret
        exact ⟨by first | rfl | (simp [errW_none, errW_some] <;> rfl) | (simp [*, errW_none, errW_some] <;> rfl), by repeat (first | (with_reducible first | exact HB.out | apply below_alloc | apply pw_below_drewN | apply below_drew1 | refine below_set ?_ GE105.out) | exact HB.out)⟩
      · replace c18 := Bool.eq_false_iff.mpr c18
        subst c18
        have H1 : (spec_IsTextPart.l0 kj1 0 a0_0 a0_1 a0_2 a0_3 a0_4 a0_5 a0_6) = some r := by rw [if_neg (show ¬ (false = true) by decide)] at H; exact H
        clear H
        have H := H1
        clear H1
        have HC19 := Aside0.mk H
        clear H
        go_upto_block 0 with (fail)
        go_cut [3] (fun v3 wc => ∃ (kq : Nat) (x3_18 : Int), v3 = .int .i64 x3_18 ∧ Aside0 (spec_IsTextPart.j2 kq x3_18 a0_0 a0_1 a0_2 a0_3 a0_4 a0_5 a0_6 = some r) ∧ Aside0 (kq ≤ kj1) ∧ Aside0 (wc.heap[gb105]? = some (.cells #[.string a0_0, .string a0_1, .bool a0_2, .string a0_3, .string a0_4, .string a0_5, .string a0_6] 26 (0, 0))) ∧ Aside0 (Below w.heap.size w wc))
        case first =>
          have H := HC19.out
          clear HC19
          have H' := Aside0.mk H
          clear H
          go_wp2
          go_loopg [3] kj1 (fun kq v3 w' => ∃ (x3_2 : Int), v3 = .int .i64 x3_2 ∧ Aside0 (spec_IsTextPart.l0 kq x3_2 a0_0 a0_1 a0_2 a0_3 a0_4 a0_5 a0_6 = some r) ∧ Aside0 (kq ≤ kj1) ∧ Aside0 (w'.heap[gb105]? = some (.cells #[.string a0_0, .string a0_1, .bool a0_2, .string a0_3, .string a0_4, .string a0_5, .string a0_6] 26 (0, 0))) ∧ Aside0 (Below w.heap.size w w'))
          case atStart => exact ⟨(0), (by first | rfl | (simp; done) | (simp [*]; done)), H', ⟨Nat.le_refl _⟩, ⟨by (with_reducible repeat (first | refine blk_drewN ?_ _ | refine blk_drew ?_ | refine blk_alloc ?_ _)); exact BK105.out⟩, ⟨by repeat (first | (with_reducible first | exact HB.out | apply below_alloc | apply pw_below_drewN | apply below_drew1 | refine below_set ?_ GE105.out) | exact HB.out)⟩⟩
          case round =>
            clear H'
            try clear c1
            try clear c2
            try clear p2
            try clear c4
            try clear c4b0
            try clear c4b1
            try clear c6
            try clear c6b0
            try clear c6b1
            try clear c8
            try clear c8b0
            try clear c8b1
            try clear c11
            try clear c13
            try clear c18
            try clear hcz15_0
            try clear hcz15_1
            try clear hcz15_2
            try clear hcz15_3
            try clear hcz15_4
            try clear hcz15_5
            try clear hcz15_6
            try clear hcz16_0
            try clear hcz16_1
            try clear hcz16_2
            try clear hcz16_3
            try clear hcz16_4
            try clear hcz16_5
            try clear hcz16_6
            try clear hcz17_0
            try clear hcz17_1
            try clear hcz17_2
            try clear hcz17_3
            try clear hcz17_4
            try clear hcz17_5
            try clear hcz17_6
            try clear hcz5_0
            try clear hcz5_1
            try clear hcz5_2
            try clear hcz5_3
            try clear hcz5_4
            try clear hcz5_5
            try clear hcz5_6
            try clear hcz7_0
            try clear hcz7_1
            try clear hcz7_2
            try clear hcz7_3
            try clear hcz7_4
            try clear hcz7_5
            try clear hcz7_6
            try clear hcz9_0
            try clear hcz9_1
            try clear hcz9_2
            try clear hcz9_3
            try clear hcz9_4
            try clear hcz9_5
            try clear hcz9_6
            try clear hfz15_0
            try clear hfz15_1
            try clear hfz15_2
            try clear hfz15_3
            try clear hfz15_4
            try clear hfz15_5
            try clear hfz15_6
            try clear hfz16_0
            try clear hfz16_1
            try clear hfz16_2
            try clear hfz16_3
            try clear hfz16_4
            try clear hfz16_5
            try clear hfz16_6
            try clear hfz17_0
            try clear hfz17_1
            try clear hfz17_2
            try clear hfz17_3
            try clear hfz17_4
            try clear hfz17_5
            try clear hfz17_6
            try clear hfz5_0
            try clear hfz5_1
            try clear hfz5_2
            try clear hfz5_3
            try clear hfz5_4
            try clear hfz5_5
            try clear hfz5_6
            try clear hfz7_0
            try clear hfz7_1
            try clear hfz7_2
            try clear hfz7_3
            try clear hfz7_4
            try clear hfz7_5
            try clear hfz7_6
            try clear hfz9_0
            try clear hfz9_1
            try clear hfz9_2
            try clear hfz9_3
            try clear hfz9_4
            try clear hfz9_5
            try clear hfz9_6
            try clear p2
            obtain ⟨x3_2, rfl, HA, HK2, BK105, HB⟩ := hrel
            cases gk with
            | zero => exact absurd HA.out (by simp [spec_IsTextPart.l0])
            | succ k2 =>
              have H := HA.out
              clear HA
              simp only [spec_IsTextPart.l0] at H
              by_cases c20 : x3_2 < (a0_1.size : Int)
              · rw [if_pos c20] at H
                have c20b0 : decide (x3_2 < (a0_1.size : Int)) = true := decide_eq_true c20
                clear c20
                (first | rw [c20b0] | (simp only [i64_w, i32_w]; rw [c20b0]) | skip)
                by_cases c21 : 0 ≤ x3_2
                · rw [if_pos c21] at H
                  have c21b0 : decide (0 ≤ x3_2) = true := decide_eq_true c21
                  clear c21
                  by_cases c23 : (bt a0_1 x3_2) = 48
                  · rw [if_pos c23] at H
                    have c23b0 : ((bt a0_1 x3_2) == 48) = true := beq_iff_eq.mpr c23
                    have c23b1 : ((bt a0_1 x3_2) != 48) = false := bne_eq_false_iff_eq.mpr c23
                    clear c23
                    have H' := Aside0.mk H
                    clear H
                    have hcz24_0 : wr.cell? ⟨gb105, 0, none⟩ = some (.string a0_0) := (blk_cell BK105.out 0).trans rfl
                    have hcz24_1 : wr.cell? ⟨gb105, 1, none⟩ = some (.string a0_1) := (blk_cell BK105.out 1).trans rfl
                    have hcz24_2 : wr.cell? ⟨gb105, 2, none⟩ = some (.bool a0_2) := (blk_cell BK105.out 2).trans rfl
                    have hcz24_3 : wr.cell? ⟨gb105, 3, none⟩ = some (.string a0_3) := (blk_cell BK105.out 3).trans rfl
                    have hcz24_4 : wr.cell? ⟨gb105, 4, none⟩ = some (.string a0_4) := (blk_cell BK105.out 4).trans rfl
                    have hcz24_5 : wr.cell? ⟨gb105, 5, none⟩ = some (.string a0_5) := (blk_cell BK105.out 5).trans rfl
                    have hcz24_6 : wr.cell? ⟨gb105, 6, none⟩ = some (.string a0_6) := (blk_cell BK105.out 6).trans rfl
                    have hfz24_0 := blk_frozen BK105.out 0
                    have hfz24_1 := blk_frozen BK105.out 1
                    have hfz24_2 := blk_frozen BK105.out 2
                    have hfz24_3 := blk_frozen BK105.out 3
                    have hfz24_4 := blk_frozen BK105.out 4
                    have hfz24_5 := blk_frozen BK105.out 5
                    have hfz24_6 := blk_frozen BK105.out 6
                    have p22 : 0 ≤ (x3_2 : Int) := of_decide_eq_true (by first | (with_reducible assumption) | assumption)
                    have q22 : x3_2 < (a0_1.size : Int) := of_decide_eq_true (by first | (with_reducible assumption) | assumption)
                    have hx22 := bt_at a0_1 x3_2
                    replace p22 := eq_true p22
                    replace q22 := eq_true q22
                    go_wp2
                    go_roundg k2
                    case measure => have := HJ1.out; have := HK2.out; omega
                    case rel => exact ⟨(wrap64 (x3_2 + 1)), (by first | rfl | (simp; done) | (simp [*]; done)), H', ⟨by have := HJ1.out; have := HK2.out; omega⟩, ⟨by (with_reducible repeat (first | refine blk_drewN ?_ _ | refine blk_drew ?_ | refine blk_alloc ?_ _)); exact BK105.out⟩, ⟨by repeat (first | (with_reducible first | exact HB.out | apply below_alloc | apply pw_below_drewN | apply below_drew1 | refine below_set ?_ GE105.out) | exact HB.out)⟩⟩
                  · rw [if_neg c23] at H
                    have c23b0 : ((bt a0_1 x3_2) == 48) = false := beq_eq_false_iff_ne.mpr c23
                    have c23b1 : ((bt a0_1 x3_2) != 48) = true := bne_iff_ne.mpr c23
                    have H' := Aside0.mk H
                    clear H
                    have hcz25_0 : wr.cell? ⟨gb105, 0, none⟩ = some (.string a0_0) := (blk_cell BK105.out 0).trans rfl
                    have hcz25_1 : wr.cell? ⟨gb105, 1, none⟩ = some (.string a0_1) := (blk_cell BK105.out 1).trans rfl
                    have hcz25_2 : wr.cell? ⟨gb105, 2, none⟩ = some (.bool a0_2) := (blk_cell BK105.out 2).trans rfl
                    have hcz25_3 : wr.cell? ⟨gb105, 3, none⟩ = some (.string a0_3) := (blk_cell BK105.out 3).trans rfl
                    have hcz25_4 : wr.cell? ⟨gb105, 4, none⟩ = some (.string a0_4) := (blk_cell BK105.out 4).trans rfl
                    have hcz25_5 : wr.cell? ⟨gb105, 5, none⟩ = some (.string a0_5) := (blk_cell BK105.out 5).trans rfl
                    have hcz25_6 : wr.cell? ⟨gb105, 6, none⟩ = some (.string a0_6) := (blk_cell BK105.out 6).trans rfl
                    have hfz25_0 := blk_frozen BK105.out 0
                    have hfz25_1 := blk_frozen BK105.out 1
                    have hfz25_2 := blk_frozen BK105.out 2
                    have hfz25_3 := blk_frozen BK105.out 3
                    have hfz25_4 := blk_frozen BK105.out 4
                    have hfz25_5 := blk_frozen BK105.out 5
                    have hfz25_6 := blk_frozen BK105.out 6
                    have p22 : 0 ≤ (x3_2 : Int) := of_decide_eq_true (by first | (with_reducible assumption) | assumption)
                    have q22 : x3_2 < (a0_1.size : Int) := of_decide_eq_true (by first | (with_reducible assumption) | assumption)
                    have hx22 := bt_at a0_1 x3_2
                    replace p22 := eq_true p22
                    replace q22 := eq_true q22
                    go_wp2
                    go_meet
                    case rel => exact ⟨_, (x3_2), (by first | rfl | (simp; done) | (simp [*]; done)), H', ⟨by have := HJ1.out; have := HK2.out; first | omega | exact Nat.le_refl _⟩, ⟨by (with_reducible repeat (first | refine blk_drewN ?_ _ | refine blk_drew ?_ | refine blk_alloc ?_ _)); exact BK105.out⟩, ⟨by repeat (first | (with_reducible first | exact HB.out | apply below_alloc | apply pw_below_drewN | apply below_drew1 | refine below_set ?_ GE105.out) | exact HB.out)⟩⟩
                · rw [if_neg c21] at H
                  exact absurd H (by simp)
              · rw [if_neg c20] at H
                have c20b0 : decide (x3_2 < (a0_1.size : Int)) = false := decide_eq_false c20
                clear c20
                (first | rw [c20b0] | (simp only [i64_w, i32_w]; rw [c20b0]) | skip)
                have H' := Aside0.mk H
                clear H
                have hcz26_0 : wr.cell? ⟨gb105, 0, none⟩ = some (.string a0_0) := (blk_cell BK105.out 0).trans rfl
                have hcz26_1 : wr.cell? ⟨gb105, 1, none⟩ = some (.string a0_1) := (blk_cell BK105.out 1).trans rfl
                have hcz26_2 : wr.cell? ⟨gb105, 2, none⟩ = some (.bool a0_2) := (blk_cell BK105.out 2).trans rfl
                have hcz26_3 : wr.cell? ⟨gb105, 3, none⟩ = some (.string a0_3) := (blk_cell BK105.out 3).trans rfl
                have hcz26_4 : wr.cell? ⟨gb105, 4, none⟩ = some (.string a0_4) := (blk_cell BK105.out 4).trans rfl
                have hcz26_5 : wr.cell? ⟨gb105, 5, none⟩ = some (.string a0_5) := (blk_cell BK105.out 5).trans rfl
                have hcz26_6 : wr.cell? ⟨gb105, 6, none⟩ = some (.string a0_6) := (blk_cell BK105.out 6).trans rfl
                have hfz26_0 := blk_frozen BK105.out 0
                have hfz26_1 := blk_frozen BK105.out 1
                have hfz26_2 := blk_frozen BK105.out 2
                have hfz26_3 := blk_frozen BK105.out 3
                have hfz26_4 := blk_frozen BK105.out 4
                have hfz26_5 := blk_frozen BK105.out 5
                have hfz26_6 := blk_frozen BK105.out 6
                go_wp2
                go_meet
                case rel => exact ⟨_, (x3_2), (by first | rfl | (simp; done) | (simp [*]; done)), H', ⟨by have := HJ1.out; have := HK2.out; first | omega | exact Nat.le_refl _⟩, ⟨by (with_reducible repeat (first | refine blk_drewN ?_ _ | refine blk_drew ?_ | refine blk_alloc ?_ _)); exact BK105.out⟩, ⟨by repeat (first | (with_reducible first | exact HB.out | apply below_alloc | apply pw_below_drewN | apply below_drew1 | refine below_set ?_ GE105.out) | exact HB.out)⟩⟩
        case rest =>
          clear HC19
          try clear c1
          try clear c2
          try clear p2
          try clear q2
          try clear hx2
          try clear c4
          try clear c4b0
          try clear c4b1
          try clear c6
          try clear c6b0
          try clear c6b1
          try clear p6
          try clear c8
          try clear c8b0
          try clear c8b1
          try clear c11
          try clear c13
          try clear c18
          try clear c20
          try clear c20b0
          try clear c21
          try clear c21b0
          try clear p22
          try clear q22
          try clear hx22
          try clear c23
          try clear c23b0
          try clear c23b1
          try clear hcz15_0
          try clear hcz15_1
          try clear hcz15_2
          try clear hcz15_3
          try clear hcz15_4
          try clear hcz15_5
          try clear hcz15_6
          try clear hcz16_0
          try clear hcz16_1
          try clear hcz16_2
          try clear hcz16_3
          try clear hcz16_4
          try clear hcz16_5
          try clear hcz16_6
          try clear hcz17_0
          try clear hcz17_1
          try clear hcz17_2
          try clear hcz17_3
          try clear hcz17_4
          try clear hcz17_5
          try clear hcz17_6
          try clear hcz24_0
          try clear hcz24_1
          try clear hcz24_2
          try clear hcz24_3
          try clear hcz24_4
          try clear hcz24_5
          try clear hcz24_6
          try clear hcz25_0
          try clear hcz25_1
          try clear hcz25_2
          try clear hcz25_3
          try clear hcz25_4
          try clear hcz25_5
          try clear hcz25_6
          try clear hcz26_0
          try clear hcz26_1
          try clear hcz26_2
          try clear hcz26_3
          try clear hcz26_4
          try clear hcz26_5
          try clear hcz26_6
          try clear hcz5_0
          try clear hcz5_1
          try clear hcz5_2
          try clear hcz5_3
          try clear hcz5_4
          try clear hcz5_5
          try clear hcz5_6
          try clear hcz7_0
          try clear hcz7_1
          try clear hcz7_2
          try clear hcz7_3
          try clear hcz7_4
          try clear hcz7_5
          try clear hcz7_6
          try clear hcz9_0
          try clear hcz9_1
          try clear hcz9_2
          try clear hcz9_3
          try clear hcz9_4
          try clear hcz9_5
          try clear hcz9_6
          try clear hfz15_0
          try clear hfz15_1
          try clear hfz15_2
          try clear hfz15_3
          try clear hfz15_4
          try clear hfz15_5
          try clear hfz15_6
          try clear hfz16_0
          try clear hfz16_1
          try clear hfz16_2
          try clear hfz16_3
          try clear hfz16_4
          try clear hfz16_5
          try clear hfz16_6
          try clear hfz17_0
          try clear hfz17_1
          try clear hfz17_2
          try clear hfz17_3
          try clear hfz17_4
          try clear hfz17_5
          try clear hfz17_6
          try clear hfz24_0
          try clear hfz24_1
          try clear hfz24_2
          try clear hfz24_3
          try clear hfz24_4
          try clear hfz24_5
          try clear hfz24_6
          try clear hfz25_0
          try clear hfz25_1
          try clear hfz25_2
          try clear hfz25_3
          try clear hfz25_4
          try clear hfz25_5
          try clear hfz25_6
          try clear hfz26_0
          try clear hfz26_1
          try clear hfz26_2
          try clear hfz26_3
          try clear hfz26_4
          try clear hfz26_5
          try clear hfz26_6
          try clear hfz5_0
          try clear hfz5_1
          try clear hfz5_2
          try clear hfz5_3
          try clear hfz5_4
          try clear hfz5_5
          try clear hfz5_6
          try clear hfz7_0
          try clear hfz7_1
          try clear hfz7_2
          try clear hfz7_3
          try clear hfz7_4
          try clear hfz7_5
          try clear hfz7_6
          try clear hfz9_0
          try clear hfz9_1
          try clear hfz9_2
          try clear hfz9_3
          try clear hfz9_4
          try clear hfz9_5
          try clear hfz9_6
          try clear p2
          try clear p22
          try clear q22
          obtain ⟨kq, x3_18, rfl, HA, HJ18, BK105, HB⟩ := hcut
          cases kq with
          | zero => exact absurd HA.out (by simp [spec_IsTextPart.j2])
          | succ kj18 =>
            have H := HA.out
            clear HA
            simp only [spec_IsTextPart.j2] at H
            have HC27 := Aside0.mk H
            clear H
            go_upto_region 7 with (fail)
            go_cut [102] (fun v102 wc => ∃ (kq : Nat) (x102_26 : Bool), v102 = .bool x102_26 ∧ Aside0 (spec_IsTextPart.j3 kq (⟨#[48, 49, 50, 51, 52, 53, 54, 55, 56, 57]⟩ : ByteArray) x102_26 a0_0 a0_1 a0_2 a0_3 a0_4 a0_5 a0_6 = some r) ∧ Aside0 (kq ≤ kj18) ∧ Aside0 (wc.heap[gb105]? = some (.cells #[.string a0_0, .string a0_1, .bool a0_2, .string a0_3, .string a0_4, .string a0_5, .string a0_6] 26 (0, 0))) ∧ Aside0 (Below w.heap.size w wc))
            case first =>
              have H := HC27.out
              clear HC27
              by_cases c28 : (wrap64 ((a0_1.size : Int) - x3_18)) > 15
              · rw [if_pos c28] at H
                have c28b0 : decide (15 < (wrap64 ((a0_1.size : Int) - x3_18))) = true := decide_eq_true c28
                clear c28
                (first | rw [c28b0] | (simp only [i64_w, i32_w]; rw [c28b0]) | skip)
                have H' := Aside0.mk H
                clear H
                have hcz29_0 : wc.cell? ⟨gb105, 0, none⟩ = some (.string a0_0) := (blk_cell BK105.out 0).trans rfl
                have hcz29_1 : wc.cell? ⟨gb105, 1, none⟩ = some (.string a0_1) := (blk_cell BK105.out 1).trans rfl
                have hcz29_2 : wc.cell? ⟨gb105, 2, none⟩ = some (.bool a0_2) := (blk_cell BK105.out 2).trans rfl
                have hcz29_3 : wc.cell? ⟨gb105, 3, none⟩ = some (.string a0_3) := (blk_cell BK105.out 3).trans rfl
                have hcz29_4 : wc.cell? ⟨gb105, 4, none⟩ = some (.string a0_4) := (blk_cell BK105.out 4).trans rfl
                have hcz29_5 : wc.cell? ⟨gb105, 5, none⟩ = some (.string a0_5) := (blk_cell BK105.out 5).trans rfl
                have hcz29_6 : wc.cell? ⟨gb105, 6, none⟩ = some (.string a0_6) := (blk_cell BK105.out 6).trans rfl
                have hfz29_0 := blk_frozen BK105.out 0
                have hfz29_1 := blk_frozen BK105.out 1
                have hfz29_2 := blk_frozen BK105.out 2
                have hfz29_3 := blk_frozen BK105.out 3
                have hfz29_4 := blk_frozen BK105.out 4
                have hfz29_5 := blk_frozen BK105.out 5
                have hfz29_6 := blk_frozen BK105.out 6
                go_wp2
                go_meet
                case rel => exact ⟨_, (true), (by first | rfl | (simp; done) | (simp [*]; done)), H', ⟨by have := HJ1.out; have := HJ18.out; first | omega | exact Nat.le_refl _⟩, ⟨by (with_reducible repeat (first | refine blk_drewN ?_ _ | refine blk_drew ?_ | refine blk_alloc ?_ _)); exact BK105.out⟩, ⟨by repeat (first | (with_reducible first | exact HB.out | apply below_alloc | apply pw_below_drewN | apply below_drew1 | refine below_set ?_ GE105.out) | exact HB.out)⟩⟩
              · rw [if_neg c28] at H
                have c28b0 : decide (15 < (wrap64 ((a0_1.size : Int) - x3_18))) = false := decide_eq_false c28
                clear c28
                (first | rw [c28b0] | (simp only [i64_w, i32_w]; rw [c28b0]) | skip)
                by_cases c30 : (a0_1.size : Int) > 25
                · rw [if_pos c30] at H
                  have c30b0 : decide (25 < (a0_1.size : Int)) = true := decide_eq_true c30
                  have c30b1 : decide (25 < a0_1.size) = true := decide_eq_true (by omega)
                  clear c30
                  have H' := Aside0.mk H
                  clear H
                  have hcz31_0 : wc.cell? ⟨gb105, 0, none⟩ = some (.string a0_0) := (blk_cell BK105.out 0).trans rfl
                  have hcz31_1 : wc.cell? ⟨gb105, 1, none⟩ = some (.string a0_1) := (blk_cell BK105.out 1).trans rfl
                  have hcz31_2 : wc.cell? ⟨gb105, 2, none⟩ = some (.bool a0_2) := (blk_cell BK105.out 2).trans rfl
                  have hcz31_3 : wc.cell? ⟨gb105, 3, none⟩ = some (.string a0_3) := (blk_cell BK105.out 3).trans rfl
                  have hcz31_4 : wc.cell? ⟨gb105, 4, none⟩ = some (.string a0_4) := (blk_cell BK105.out 4).trans rfl
                  have hcz31_5 : wc.cell? ⟨gb105, 5, none⟩ = some (.string a0_5) := (blk_cell BK105.out 5).trans rfl
                  have hcz31_6 : wc.cell? ⟨gb105, 6, none⟩ = some (.string a0_6) := (blk_cell BK105.out 6).trans rfl
                  have hfz31_0 := blk_frozen BK105.out 0
                  have hfz31_1 := blk_frozen BK105.out 1
                  have hfz31_2 := blk_frozen BK105.out 2
                  have hfz31_3 := blk_frozen BK105.out 3
                  have hfz31_4 := blk_frozen BK105.out 4
                  have hfz31_5 := blk_frozen BK105.out 5
                  have hfz31_6 := blk_frozen BK105.out 6
                  go_wp2
                  go_meet
                  case rel => exact ⟨_, (true), (by first | rfl | (simp; done) | (simp [*]; done)), H', ⟨by have := HJ1.out; have := HJ18.out; first | omega | exact Nat.le_refl _⟩, ⟨by (with_reducible repeat (first | refine blk_drewN ?_ _ | refine blk_drew ?_ | refine blk_alloc ?_ _)); exact BK105.out⟩, ⟨by repeat (first | (with_reducible first | exact HB.out | apply below_alloc | apply pw_below_drewN | apply below_drew1 | refine below_set ?_ GE105.out) | exact HB.out)⟩⟩
                · rw [if_neg c30] at H
                  have c30b0 : decide (25 < (a0_1.size : Int)) = false := decide_eq_false c30
                  have c30b1 : decide (25 < a0_1.size) = false := decide_eq_false (by omega)
                  clear c30
                  by_cases c32 : (a0_3.size : Int) > 30
                  · rw [if_pos c32] at H
                    have c32b0 : decide (30 < (a0_3.size : Int)) = true := decide_eq_true c32
                    have c32b1 : decide (30 < a0_3.size) = true := decide_eq_true (by omega)
                    clear c32
                    have H' := Aside0.mk H
                    clear H
                    have hcz33_0 : wc.cell? ⟨gb105, 0, none⟩ = some (.string a0_0) := (blk_cell BK105.out 0).trans rfl
                    have hcz33_1 : wc.cell? ⟨gb105, 1, none⟩ = some (.string a0_1) := (blk_cell BK105.out 1).trans rfl
                    have hcz33_2 : wc.cell? ⟨gb105, 2, none⟩ = some (.bool a0_2) := (blk_cell BK105.out 2).trans rfl
                    have hcz33_3 : wc.cell? ⟨gb105, 3, none⟩ = some (.string a0_3) := (blk_cell BK105.out 3).trans rfl
                    have hcz33_4 : wc.cell? ⟨gb105, 4, none⟩ = some (.string a0_4) := (blk_cell BK105.out 4).trans rfl
                    have hcz33_5 : wc.cell? ⟨gb105, 5, none⟩ = some (.string a0_5) := (blk_cell BK105.out 5).trans rfl
                    have hcz33_6 : wc.cell? ⟨gb105, 6, none⟩ = some (.string a0_6) := (blk_cell BK105.out 6).trans rfl
                    have hfz33_0 := blk_frozen BK105.out 0
                    have hfz33_1 := blk_frozen BK105.out 1
                    have hfz33_2 := blk_frozen BK105.out 2
                    have hfz33_3 := blk_frozen BK105.out 3
                    have hfz33_4 := blk_frozen BK105.out 4
                    have hfz33_5 := blk_frozen BK105.out 5
                    have hfz33_6 := blk_frozen BK105.out 6
                    go_wp2
                    go_meet
                    case rel => exact ⟨_, (true), (by first | rfl | (simp; done) | (simp [*]; done)), H', ⟨by have := HJ1.out; have := HJ18.out; first | omega | exact Nat.le_refl _⟩, ⟨by (with_reducible repeat (first | refine blk_drewN ?_ _ | refine blk_drew ?_ | refine blk_alloc ?_ _)); exact BK105.out⟩, ⟨by repeat (first | (with_reducible first | exact HB.out | apply below_alloc | apply pw_below_drewN | apply below_drew1 | refine below_set ?_ GE105.out) | exact HB.out)⟩⟩
                  · rw [if_neg c32] at H
                    have c32b0 : decide (30 < (a0_3.size : Int)) = false := decide_eq_false c32
                    have c32b1 : decide (30 < a0_3.size) = false := decide_eq_false (by omega)
                    clear c32
                    replace H := Option.bind_eq_some_iff.mp H
                    obtain ⟨t109, A340, H⟩ := H
                    replace H : (if t109 = true then ((spec_textIs.f kj18 a0_3 (⟨#[48, 49, 50, 51, 52, 53, 54, 55, 56, 57]⟩ : ByteArray)).bind fun t110 => (if t110 = true then (if a0_2 = true then (spec_IsTextPart.j3 kj18 (⟨#[48, 49, 50, 51, 52, 53, 54, 55, 56, 57]⟩ : ByteArray) (decide ((a0_5.size : Int) > 140)) a0_0 a0_1 a0_2 a0_3 a0_4 a0_5 a0_6) else (if a0_3.toList = ([] : List UInt8) then (spec_IsTextPart.j3 kj18 (⟨#[48, 49, 50, 51, 52, 53, 54, 55, 56, 57]⟩ : ByteArray) (decide ((a0_5.size : Int) > 140)) a0_0 a0_1 a0_2 a0_3 a0_4 a0_5 a0_6) else (spec_IsTextPart.j3 kj18 (⟨#[48, 49, 50, 51, 52, 53, 54, 55, 56, 57]⟩ : ByteArray) true a0_0 a0_1 a0_2 a0_3 a0_4 a0_5 a0_6))) else (spec_IsTextPart.j3 kj18 (⟨#[48, 49, 50, 51, 52, 53, 54, 55, 56, 57]⟩ : ByteArray) true a0_0 a0_1 a0_2 a0_3 a0_4 a0_5 a0_6))) else (spec_IsTextPart.j3 kj18 (⟨#[48, 49, 50, 51, 52, 53, 54, 55, 56, 57]⟩ : ByteArray) true a0_0 a0_1 a0_2 a0_3 a0_4 a0_5 a0_6)) = some r := H
                    have A34 := Aside0.mk A340
                    clear A340
                    by_cases c35 : t109 = true
                    · subst c35
                      have H1 : ((spec_textIs.f kj18 a0_3 (⟨#[48, 49, 50, 51, 52, 53, 54, 55, 56, 57]⟩ : ByteArray)).bind fun t110 => (if t110 = true then (if a0_2 = true then (spec_IsTextPart.j3 kj18 (⟨#[48, 49, 50, 51, 52, 53, 54, 55, 56, 57]⟩ : ByteArray) (decide ((a0_5.size : Int) > 140)) a0_0 a0_1 a0_2 a0_3 a0_4 a0_5 a0_6) else (if a0_3.toList = ([] : List UInt8) then (spec_IsTextPart.j3 kj18 (⟨#[48, 49, 50, 51, 52, 53, 54, 55, 56, 57]⟩ : ByteArray) (decide ((a0_5.size : Int) > 140)) a0_0 a0_1 a0_2 a0_3 a0_4 a0_5 a0_6) else (spec_IsTextPart.j3 kj18 (⟨#[48, 49, 50, 51, 52, 53, 54, 55, 56, 57]⟩ : ByteArray) true a0_0 a0_1 a0_2 a0_3 a0_4 a0_5 a0_6))) else (spec_IsTextPart.j3 kj18 (⟨#[48, 49, 50, 51, 52, 53, 54, 55, 56, 57]⟩ : ByteArray) true a0_0 a0_1 a0_2 a0_3 a0_4 a0_5 a0_6))) = some r := by rw [if_pos rfl] at H; exact H
                      clear H
                      have H := H1
                      clear H1
                      replace H := Option.bind_eq_some_iff.mp H
                      obtain ⟨t110, A360, H⟩ := H
                      replace H : (if t110 = true then (if a0_2 = true then (spec_IsTextPart.j3 kj18 (⟨#[48, 49, 50, 51, 52, 53, 54, 55, 56, 57]⟩ : ByteArray) (decide ((a0_5.size : Int) > 140)) a0_0 a0_1 a0_2 a0_3 a0_4 a0_5 a0_6) else (if a0_3.toList = ([] : List UInt8) then (spec_IsTextPart.j3 kj18 (⟨#[48, 49, 50, 51, 52, 53, 54, 55, 56, 57]⟩ : ByteArray) (decide ((a0_5.size : Int) > 140)) a0_0 a0_1 a0_2 a0_3 a0_4 a0_5 a0_6) else (spec_IsTextPart.j3 kj18 (⟨#[48, 49, 50, 51, 52, 53, 54, 55, 56, 57]⟩ : ByteArray) true a0_0 a0_1 a0_2 a0_3 a0_4 a0_5 a0_6))) else (spec_IsTextPart.j3 kj18 (⟨#[48, 49, 50, 51, 52, 53, 54, 55, 56, 57]⟩ : ByteArray) true a0_0 a0_1 a0_2 a0_3 a0_4 a0_5 a0_6)) = some r := H
                      have A36 := Aside0.mk A360
                      clear A360
                      by_cases c37 : t110 = true
                      · subst c37
                        have H1 : (if a0_2 = true then (spec_IsTextPart.j3 kj18 (⟨#[48, 49, 50, 51, 52, 53, 54, 55, 56, 57]⟩ : ByteArray) (decide ((a0_5.size : Int) > 140)) a0_0 a0_1 a0_2 a0_3 a0_4 a0_5 a0_6) else (if a0_3.toList = ([] : List UInt8) then (spec_IsTextPart.j3 kj18 (⟨#[48, 49, 50, 51, 52, 53, 54, 55, 56, 57]⟩ : ByteArray) (decide ((a0_5.size : Int) > 140)) a0_0 a0_1 a0_2 a0_3 a0_4 a0_5 a0_6) else (spec_IsTextPart.j3 kj18 (⟨#[48, 49, 50, 51, 52, 53, 54, 55, 56, 57]⟩ : ByteArray) true a0_0 a0_1 a0_2 a0_3 a0_4 a0_5 a0_6))) = some r := by rw [if_pos rfl] at H; exact H
                        clear H
                        have H := H1
                        clear H1
                        by_cases c38 : a0_2 = true
                        · subst c38
                          have H1 : (spec_IsTextPart.j3 kj18 (⟨#[48, 49, 50, 51, 52, 53, 54, 55, 56, 57]⟩ : ByteArray) (decide ((a0_5.size : Int) > 140)) a0_0 a0_1 true a0_3 a0_4 a0_5 a0_6) = some r := by rw [if_pos rfl] at H; exact H
                          clear H
                          have H := H1
                          clear H1
                          have H' := Aside0.mk H
                          clear H
                          have hcz39_0 : wc.cell? ⟨gb105, 0, none⟩ = some (.string a0_0) := (blk_cell BK105.out 0).trans rfl
                          have hcz39_1 : wc.cell? ⟨gb105, 1, none⟩ = some (.string a0_1) := (blk_cell BK105.out 1).trans rfl
                          have hcz39_2 : wc.cell? ⟨gb105, 2, none⟩ = some (.bool true) := (blk_cell BK105.out 2).trans rfl
                          have hcz39_3 : wc.cell? ⟨gb105, 3, none⟩ = some (.string a0_3) := (blk_cell BK105.out 3).trans rfl
                          have hcz39_4 : wc.cell? ⟨gb105, 4, none⟩ = some (.string a0_4) := (blk_cell BK105.out 4).trans rfl
                          have hcz39_5 : wc.cell? ⟨gb105, 5, none⟩ = some (.string a0_5) := (blk_cell BK105.out 5).trans rfl
                          have hcz39_6 : wc.cell? ⟨gb105, 6, none⟩ = some (.string a0_6) := (blk_cell BK105.out 6).trans rfl
                          have hfz39_0 := blk_frozen BK105.out 0
                          have hfz39_1 := blk_frozen BK105.out 1
                          have hfz39_2 := blk_frozen BK105.out 2
                          have hfz39_3 := blk_frozen BK105.out 3
                          have hfz39_4 := blk_frozen BK105.out 4
                          have hfz39_5 := blk_frozen BK105.out 5
                          have hfz39_6 := blk_frozen BK105.out 6
                          go_wp2_with (first | (go_at_call 39; (with_reducible refine (spec_textIs.calls kj18 a0_1 (⟨#[48, 49, 50, 51, 52, 53, 54, 55, 56, 57]⟩ : ByteArray) true _ A34.out).mono ?_); rintro e w' ⟨rfl, ⟨nd, rfl⟩⟩) | (go_at_call 39; (with_reducible refine (spec_textIs.calls kj18 a0_3 (⟨#[48, 49, 50, 51, 52, 53, 54, 55, 56, 57]⟩ : ByteArray) true _ A36.out).mono ?_); rintro e w' ⟨rfl, ⟨nd, rfl⟩⟩))
                          go_meet
                          case rel => exact ⟨_, (decide ((a0_5.size : Int) > 140)), (by first | rfl | (simp; done) | (simp [*]; done)), H', ⟨by have := HJ1.out; have := HJ18.out; first | omega | exact Nat.le_refl _⟩, ⟨by (with_reducible repeat (first | refine blk_drewN ?_ _ | refine blk_drew ?_ | refine blk_alloc ?_ _)); exact BK105.out⟩, ⟨by repeat (first | (with_reducible first | exact HB.out | apply below_alloc | apply pw_below_drewN | apply below_drew1 | refine below_set ?_ GE105.out) | exact HB.out)⟩⟩
                        · replace c38 := Bool.eq_false_iff.mpr c38
                          subst c38
                          have H1 : (if a0_3.toList = ([] : List UInt8) then (spec_IsTextPart.j3 kj18 (⟨#[48, 49, 50, 51, 52, 53, 54, 55, 56, 57]⟩ : ByteArray) (decide ((a0_5.size : Int) > 140)) a0_0 a0_1 false a0_3 a0_4 a0_5 a0_6) else (spec_IsTextPart.j3 kj18 (⟨#[48, 49, 50, 51, 52, 53, 54, 55, 56, 57]⟩ : ByteArray) true a0_0 a0_1 false a0_3 a0_4 a0_5 a0_6)) = some r := by rw [if_neg (show ¬ (false = true) by decide)] at H; exact H
                          clear H
                          have H := H1
                          clear H1
                          by_cases c40 : a0_3.toList = ([] : List UInt8)
                          · rw [if_pos c40] at H
                            have c40b0 : (a0_3.toList == ([] : List UInt8)) = true := beq_iff_eq.mpr c40
                            have c40b1 : (a0_3.toList != ([] : List UInt8)) = false := bne_eq_false_iff_eq.mpr c40
                            clear c40
                            have H' := Aside0.mk H
                            clear H
                            have hcz41_0 : wc.cell? ⟨gb105, 0, none⟩ = some (.string a0_0) := (blk_cell BK105.out 0).trans rfl
                            have hcz41_1 : wc.cell? ⟨gb105, 1, none⟩ = some (.string a0_1) := (blk_cell BK105.out 1).trans rfl
                            have hcz41_2 : wc.cell? ⟨gb105, 2, none⟩ = some (.bool false) := (blk_cell BK105.out 2).trans rfl
                            have hcz41_3 : wc.cell? ⟨gb105, 3, none⟩ = some (.string a0_3) := (blk_cell BK105.out 3).trans rfl
                            have hcz41_4 : wc.cell? ⟨gb105, 4, none⟩ = some (.string a0_4) := (blk_cell BK105.out 4).trans rfl
                            have hcz41_5 : wc.cell? ⟨gb105, 5, none⟩ = some (.string a0_5) := (blk_cell BK105.out 5).trans rfl
                            have hcz41_6 : wc.cell? ⟨gb105, 6, none⟩ = some (.string a0_6) := (blk_cell BK105.out 6).trans rfl
                            have hfz41_0 := blk_frozen BK105.out 0
                            have hfz41_1 := blk_frozen BK105.out 1
                            have hfz41_2 := blk_frozen BK105.out 2
                            have hfz41_3 := blk_frozen BK105.out 3
                            have hfz41_4 := blk_frozen BK105.out 4
                            have hfz41_5 := blk_frozen BK105.out 5
                            have hfz41_6 := blk_frozen BK105.out 6
                            go_wp2_with (first | (go_at_call 39; (with_reducible refine (spec_textIs.calls kj18 a0_1 (⟨#[48, 49, 50, 51, 52, 53, 54, 55, 56, 57]⟩ : ByteArray) true _ A34.out).mono ?_); rintro e w' ⟨rfl, ⟨nd, rfl⟩⟩) | (go_at_call 39; (with_reducible refine (spec_textIs.calls kj18 a0_3 (⟨#[48, 49, 50, 51, 52, 53, 54, 55, 56, 57]⟩ : ByteArray) true _ A36.out).mono ?_); rintro e w' ⟨rfl, ⟨nd, rfl⟩⟩))
                            go_meet
                            case rel => exact ⟨_, (decide ((a0_5.size : Int) > 140)), (by first | rfl | (simp; done) | (simp [*]; done)), H', ⟨by have := HJ1.out; have := HJ18.out; first | omega | exact Nat.le_refl _⟩, ⟨by (with_reducible repeat (first | refine blk_drewN ?_ _ | refine blk_drew ?_ | refine blk_alloc ?_ _)); exact BK105.out⟩, ⟨by repeat (first | (with_reducible first | exact HB.out | apply below_alloc | apply pw_below_drewN | apply below_drew1 | refine below_set ?_ GE105.out) | exact HB.out)⟩⟩
                          · rw [if_neg c40] at H
                            have c40b0 : (a0_3.toList == ([] : List UInt8)) = false := beq_eq_false_iff_ne.mpr c40
                            have c40b1 : (a0_3.toList != ([] : List UInt8)) = true := bne_iff_ne.mpr c40
                            have H' := Aside0.mk H
                            clear H
                            have hcz42_0 : wc.cell? ⟨gb105, 0, none⟩ = some (.string a0_0) := (blk_cell BK105.out 0).trans rfl
                            have hcz42_1 : wc.cell? ⟨gb105, 1, none⟩ = some (.string a0_1) := (blk_cell BK105.out 1).trans rfl
                            have hcz42_2 : wc.cell? ⟨gb105, 2, none⟩ = some (.bool false) := (blk_cell BK105.out 2).trans rfl
                            have hcz42_3 : wc.cell? ⟨gb105, 3, none⟩ = some (.string a0_3) := (blk_cell BK105.out 3).trans rfl
                            have hcz42_4 : wc.cell? ⟨gb105, 4, none⟩ = some (.string a0_4) := (blk_cell BK105.out 4).trans rfl
                            have hcz42_5 : wc.cell? ⟨gb105, 5, none⟩ = some (.string a0_5) := (blk_cell BK105.out 5).trans rfl
                            have hcz42_6 : wc.cell? ⟨gb105, 6, none⟩ = some (.string a0_6) := (blk_cell BK105.out 6).trans rfl
                            have hfz42_0 := blk_frozen BK105.out 0
                            have hfz42_1 := blk_frozen BK105.out 1
                            have hfz42_2 := blk_frozen BK105.out 2
                            have hfz42_3 := blk_frozen BK105.out 3
                            have hfz42_4 := blk_frozen BK105.out 4
                            have hfz42_5 := blk_frozen BK105.out 5
                            have hfz42_6 := blk_frozen BK105.out 6
                            go_wp2_with (first | (go_at_call 39; (with_reducible refine (spec_textIs.calls kj18 a0_1 (⟨#[48, 49, 50, 51, 52, 53, 54, 55, 56, 57]⟩ : ByteArray) true _ A34.out).mono ?_); rintro e w' ⟨rfl, ⟨nd, rfl⟩⟩) | (go_at_call 39; (with_reducible refine (spec_textIs.calls kj18 a0_3 (⟨#[48, 49, 50, 51, 52, 53, 54, 55, 56, 57]⟩ : ByteArray) true _ A36.out).mono ?_); rintro e w' ⟨rfl, ⟨nd, rfl⟩⟩))
                            go_meet
                            case rel => exact ⟨_, (true), (by first | rfl | (simp; done) | (simp [*]; done)), H', ⟨by have := HJ1.out; have := HJ18.out; first | omega | exact Nat.le_refl _⟩, ⟨by (with_reducible repeat (first | refine blk_drewN ?_ _ | refine blk_drew ?_ | refine blk_alloc ?_ _)); exact BK105.out⟩, ⟨by repeat (first | (with_reducible first | exact HB.out | apply below_alloc | apply pw_below_drewN | apply below_drew1 | refine below_set ?_ GE105.out) | exact HB.out)⟩⟩
                      · replace c37 := Bool.eq_false_iff.mpr c37
                        subst c37
                        have H1 : (spec_IsTextPart.j3 kj18 (⟨#[48, 49, 50, 51, 52, 53, 54, 55, 56, 57]⟩ : ByteArray) true a0_0 a0_1 a0_2 a0_3 a0_4 a0_5 a0_6) = some r := by rw [if_neg (show ¬ (false = true) by decide)] at H; exact H
                        clear H
                        have H := H1
                        clear H1
                        have H' := Aside0.mk H
                        clear H
                        have hcz43_0 : wc.cell? ⟨gb105, 0, none⟩ = some (.string a0_0) := (blk_cell BK105.out 0).trans rfl
                        have hcz43_1 : wc.cell? ⟨gb105, 1, none⟩ = some (.string a0_1) := (blk_cell BK105.out 1).trans rfl
                        have hcz43_2 : wc.cell? ⟨gb105, 2, none⟩ = some (.bool a0_2) := (blk_cell BK105.out 2).trans rfl
                        have hcz43_3 : wc.cell? ⟨gb105, 3, none⟩ = some (.string a0_3) := (blk_cell BK105.out 3).trans rfl
                        have hcz43_4 : wc.cell? ⟨gb105, 4, none⟩ = some (.string a0_4) := (blk_cell BK105.out 4).trans rfl
                        have hcz43_5 : wc.cell? ⟨gb105, 5, none⟩ = some (.string a0_5) := (blk_cell BK105.out 5).trans rfl
                        have hcz43_6 : wc.cell? ⟨gb105, 6, none⟩ = some (.string a0_6) := (blk_cell BK105.out 6).trans rfl
                        have hfz43_0 := blk_frozen BK105.out 0
                        have hfz43_1 := blk_frozen BK105.out 1
                        have hfz43_2 := blk_frozen BK105.out 2
                        have hfz43_3 := blk_frozen BK105.out 3
                        have hfz43_4 := blk_frozen BK105.out 4
                        have hfz43_5 := blk_frozen BK105.out 5
                        have hfz43_6 := blk_frozen BK105.out 6
                        go_wp2_with (first | (go_at_call 39; (with_reducible refine (spec_textIs.calls kj18 a0_1 (⟨#[48, 49, 50, 51, 52, 53, 54, 55, 56, 57]⟩ : ByteArray) true _ A34.out).mono ?_); rintro e w' ⟨rfl, ⟨nd, rfl⟩⟩) | (go_at_call 39; (with_reducible refine (spec_textIs.calls kj18 a0_3 (⟨#[48, 49, 50, 51, 52, 53, 54, 55, 56, 57]⟩ : ByteArray) false _ A36.out).mono ?_); rintro e w' ⟨rfl, ⟨nd, rfl⟩⟩))
                        go_meet
                        case rel => exact ⟨_, (true), (by first | rfl | (simp; done) | (simp [*]; done)), H', ⟨by have := HJ1.out; have := HJ18.out; first | omega | exact Nat.le_refl _⟩, ⟨by (with_reducible repeat (first | refine blk_drewN ?_ _ | refine blk_drew ?_ | refine blk_alloc ?_ _)); exact BK105.out⟩, ⟨by repeat (first | (with_reducible first | exact HB.out | apply below_alloc | apply pw_below_drewN | apply below_drew1 | refine below_set ?_ GE105.out) | exact HB.out)⟩⟩
                    · replace c35 := Bool.eq_false_iff.mpr c35
                      subst c35
                      have H1 : (spec_IsTextPart.j3 kj18 (⟨#[48, 49, 50, 51, 52, 53, 54, 55, 56, 57]⟩ : ByteArray) true a0_0 a0_1 a0_2 a0_3 a0_4 a0_5 a0_6) = some r := by rw [if_neg (show ¬ (false = true) by decide)] at H; exact H
                      clear H
                      have H := H1
                      clear H1
                      have H' := Aside0.mk H
                      clear H
                      have hcz44_0 : wc.cell? ⟨gb105, 0, none⟩ = some (.string a0_0) := (blk_cell BK105.out 0).trans rfl
                      have hcz44_1 : wc.cell? ⟨gb105, 1, none⟩ = some (.string a0_1) := (blk_cell BK105.out 1).trans rfl
                      have hcz44_2 : wc.cell? ⟨gb105, 2, none⟩ = some (.bool a0_2) := (blk_cell BK105.out 2).trans rfl
                      have hcz44_3 : wc.cell? ⟨gb105, 3, none⟩ = some (.string a0_3) := (blk_cell BK105.out 3).trans rfl
                      have hcz44_4 : wc.cell? ⟨gb105, 4, none⟩ = some (.string a0_4) := (blk_cell BK105.out 4).trans rfl
                      have hcz44_5 : wc.cell? ⟨gb105, 5, none⟩ = some (.string a0_5) := (blk_cell BK105.out 5).trans rfl
                      have hcz44_6 : wc.cell? ⟨gb105, 6, none⟩ = some (.string a0_6) := (blk_cell BK105.out 6).trans rfl
                      have hfz44_0 := blk_frozen BK105.out 0
                      have hfz44_1 := blk_frozen BK105.out 1
                      have hfz44_2 := blk_frozen BK105.out 2
                      have hfz44_3 := blk_frozen BK105.out 3
                      have hfz44_4 := blk_frozen BK105.out 4
                      have hfz44_5 := blk_frozen BK105.out 5
                      have hfz44_6 := blk_frozen BK105.out 6
                      go_wp2_with (first | (go_at_call 39; (with_reducible refine (spec_textIs.calls kj18 a0_1 (⟨#[48, 49, 50, 51, 52, 53, 54, 55, 56, 57]⟩ : ByteArray) false _ A34.out).mono ?_); rintro e w' ⟨rfl, ⟨nd, rfl⟩⟩))
                      go_meet
                      case rel => exact ⟨_, (true), (by first | rfl | (simp; done) | (simp [*]; done)), H', ⟨by have := HJ1.out; have := HJ18.out; first | omega | exact Nat.le_refl _⟩, ⟨by (with_reducible repeat (first | refine blk_drewN ?_ _ | refine blk_drew ?_ | refine blk_alloc ?_ _)); exact BK105.out⟩, ⟨by repeat (first | (with_reducible first | exact HB.out | apply below_alloc | apply pw_below_drewN | apply below_drew1 | refine below_set ?_ GE105.out) | exact HB.out)⟩⟩
            case rest =>
              clear HC27
              try clear c1
              try clear c2
              try clear p2
              try clear q2
              try clear hx2
              try clear c3
              try clear c4
              try clear c4b0
              try clear c4b1
              try clear c6
              try clear c6b0
              try clear c6b1
              try clear p6
              try clear c8
              try clear c8b0
              try clear c8b1
              try clear c11
              try clear c13
              try clear c18
              try clear c20
              try clear c20b0
              try clear c21
              try clear c21b0
              try clear p22
              try clear q22
              try clear hx22
              try clear c23
              try clear c23b0
              try clear c23b1
              try clear c28
              try clear c28b0
              try clear c30
              try clear c30b0
              try clear c30b1
              try clear c32
              try clear c32b0
              try clear c32b1
              try clear c35
              try clear c37
              try clear c38
              try clear c40
              try clear c40b0
              try clear c40b1
              try clear hcz15_0
              try clear hcz15_1
              try clear hcz15_2
              try clear hcz15_3
              try clear hcz15_4
              try clear hcz15_5
              try clear hcz15_6
              try clear hcz16_0
              try clear hcz16_1
              try clear hcz16_2
              try clear hcz16_3
              try clear hcz16_4
              try clear hcz16_5
              try clear hcz16_6
              try clear hcz17_0
              try clear hcz17_1
              try clear hcz17_2
              try clear hcz17_3
              try clear hcz17_4
              try clear hcz17_5
              try clear hcz17_6
              try clear hcz24_0
              try clear hcz24_1
              try clear hcz24_2
              try clear hcz24_3
              try clear hcz24_4
              try clear hcz24_5
              try clear hcz24_6
              try clear hcz25_0
              try clear hcz25_1
              try clear hcz25_2
              try clear hcz25_3
              try clear hcz25_4
              try clear hcz25_5
              try clear hcz25_6
              try clear hcz26_0
              try clear hcz26_1
              try clear hcz26_2
              try clear hcz26_3
              try clear hcz26_4
              try clear hcz26_5
              try clear hcz26_6
              try clear hcz29_0
              try clear hcz29_1
              try clear hcz29_2
              try clear hcz29_3
              try clear hcz29_4
              try clear hcz29_5
              try clear hcz29_6
              try clear hcz31_0
              try clear hcz31_1
              try clear hcz31_2
              try clear hcz31_3
              try clear hcz31_4
              try clear hcz31_5
              try clear hcz31_6
              try clear hcz33_0
              try clear hcz33_1
              try clear hcz33_2
              try clear hcz33_3
              try clear hcz33_4
              try clear hcz33_5
              try clear hcz33_6
              try clear hcz39_0
              try clear hcz39_1
              try clear hcz39_2
              try clear hcz39_3
              try clear hcz39_4
              try clear hcz39_5
              try clear hcz39_6
              try clear hcz41_0
              try clear hcz41_1
              try clear hcz41_2
              try clear hcz41_3
              try clear hcz41_4
              try clear hcz41_5
              try clear hcz41_6
              try clear hcz42_0
              try clear hcz42_1
              try clear hcz42_2
              try clear hcz42_3
              try clear hcz42_4
              try clear hcz42_5
              try clear hcz42_6
              try clear hcz43_0
              try clear hcz43_1
              try clear hcz43_2
              try clear hcz43_3
              try clear hcz43_4
              try clear hcz43_5
              try clear hcz43_6
              try clear hcz44_0
              try clear hcz44_1
              try clear hcz44_2
              try clear hcz44_3
              try clear hcz44_4
              try clear hcz44_5
              try clear hcz44_6
              try clear hcz5_0
              try clear hcz5_1
              try clear hcz5_2
              try clear hcz5_3
              try clear hcz5_4
              try clear hcz5_5
              try clear hcz5_6
              try clear hcz7_0
              try clear hcz7_1
              try clear hcz7_2
              try clear hcz7_3
              try clear hcz7_4
              try clear hcz7_5
              try clear hcz7_6
              try clear hcz9_0
              try clear hcz9_1
              try clear hcz9_2
              try clear hcz9_3
              try clear hcz9_4
              try clear hcz9_5
              try clear hcz9_6
              try clear hfz15_0
              try clear hfz15_1
              try clear hfz15_2
              try clear hfz15_3
              try clear hfz15_4
              try clear hfz15_5
              try clear hfz15_6
              try clear hfz16_0
              try clear hfz16_1
              try clear hfz16_2
              try clear hfz16_3
              try clear hfz16_4
              try clear hfz16_5
              try clear hfz16_6
              try clear hfz17_0
              try clear hfz17_1
              try clear hfz17_2
              try clear hfz17_3
              try clear hfz17_4
              try clear hfz17_5
              try clear hfz17_6
              try clear hfz24_0
              try clear hfz24_1
              try clear hfz24_2
              try clear hfz24_3
              try clear hfz24_4
              try clear hfz24_5
              try clear hfz24_6
              try clear hfz25_0
              try clear hfz25_1
              try clear hfz25_2
              try clear hfz25_3
              try clear hfz25_4
              try clear hfz25_5
              try clear hfz25_6
              try clear hfz26_0
              try clear hfz26_1
              try clear hfz26_2
              try clear hfz26_3
              try clear hfz26_4
              try clear hfz26_5
              try clear hfz26_6
              try clear hfz29_0
              try clear hfz29_1
              try clear hfz29_2
              try clear hfz29_3
              try clear hfz29_4
              try clear hfz29_5
              try clear hfz29_6
              try clear hfz31_0
              try clear hfz31_1
              try clear hfz31_2
              try clear hfz31_3
              try clear hfz31_4
              try clear hfz31_5
              try clear hfz31_6
              try clear hfz33_0
              try clear hfz33_1
              try clear hfz33_2
              try clear hfz33_3
              try clear hfz33_4
              try clear hfz33_5
              try clear hfz33_6
              try clear hfz39_0
              try clear hfz39_1
              try clear hfz39_2
              try clear hfz39_3
              try clear hfz39_4
              try clear hfz39_5
              try clear hfz39_6
              try clear hfz41_0
              try clear hfz41_1
              try clear hfz41_2
              try clear hfz41_3
              try clear hfz41_4
              try clear hfz41_5
              try clear hfz41_6
              try clear hfz42_0
              try clear hfz42_1
              try clear hfz42_2
              try clear hfz42_3
              try clear hfz42_4
              try clear hfz42_5
              try clear hfz42_6
              try clear hfz43_0
              try clear hfz43_1
              try clear hfz43_2
              try clear hfz43_3
              try clear hfz43_4
              try clear hfz43_5
              try clear hfz43_6
              try clear hfz44_0
              try clear hfz44_1
              try clear hfz44_2
              try clear hfz44_3
              try clear hfz44_4
              try clear hfz44_5
              try clear hfz44_6
              try clear hfz5_0
              try clear hfz5_1
              try clear hfz5_2
              try clear hfz5_3
              try clear hfz5_4
              try clear hfz5_5
              try clear hfz5_6
              try clear hfz7_0
              try clear hfz7_1
              try clear hfz7_2
              try clear hfz7_3
              try clear hfz7_4
              try clear hfz7_5
              try clear hfz7_6
              try clear hfz9_0
              try clear hfz9_1
              try clear hfz9_2
              try clear hfz9_3
              try clear hfz9_4
              try clear hfz9_5
              try clear hfz9_6
              try clear p2
              try clear p22
              try clear p6
              try clear q2
              try clear q22
              obtain ⟨kq, x102_26, rfl, HA, HJ26, BK105, HB⟩ := hcut
              cases kq with
              | zero => exact absurd HA.out (by simp [spec_IsTextPart.j3])
              | succ kj26 =>
                have H := HA.out
                clear HA
                simp only [spec_IsTextPart.j3] at H
                by_cases c45 : x102_26 = true
                · subst c45
                  have H1 : (some false) = some r := by rw [if_pos rfl] at H; exact H
                  clear H
                  have H := H1
                  clear H1
                  obtain rfl := Option.some.inj H
                  go_wp2
                  go_ret
                  exact ⟨by first | rfl | (simp [errW_none, errW_some] <;> rfl) | (simp [*, errW_none, errW_some] <;> rfl), by repeat (first | (with_reducible first | exact HB.out | apply below_alloc | apply pw_below_drewN | apply below_drew1 | refine below_set ?_ GE105.out) | exact HB.out)⟩
                · replace c45 := Bool.eq_false_iff.mpr c45
                  subst c45
                  have H1 : (spec_IsTextPart.l1 kj26 (⟨#[48, 49, 50, 51, 52, 53, 54, 55, 56, 57]⟩ : ByteArray) (a0_5.size : Int) 0 a0_0 a0_1 a0_2 a0_3 a0_4 a0_5 a0_6) = some r := by rw [if_neg (show ¬ (false = true) by decide)] at H; exact H
                  clear H
                  have H := H1
                  clear H1
                  have H' := Aside0.mk H
                  clear H
                  have hcz46_0 : wc.cell? ⟨gb105, 0, none⟩ = some (.string a0_0) := (blk_cell BK105.out 0).trans rfl
                  have hcz46_1 : wc.cell? ⟨gb105, 1, none⟩ = some (.string a0_1) := (blk_cell BK105.out 1).trans rfl
                  have hcz46_2 : wc.cell? ⟨gb105, 2, none⟩ = some (.bool a0_2) := (blk_cell BK105.out 2).trans rfl
                  have hcz46_3 : wc.cell? ⟨gb105, 3, none⟩ = some (.string a0_3) := (blk_cell BK105.out 3).trans rfl
                  have hcz46_4 : wc.cell? ⟨gb105, 4, none⟩ = some (.string a0_4) := (blk_cell BK105.out 4).trans rfl
                  have hcz46_5 : wc.cell? ⟨gb105, 5, none⟩ = some (.string a0_5) := (blk_cell BK105.out 5).trans rfl
                  have hcz46_6 : wc.cell? ⟨gb105, 6, none⟩ = some (.string a0_6) := (blk_cell BK105.out 6).trans rfl
                  have hfz46_0 := blk_frozen BK105.out 0
                  have hfz46_1 := blk_frozen BK105.out 1
                  have hfz46_2 := blk_frozen BK105.out 2
                  have hfz46_3 := blk_frozen BK105.out 3
                  have hfz46_4 := blk_frozen BK105.out 4
                  have hfz46_5 := blk_frozen BK105.out 5
                  have hfz46_6 := blk_frozen BK105.out 6
                  go_wp2
                  go_loopg [106] kj26 (fun kq v106 w' => ∃ (x106_4 : Int), v106 = .int .i64 x106_4 ∧ Aside0 (spec_IsTextPart.l1 kq (⟨#[48, 49, 50, 51, 52, 53, 54, 55, 56, 57]⟩ : ByteArray) (a0_5.size : Int) x106_4 a0_0 a0_1 a0_2 a0_3 a0_4 a0_5 a0_6 = some r) ∧ Aside0 (kq ≤ kj26) ∧ Aside0 (w'.heap[gb105]? = some (.cells #[.string a0_0, .string a0_1, .bool a0_2, .string a0_3, .string a0_4, .string a0_5, .string a0_6] 26 (0, 0))) ∧ Aside0 (Below w.heap.size w w'))
                  case atStart => exact ⟨(0), (by first | rfl | (simp; done) | (simp [*]; done)), H', ⟨Nat.le_refl _⟩, ⟨by (with_reducible repeat (first | refine blk_drewN ?_ _ | refine blk_drew ?_ | refine blk_alloc ?_ _)); exact BK105.out⟩, ⟨by repeat (first | (with_reducible first | exact HB.out | apply below_alloc | apply pw_below_drewN | apply below_drew1 | refine below_set ?_ GE105.out) | exact HB.out)⟩⟩
                  case round =>
                    clear H'
                    try clear c1
                    try clear c2
                    try clear p2
                    try clear q2
                    try clear hx2
                    try clear c3
                    try clear c4
                    try clear c4b0
                    try clear c4b1
                    try clear c6
                    try clear c6b0
                    try clear c6b1
                    try clear p6
                    try clear c8
                    try clear c8b0
                    try clear c8b1
                    try clear c11
                    try clear c13
                    try clear c18
                    try clear c20
                    try clear c20b0
                    try clear c21
                    try clear c21b0
                    try clear p22
                    try clear q22
                    try clear hx22
                    try clear c23
                    try clear c23b0
                    try clear c23b1
                    try clear c28
                    try clear c28b0
                    try clear c30
                    try clear c30b0
                    try clear c30b1
                    try clear c32
                    try clear c32b0
                    try clear c32b1
                    try clear c35
                    try clear c37
                    try clear c38
                    try clear c40
                    try clear c40b0
                    try clear c40b1
                    try clear c45
                    try clear hcz15_0
                    try clear hcz15_1
                    try clear hcz15_2
                    try clear hcz15_3
                    try clear hcz15_4
                    try clear hcz15_5
                    try clear hcz15_6
                    try clear hcz16_0
                    try clear hcz16_1
                    try clear hcz16_2
                    try clear hcz16_3
                    try clear hcz16_4
                    try clear hcz16_5
                    try clear hcz16_6
                    try clear hcz17_0
                    try clear hcz17_1
                    try clear hcz17_2
                    try clear hcz17_3
                    try clear hcz17_4
                    try clear hcz17_5
                    try clear hcz17_6
                    try clear hcz24_0
                    try clear hcz24_1
                    try clear hcz24_2
                    try clear hcz24_3
                    try clear hcz24_4
                    try clear hcz24_5
                    try clear hcz24_6
                    try clear hcz25_0
                    try clear hcz25_1
                    try clear hcz25_2
                    try clear hcz25_3
                    try clear hcz25_4
                    try clear hcz25_5
                    try clear hcz25_6
                    try clear hcz26_0
                    try clear hcz26_1
                    try clear hcz26_2
                    try clear hcz26_3
                    try clear hcz26_4
                    try clear hcz26_5
                    try clear hcz26_6
                    try clear hcz29_0
                    try clear hcz29_1
                    try clear hcz29_2
                    try clear hcz29_3
                    try clear hcz29_4
                    try clear hcz29_5
                    try clear hcz29_6
                    try clear hcz31_0
                    try clear hcz31_1
                    try clear hcz31_2
                    try clear hcz31_3
                    try clear hcz31_4
                    try clear hcz31_5
                    try clear hcz31_6
                    try clear hcz33_0
                    try clear hcz33_1
                    try clear hcz33_2
                    try clear hcz33_3
                    try clear hcz33_4
                    try clear hcz33_5
                    try clear hcz33_6
                    try clear hcz39_0
                    try clear hcz39_1
                    try clear hcz39_2
                    try clear hcz39_3
                    try clear hcz39_4
                    try clear hcz39_5
                    try clear hcz39_6
                    try clear hcz41_0
                    try clear hcz41_1
                    try clear hcz41_2
                    try clear hcz41_3
                    try clear hcz41_4
                    try clear hcz41_5
                    try clear hcz41_6
                    try clear hcz42_0
                    try clear hcz42_1
                    try clear hcz42_2
                    try clear hcz42_3
                    try clear hcz42_4
                    try clear hcz42_5
                    try clear hcz42_6
                    try clear hcz43_0
                    try clear hcz43_1
                    try clear hcz43_2
                    try clear hcz43_3
                    try clear hcz43_4
                    try clear hcz43_5
                    try clear hcz43_6
                    try clear hcz44_0
                    try clear hcz44_1
                    try clear hcz44_2
                    try clear hcz44_3
                    try clear hcz44_4
                    try clear hcz44_5
                    try clear hcz44_6
                    try clear hcz46_0
                    try clear hcz46_1
                    try clear hcz46_2
                    try clear hcz46_3
                    try clear hcz46_4
                    try clear hcz46_5
                    try clear hcz46_6
                    try clear hcz5_0
                    try clear hcz5_1
                    try clear hcz5_2
                    try clear hcz5_3
                    try clear hcz5_4
                    try clear hcz5_5
                    try clear hcz5_6
                    try clear hcz7_0
                    try clear hcz7_1
                    try clear hcz7_2
                    try clear hcz7_3
                    try clear hcz7_4
                    try clear hcz7_5
                    try clear hcz7_6
                    try clear hcz9_0
                    try clear hcz9_1
                    try clear hcz9_2
                    try clear hcz9_3
                    try clear hcz9_4
                    try clear hcz9_5
                    try clear hcz9_6
                    try clear hfz15_0
                    try clear hfz15_1
                    try clear hfz15_2
                    try clear hfz15_3
                    try clear hfz15_4
                    try clear hfz15_5
                    try clear hfz15_6
                    try clear hfz16_0
                    try clear hfz16_1
                    try clear hfz16_2
                    try clear hfz16_3
                    try clear hfz16_4
                    try clear hfz16_5
                    try clear hfz16_6
                    try clear hfz17_0
                    try clear hfz17_1
                    try clear hfz17_2
                    try clear hfz17_3
                    try clear hfz17_4
                    try clear hfz17_5
                    try clear hfz17_6
                    try clear hfz24_0
                    try clear hfz24_1
                    try clear hfz24_2
                    try clear hfz24_3
                    try clear hfz24_4
                    try clear hfz24_5
                    try clear hfz24_6
                    try clear hfz25_0
                    try clear hfz25_1
                    try clear hfz25_2
                    try clear hfz25_3
                    try clear hfz25_4
                    try clear hfz25_5
                    try clear hfz25_6
                    try clear hfz26_0
                    try clear hfz26_1
                    try clear hfz26_2
                    try clear hfz26_3
                    try clear hfz26_4
                    try clear hfz26_5
                    try clear hfz26_6
                    try clear hfz29_0
                    try clear hfz29_1
                    try clear hfz29_2
                    try clear hfz29_3
                    try clear hfz29_4
                    try clear hfz29_5
                    try clear hfz29_6
                    try clear hfz31_0
                    try clear hfz31_1
                    try clear hfz31_2
                    try clear hfz31_3
                    try clear hfz31_4
                    try clear hfz31_5
                    try clear hfz31_6
                    try clear hfz33_0
                    try clear hfz33_1
                    try clear hfz33_2
                    try clear hfz33_3
                    try clear hfz33_4
                    try clear hfz33_5
                    try clear hfz33_6
                    try clear hfz39_0
                    try clear hfz39_1
                    try clear hfz39_2
                    try clear hfz39_3
                    try clear hfz39_4
                    try clear hfz39_5
                    try clear hfz39_6
                    try clear hfz41_0
                    try clear hfz41_1
                    try clear hfz41_2
                    try clear hfz41_3
                    try clear hfz41_4
                    try clear hfz41_5
                    try clear hfz41_6
                    try clear hfz42_0
                    try clear hfz42_1
                    try clear hfz42_2
                    try clear hfz42_3
                    try clear hfz42_4
                    try clear hfz42_5
                    try clear hfz42_6
                    try clear hfz43_0
                    try clear hfz43_1
                    try clear hfz43_2
                    try clear hfz43_3
                    try clear hfz43_4
                    try clear hfz43_5
                    try clear hfz43_6
                    try clear hfz44_0
                    try clear hfz44_1
                    try clear hfz44_2
                    try clear hfz44_3
                    try clear hfz44_4
                    try clear hfz44_5
                    try clear hfz44_6
                    try clear hfz46_0
                    try clear hfz46_1
                    try clear hfz46_2
                    try clear hfz46_3
                    try clear hfz46_4
                    try clear hfz46_5
                    try clear hfz46_6
                    try clear hfz5_0
                    try clear hfz5_1
                    try clear hfz5_2
                    try clear hfz5_3
                    try clear hfz5_4
                    try clear hfz5_5
                    try clear hfz5_6
                    try clear hfz7_0
                    try clear hfz7_1
                    try clear hfz7_2
                    try clear hfz7_3
                    try clear hfz7_4
                    try clear hfz7_5
                    try clear hfz7_6
                    try clear hfz9_0
                    try clear hfz9_1
                    try clear hfz9_2
                    try clear hfz9_3
                    try clear hfz9_4
                    try clear hfz9_5
                    try clear hfz9_6
                    try clear p2
                    try clear p22
                    try clear p6
                    try clear q2
                    try clear q22
                    obtain ⟨x106_4, rfl, HA, HK4, BK105, HB⟩ := hrel
                    cases gk with
                    | zero => exact absurd HA.out (by simp [spec_IsTextPart.l1])
                    | succ k4 =>
                      have H := HA.out
                      clear HA
                      simp only [spec_IsTextPart.l1] at H
                      by_cases c47 : x106_4 < (a0_5.size : Int)
                      · rw [if_pos c47] at H
                        have c47b0 : decide (x106_4 < (a0_5.size : Int)) = true := decide_eq_true c47
                        clear c47
                        by_cases c48 : 0 ≤ x106_4
                        · rw [if_pos c48] at H
                          have c48b0 : decide (0 ≤ x106_4) = true := decide_eq_true c48
                          clear c48
                          by_cases c49 : x106_4 < (a0_5.size : Int)
                          · rw [if_pos c49] at H
                            have c49b0 : decide (x106_4 < (a0_5.size : Int)) = true := decide_eq_true c49
                            clear c49
                            by_cases c51 : (bt a0_5 x106_4) ≤ 32
                            · rw [if_pos c51] at H
                              have c51b0 : decide ((bt a0_5 x106_4) ≤ 32) = true := decide_eq_true c51
                              clear c51
                              obtain rfl := Option.some.inj H
                              have hcz52_0 : wr.cell? ⟨gb105, 0, none⟩ = some (.string a0_0) := (blk_cell BK105.out 0).trans rfl
                              have hcz52_1 : wr.cell? ⟨gb105, 1, none⟩ = some (.string a0_1) := (blk_cell BK105.out 1).trans rfl
                              have hcz52_2 : wr.cell? ⟨gb105, 2, none⟩ = some (.bool a0_2) := (blk_cell BK105.out 2).trans rfl
                              have hcz52_3 : wr.cell? ⟨gb105, 3, none⟩ = some (.string a0_3) := (blk_cell BK105.out 3).trans rfl
                              have hcz52_4 : wr.cell? ⟨gb105, 4, none⟩ = some (.string a0_4) := (blk_cell BK105.out 4).trans rfl
                              have hcz52_5 : wr.cell? ⟨gb105, 5, none⟩ = some (.string a0_5) := (blk_cell BK105.out 5).trans rfl
                              have hcz52_6 : wr.cell? ⟨gb105, 6, none⟩ = some (.string a0_6) := (blk_cell BK105.out 6).trans rfl
                              have hfz52_0 := blk_frozen BK105.out 0
                              have hfz52_1 := blk_frozen BK105.out 1
                              have hfz52_2 := blk_frozen BK105.out 2
                              have hfz52_3 := blk_frozen BK105.out 3
                              have hfz52_4 := blk_frozen BK105.out 4
                              have hfz52_5 := blk_frozen BK105.out 5
                              have hfz52_6 := blk_frozen BK105.out 6
                              have p50 : 0 ≤ (x106_4 : Int) := of_decide_eq_true (by first | (with_reducible assumption) | assumption)
                              have q50 : x106_4 < (a0_5.size : Int) := of_decide_eq_true (by first | (with_reducible assumption) | assumption)
                              have hx50 := bt_at a0_5 x106_4
                              replace p50 := eq_true p50
                              replace q50 := eq_true q50
                              go_wp2
                              go_ret
                              exact ⟨by first | rfl | (simp [errW_none, errW_some] <;> rfl) | (simp [*, errW_none, errW_some] <;> rfl), by repeat (first | (with_reducible first | exact HB.out | apply below_alloc | apply pw_below_drewN | apply below_drew1 | refine below_set ?_ GE105.out) | exact HB.out)⟩
                            · rw [if_neg c51] at H
                              have c51b0 : decide ((bt a0_5 x106_4) ≤ 32) = false := decide_eq_false c51
                              clear c51
                              by_cases c53 : (bt a0_5 x106_4) > 126
                              · rw [if_pos c53] at H
                                have c53b0 : decide (126 < (bt a0_5 x106_4)) = true := decide_eq_true c53
                                clear c53
                                obtain rfl := Option.some.inj H
                                have hcz54_0 : wr.cell? ⟨gb105, 0, none⟩ = some (.string a0_0) := (blk_cell BK105.out 0).trans rfl
                                have hcz54_1 : wr.cell? ⟨gb105, 1, none⟩ = some (.string a0_1) := (blk_cell BK105.out 1).trans rfl
                                have hcz54_2 : wr.cell? ⟨gb105, 2, none⟩ = some (.bool a0_2) := (blk_cell BK105.out 2).trans rfl
                                have hcz54_3 : wr.cell? ⟨gb105, 3, none⟩ = some (.string a0_3) := (blk_cell BK105.out 3).trans rfl
                                have hcz54_4 : wr.cell? ⟨gb105, 4, none⟩ = some (.string a0_4) := (blk_cell BK105.out 4).trans rfl
                                have hcz54_5 : wr.cell? ⟨gb105, 5, none⟩ = some (.string a0_5) := (blk_cell BK105.out 5).trans rfl
                                have hcz54_6 : wr.cell? ⟨gb105, 6, none⟩ = some (.string a0_6) := (blk_cell BK105.out 6).trans rfl
                                have hfz54_0 := blk_frozen BK105.out 0
                                have hfz54_1 := blk_frozen BK105.out 1
                                have hfz54_2 := blk_frozen BK105.out 2
                                have hfz54_3 := blk_frozen BK105.out 3
                                have hfz54_4 := blk_frozen BK105.out 4
                                have hfz54_5 := blk_frozen BK105.out 5
                                have hfz54_6 := blk_frozen BK105.out 6
                                have p50 : 0 ≤ (x106_4 : Int) := of_decide_eq_true (by first | (with_reducible assumption) | assumption)
                                have q50 : x106_4 < (a0_5.size : Int) := of_decide_eq_true (by first | (with_reducible assumption) | assumption)
                                have hx50 := bt_at a0_5 x106_4
                                replace p50 := eq_true p50
                                replace q50 := eq_true q50
                                go_wp2
                                go_ret
                                exact ⟨by first | rfl | (simp [errW_none, errW_some] <;> rfl) | (simp [*, errW_none, errW_some] <;> rfl), by repeat (first | (with_reducible first | exact HB.out | apply below_alloc | apply pw_below_drewN | apply below_drew1 | refine below_set ?_ GE105.out) | exact HB.out)⟩
                              · rw [if_neg c53] at H
                                have c53b0 : decide (126 < (bt a0_5 x106_4)) = false := decide_eq_false c53
                                clear c53
                                by_cases c55 : (bt a0_5 x106_4) = 44
                                · rw [if_pos c55] at H
                                  have c55b0 : ((bt a0_5 x106_4) == 44) = true := beq_iff_eq.mpr c55
                                  have c55b1 : ((bt a0_5 x106_4) != 44) = false := bne_eq_false_iff_eq.mpr c55
                                  clear c55
                                  obtain rfl := Option.some.inj H
                                  have hcz56_0 : wr.cell? ⟨gb105, 0, none⟩ = some (.string a0_0) := (blk_cell BK105.out 0).trans rfl
                                  have hcz56_1 : wr.cell? ⟨gb105, 1, none⟩ = some (.string a0_1) := (blk_cell BK105.out 1).trans rfl
                                  have hcz56_2 : wr.cell? ⟨gb105, 2, none⟩ = some (.bool a0_2) := (blk_cell BK105.out 2).trans rfl
                                  have hcz56_3 : wr.cell? ⟨gb105, 3, none⟩ = some (.string a0_3) := (blk_cell BK105.out 3).trans rfl
                                  have hcz56_4 : wr.cell? ⟨gb105, 4, none⟩ = some (.string a0_4) := (blk_cell BK105.out 4).trans rfl
                                  have hcz56_5 : wr.cell? ⟨gb105, 5, none⟩ = some (.string a0_5) := (blk_cell BK105.out 5).trans rfl
                                  have hcz56_6 : wr.cell? ⟨gb105, 6, none⟩ = some (.string a0_6) := (blk_cell BK105.out 6).trans rfl
                                  have hfz56_0 := blk_frozen BK105.out 0
                                  have hfz56_1 := blk_frozen BK105.out 1
                                  have hfz56_2 := blk_frozen BK105.out 2
                                  have hfz56_3 := blk_frozen BK105.out 3
                                  have hfz56_4 := blk_frozen BK105.out 4
                                  have hfz56_5 := blk_frozen BK105.out 5
                                  have hfz56_6 := blk_frozen BK105.out 6
                                  have p50 : 0 ≤ (x106_4 : Int) := of_decide_eq_true (by first | (with_reducible assumption) | assumption)
                                  have q50 : x106_4 < (a0_5.size : Int) := of_decide_eq_true (by first | (with_reducible assumption) | assumption)
                                  have hx50 := bt_at a0_5 x106_4
                                  replace p50 := eq_true p50
                                  replace q50 := eq_true q50
                                  go_wp2
                                  go_ret
                                  exact ⟨by first | rfl | (simp [errW_none, errW_some] <;> rfl) | (simp [*, errW_none, errW_some] <;> rfl), by repeat (first | (with_reducible first | exact HB.out | apply below_alloc | apply pw_below_drewN | apply below_drew1 | refine below_set ?_ GE105.out) | exact HB.out)⟩
                                · rw [if_neg c55] at H
                                  have c55b0 : ((bt a0_5 x106_4) == 44) = false := beq_eq_false_iff_ne.mpr c55
                                  have c55b1 : ((bt a0_5 x106_4) != 44) = true := bne_iff_ne.mpr c55
                                  have H' := Aside0.mk H
                                  clear H
                                  have hcz57_0 : wr.cell? ⟨gb105, 0, none⟩ = some (.string a0_0) := (blk_cell BK105.out 0).trans rfl
                                  have hcz57_1 : wr.cell? ⟨gb105, 1, none⟩ = some (.string a0_1) := (blk_cell BK105.out 1).trans rfl
                                  have hcz57_2 : wr.cell? ⟨gb105, 2, none⟩ = some (.bool a0_2) := (blk_cell BK105.out 2).trans rfl
                                  have hcz57_3 : wr.cell? ⟨gb105, 3, none⟩ = some (.string a0_3) := (blk_cell BK105.out 3).trans rfl
                                  have hcz57_4 : wr.cell? ⟨gb105, 4, none⟩ = some (.string a0_4) := (blk_cell BK105.out 4).trans rfl
                                  have hcz57_5 : wr.cell? ⟨gb105, 5, none⟩ = some (.string a0_5) := (blk_cell BK105.out 5).trans rfl
                                  have hcz57_6 : wr.cell? ⟨gb105, 6, none⟩ = some (.string a0_6) := (blk_cell BK105.out 6).trans rfl
                                  have hfz57_0 := blk_frozen BK105.out 0
                                  have hfz57_1 := blk_frozen BK105.out 1
                                  have hfz57_2 := blk_frozen BK105.out 2
                                  have hfz57_3 := blk_frozen BK105.out 3
                                  have hfz57_4 := blk_frozen BK105.out 4
                                  have hfz57_5 := blk_frozen BK105.out 5
                                  have hfz57_6 := blk_frozen BK105.out 6
                                  have p50 : 0 ≤ (x106_4 : Int) := of_decide_eq_true (by first | (with_reducible assumption) | assumption)
                                  have q50 : x106_4 < (a0_5.size : Int) := of_decide_eq_true (by first | (with_reducible assumption) | assumption)
                                  have hx50 := bt_at a0_5 x106_4
                                  replace p50 := eq_true p50
                                  replace q50 := eq_true q50
                                  go_wp2
                                  go_roundg k4
                                  case measure => have := HJ1.out; have := HJ18.out; have := HJ26.out; have := HK4.out; omega
                                  case rel => exact ⟨(wrap64 (x106_4 + 1)), (by first | rfl | (simp; done) | (simp [*]; done)), H', ⟨by have := HJ1.out; have := HJ18.out; have := HJ26.out; have := HK4.out; omega⟩, ⟨by (with_reducible repeat (first | refine blk_drewN ?_ _ | refine blk_drew ?_ | refine blk_alloc ?_ _)); exact BK105.out⟩, ⟨by repeat (first | (with_reducible first | exact HB.out | apply below_alloc | apply pw_below_drewN | apply below_drew1 | refine below_set ?_ GE105.out) | exact HB.out)⟩⟩
                          · rw [if_neg c49] at H
                            exact absurd H (by simp)
                        · rw [if_neg c48] at H
                          exact absurd H (by simp)
                      · rw [if_neg c47] at H
                        have c47b0 : decide (x106_4 < (a0_5.size : Int)) = false := decide_eq_false c47
                        clear c47
                        by_cases c58 : a0_5.toList = ([] : List UInt8)
                        · rw [if_pos c58] at H
                          have c58b0 : (a0_5.toList == ([] : List UInt8)) = true := beq_iff_eq.mpr c58
                          have c58b1 : (a0_5.toList != ([] : List UInt8)) = false := bne_eq_false_iff_eq.mpr c58
                          clear c58
                          obtain rfl := Option.some.inj H
                          have hcz59_0 : wr.cell? ⟨gb105, 0, none⟩ = some (.string a0_0) := (blk_cell BK105.out 0).trans rfl
                          have hcz59_1 : wr.cell? ⟨gb105, 1, none⟩ = some (.string a0_1) := (blk_cell BK105.out 1).trans rfl
                          have hcz59_2 : wr.cell? ⟨gb105, 2, none⟩ = some (.bool a0_2) := (blk_cell BK105.out 2).trans rfl
                          have hcz59_3 : wr.cell? ⟨gb105, 3, none⟩ = some (.string a0_3) := (blk_cell BK105.out 3).trans rfl
                          have hcz59_4 : wr.cell? ⟨gb105, 4, none⟩ = some (.string a0_4) := (blk_cell BK105.out 4).trans rfl
                          have hcz59_5 : wr.cell? ⟨gb105, 5, none⟩ = some (.string a0_5) := (blk_cell BK105.out 5).trans rfl
                          have hcz59_6 : wr.cell? ⟨gb105, 6, none⟩ = some (.string a0_6) := (blk_cell BK105.out 6).trans rfl
                          have hfz59_0 := blk_frozen BK105.out 0
                          have hfz59_1 := blk_frozen BK105.out 1
                          have hfz59_2 := blk_frozen BK105.out 2
                          have hfz59_3 := blk_frozen BK105.out 3
                          have hfz59_4 := blk_frozen BK105.out 4
                          have hfz59_5 := blk_frozen BK105.out 5
                          have hfz59_6 := blk_frozen BK105.out 6
                          go_wp2
                          go_ret
                          exact ⟨by first | rfl | (simp [errW_none, errW_some] <;> rfl) | (simp [*, errW_none, errW_some] <;> rfl), by repeat (first | (with_reducible first | exact HB.out | apply below_alloc | apply pw_below_drewN | apply below_drew1 | refine below_set ?_ GE105.out) | exact HB.out)⟩
                        · rw [if_neg c58] at H
                          have c58b0 : (a0_5.toList == ([] : List UInt8)) = false := beq_eq_false_iff_ne.mpr c58
                          have c58b1 : (a0_5.toList != ([] : List UInt8)) = true := bne_iff_ne.mpr c58
                          by_cases c60 : 0 ≤ 1
                          · rw [if_pos c60] at H
                            have c60b0 := eq_true c60
                            have c60b1 : decide (0 ≤ 1) = true := decide_eq_true c60
                            clear c60
                            by_cases c61 : 1 ≤ (a0_5.size : Int)
                            · rw [if_pos c61] at H
                              have c61b0 := eq_true c61
                              have c61b1 : decide (1 ≤ (a0_5.size : Int)) = true := decide_eq_true c61
                              clear c61
                              by_cases c62 : (⟨#[48, 49, 50, 51, 52, 53, 54, 55, 56, 57]⟩ : ByteArray).size + 1 ≤ 9223372036854775807
                              · rw [if_pos c62] at H
                                have c62b0 := eq_true c62
                                have c62b1 : decide ((⟨#[48, 49, 50, 51, 52, 53, 54, 55, 56, 57]⟩ : ByteArray).size + 1 ≤ 9223372036854775807) = true := decide_eq_true c62
                                try have c62b2 : (9223372036854775807 < (⟨#[48, 49, 50, 51, 52, 53, 54, 55, 56, 57]⟩ : ByteArray).size + 1) = False := eq_false (Nat.not_lt.2 c62)
                                replace H := Option.bind_eq_some_iff.mp H
                                obtain ⟨t111, A630, H⟩ := H
                                replace H : (some (!t111)) = some r := H
                                have A63 := Aside0.mk A630
                                clear A630
                                obtain rfl := Option.some.inj H
                                have hcz64_0 : wr.cell? ⟨gb105, 0, none⟩ = some (.string a0_0) := (blk_cell BK105.out 0).trans rfl
                                have hcz64_1 : wr.cell? ⟨gb105, 1, none⟩ = some (.string a0_1) := (blk_cell BK105.out 1).trans rfl
                                have hcz64_2 : wr.cell? ⟨gb105, 2, none⟩ = some (.bool a0_2) := (blk_cell BK105.out 2).trans rfl
                                have hcz64_3 : wr.cell? ⟨gb105, 3, none⟩ = some (.string a0_3) := (blk_cell BK105.out 3).trans rfl
                                have hcz64_4 : wr.cell? ⟨gb105, 4, none⟩ = some (.string a0_4) := (blk_cell BK105.out 4).trans rfl
                                have hcz64_5 : wr.cell? ⟨gb105, 5, none⟩ = some (.string a0_5) := (blk_cell BK105.out 5).trans rfl
                                have hcz64_6 : wr.cell? ⟨gb105, 6, none⟩ = some (.string a0_6) := (blk_cell BK105.out 6).trans rfl
                                have hfz64_0 := blk_frozen BK105.out 0
                                have hfz64_1 := blk_frozen BK105.out 1
                                have hfz64_2 := blk_frozen BK105.out 2
                                have hfz64_3 := blk_frozen BK105.out 3
                                have hfz64_4 := blk_frozen BK105.out 4
                                have hfz64_5 := blk_frozen BK105.out 5
                                have hfz64_6 := blk_frozen BK105.out 6
                                go_wp2_with (first | (go_at_call 39; (with_reducible refine (spec_textIs.calls k4 (a0_5.extract 0 1) ((⟨#[48, 49, 50, 51, 52, 53, 54, 55, 56, 57]⟩ : ByteArray) ++ (⟨#[46]⟩ : ByteArray)) t111 _ A63.out).mono ?_); rintro e w' ⟨rfl, ⟨nd, rfl⟩⟩))
                                go_ret
                                exact ⟨by first | rfl | (simp [errW_none, errW_some] <;> rfl) | (simp [*, errW_none, errW_some] <;> rfl), by repeat (first | (with_reducible first | exact HB.out | apply below_alloc | apply pw_below_drewN | apply below_drew1 | refine below_set ?_ GE105.out) | exact HB.out)⟩
                              · rw [if_neg c62] at H
                                exact absurd H (by simp)
                            · rw [if_neg c61] at H
                              exact absurd H (by simp)
                          · rw [if_neg c60] at H
                            exact absurd H (by simp)

end Go.Proofs.YtnajekpckbfcdaaGreatDoor.PFnParseDecs
