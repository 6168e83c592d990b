/-
  Powers of ten; strings.Reader.
-/
import Derived.Test.YtnajekpckbfcdaaGreatDoorM07
import Derived.Test.YtnajekpckbfcdaaGreatDoorM08
set_option linter.unusedVariables false
set_option linter.unusedSimpArgs false
namespace Go.Proofs.YtnajekpckbfcdaaGreatDoor
open Go.RowKit

set_option maxRecDepth 20000 in
set_option maxHeartbeats 2000000 in
theorem maxPow_10 (w : World) : Calls Tryz.prog 244 #[.int .u64 10] w fun e w' => e = .returned (.tuple #[.int .u64 10000000000000000000, .int .i64 19]) ∧ w = w' := by
  go_enter Tryz.func244, Tryz.ntmps244
  go_wp2_with fail
  refine wp_loop_rounds 19 ?_
  iterate 19 (rw [rounds_succ]; go_wp2_with fail)
  go_wp2
  go_ret2
  exact ⟨rfl, rfl⟩

theorem pow_10_0 (w : World) : Calls Tryz.prog 247 #[.int .u64 10, .int .i64 0] w fun e w' => e = .returned (.int .u64 1) ∧ w = w' := by
  go_enter Tryz.func247, Tryz.ntmps247
  go_wp2_with fail
  refine wp_loop_rounds 1 ?_
  iterate 1 (rw [rounds_succ]; go_wp2_with fail)
  go_wp2
  go_ret
  exact ⟨rfl, rfl⟩

theorem pow_10_1 (w : World) : Calls Tryz.prog 247 #[.int .u64 10, .int .i64 1] w fun e w' => e = .returned (.int .u64 10) ∧ w = w' := by
  have b1 : bits .and .i64 1 1 = 1 := by kernel_rfl
  go_enter Tryz.func247, Tryz.ntmps247
  go_wp2_with fail
  refine wp_loop_rounds 2 ?_
  iterate 2 (rw [rounds_succ]; go_wp2_with fail)
  go_wp2
  go_ret
  exact ⟨rfl, rfl⟩

theorem pow_10_2 (w : World) : Calls Tryz.prog 247 #[.int .u64 10, .int .i64 2] w fun e w' => e = .returned (.int .u64 100) ∧ w = w' := by
  have b2 : bits .and .i64 2 1 = 0 := by kernel_rfl
  have b1 : bits .and .i64 1 1 = 1 := by kernel_rfl
  go_enter Tryz.func247, Tryz.ntmps247
  go_wp2_with fail
  refine wp_loop_rounds 3 ?_
  iterate 3 (rw [rounds_succ]; go_wp2_with fail)
  go_wp2
  go_ret
  exact ⟨rfl, rfl⟩

theorem pow_10_3 (w : World) : Calls Tryz.prog 247 #[.int .u64 10, .int .i64 3] w fun e w' => e = .returned (.int .u64 1000) ∧ w = w' := by
  have b3 : bits .and .i64 3 1 = 1 := by kernel_rfl
  have b1 : bits .and .i64 1 1 = 1 := by kernel_rfl
  go_enter Tryz.func247, Tryz.ntmps247
  go_wp2_with fail
  refine wp_loop_rounds 3 ?_
  iterate 3 (rw [rounds_succ]; go_wp2_with fail)
  go_wp2
  go_ret
  exact ⟨rfl, rfl⟩

theorem pow_10_4 (w : World) : Calls Tryz.prog 247 #[.int .u64 10, .int .i64 4] w fun e w' => e = .returned (.int .u64 10000) ∧ w = w' := by
  have b4 : bits .and .i64 4 1 = 0 := by kernel_rfl
  have b2 : bits .and .i64 2 1 = 0 := by kernel_rfl
  have b1 : bits .and .i64 1 1 = 1 := by kernel_rfl
  go_enter Tryz.func247, Tryz.ntmps247
  go_wp2_with fail
  refine wp_loop_rounds 4 ?_
  iterate 4 (rw [rounds_succ]; go_wp2_with fail)
  go_wp2
  go_ret
  exact ⟨rfl, rfl⟩

theorem pow_10_5 (w : World) : Calls Tryz.prog 247 #[.int .u64 10, .int .i64 5] w fun e w' => e = .returned (.int .u64 100000) ∧ w = w' := by
  have b5 : bits .and .i64 5 1 = 1 := by kernel_rfl
  have b2 : bits .and .i64 2 1 = 0 := by kernel_rfl
  have b1 : bits .and .i64 1 1 = 1 := by kernel_rfl
  go_enter Tryz.func247, Tryz.ntmps247
  go_wp2_with fail
  refine wp_loop_rounds 4 ?_
  iterate 4 (rw [rounds_succ]; go_wp2_with fail)
  go_wp2
  go_ret
  exact ⟨rfl, rfl⟩

theorem pow_10_6 (w : World) : Calls Tryz.prog 247 #[.int .u64 10, .int .i64 6] w fun e w' => e = .returned (.int .u64 1000000) ∧ w = w' := by
  have b6 : bits .and .i64 6 1 = 0 := by kernel_rfl
  have b3 : bits .and .i64 3 1 = 1 := by kernel_rfl
  have b1 : bits .and .i64 1 1 = 1 := by kernel_rfl
  go_enter Tryz.func247, Tryz.ntmps247
  go_wp2_with fail
  refine wp_loop_rounds 4 ?_
  iterate 4 (rw [rounds_succ]; go_wp2_with fail)
  go_wp2
  go_ret
  exact ⟨rfl, rfl⟩

theorem pow_10_7 (w : World) : Calls Tryz.prog 247 #[.int .u64 10, .int .i64 7] w fun e w' => e = .returned (.int .u64 10000000) ∧ w = w' := by
  have b7 : bits .and .i64 7 1 = 1 := by kernel_rfl
  have b3 : bits .and .i64 3 1 = 1 := by kernel_rfl
  have b1 : bits .and .i64 1 1 = 1 := by kernel_rfl
  go_enter Tryz.func247, Tryz.ntmps247
  go_wp2_with fail
  refine wp_loop_rounds 4 ?_
  iterate 4 (rw [rounds_succ]; go_wp2_with fail)
  go_wp2
  go_ret
  exact ⟨rfl, rfl⟩

theorem pow_10_8 (w : World) : Calls Tryz.prog 247 #[.int .u64 10, .int .i64 8] w fun e w' => e = .returned (.int .u64 100000000) ∧ w = w' := by
  have b8 : bits .and .i64 8 1 = 0 := by kernel_rfl
  have b4 : bits .and .i64 4 1 = 0 := by kernel_rfl
  have b2 : bits .and .i64 2 1 = 0 := by kernel_rfl
  have b1 : bits .and .i64 1 1 = 1 := by kernel_rfl
  go_enter Tryz.func247, Tryz.ntmps247
  go_wp2_with fail
  refine wp_loop_rounds 5 ?_
  iterate 5 (rw [rounds_succ]; go_wp2_with fail)
  go_wp2
  go_ret
  exact ⟨rfl, rfl⟩

theorem pow_10_9 (w : World) : Calls Tryz.prog 247 #[.int .u64 10, .int .i64 9] w fun e w' => e = .returned (.int .u64 1000000000) ∧ w = w' := by
  have b9 : bits .and .i64 9 1 = 1 := by kernel_rfl
  have b4 : bits .and .i64 4 1 = 0 := by kernel_rfl
  have b2 : bits .and .i64 2 1 = 0 := by kernel_rfl
  have b1 : bits .and .i64 1 1 = 1 := by kernel_rfl
  go_enter Tryz.func247, Tryz.ntmps247
  go_wp2_with fail
  refine wp_loop_rounds 5 ?_
  iterate 5 (rw [rounds_succ]; go_wp2_with fail)
  go_wp2
  go_ret
  exact ⟨rfl, rfl⟩

theorem pow_10_10 (w : World) : Calls Tryz.prog 247 #[.int .u64 10, .int .i64 10] w fun e w' => e = .returned (.int .u64 10000000000) ∧ w = w' := by
  have b10 : bits .and .i64 10 1 = 0 := by kernel_rfl
  have b5 : bits .and .i64 5 1 = 1 := by kernel_rfl
  have b2 : bits .and .i64 2 1 = 0 := by kernel_rfl
  have b1 : bits .and .i64 1 1 = 1 := by kernel_rfl
  go_enter Tryz.func247, Tryz.ntmps247
  go_wp2_with fail
  refine wp_loop_rounds 5 ?_
  iterate 5 (rw [rounds_succ]; go_wp2_with fail)
  go_wp2
  go_ret
  exact ⟨rfl, rfl⟩

theorem pow_10_11 (w : World) : Calls Tryz.prog 247 #[.int .u64 10, .int .i64 11] w fun e w' => e = .returned (.int .u64 100000000000) ∧ w = w' := by
  have b11 : bits .and .i64 11 1 = 1 := by kernel_rfl
  have b5 : bits .and .i64 5 1 = 1 := by kernel_rfl
  have b2 : bits .and .i64 2 1 = 0 := by kernel_rfl
  have b1 : bits .and .i64 1 1 = 1 := by kernel_rfl
  go_enter Tryz.func247, Tryz.ntmps247
  go_wp2_with fail
  refine wp_loop_rounds 5 ?_
  iterate 5 (rw [rounds_succ]; go_wp2_with fail)
  go_wp2
  go_ret
  exact ⟨rfl, rfl⟩

theorem pow_10_12 (w : World) : Calls Tryz.prog 247 #[.int .u64 10, .int .i64 12] w fun e w' => e = .returned (.int .u64 1000000000000) ∧ w = w' := by
  have b12 : bits .and .i64 12 1 = 0 := by kernel_rfl
  have b6 : bits .and .i64 6 1 = 0 := by kernel_rfl
  have b3 : bits .and .i64 3 1 = 1 := by kernel_rfl
  have b1 : bits .and .i64 1 1 = 1 := by kernel_rfl
  go_enter Tryz.func247, Tryz.ntmps247
  go_wp2_with fail
  refine wp_loop_rounds 5 ?_
  iterate 5 (rw [rounds_succ]; go_wp2_with fail)
  go_wp2
  go_ret
  exact ⟨rfl, rfl⟩

theorem pow_10_13 (w : World) : Calls Tryz.prog 247 #[.int .u64 10, .int .i64 13] w fun e w' => e = .returned (.int .u64 10000000000000) ∧ w = w' := by
  have b13 : bits .and .i64 13 1 = 1 := by kernel_rfl
  have b6 : bits .and .i64 6 1 = 0 := by kernel_rfl
  have b3 : bits .and .i64 3 1 = 1 := by kernel_rfl
  have b1 : bits .and .i64 1 1 = 1 := by kernel_rfl
  go_enter Tryz.func247, Tryz.ntmps247
  go_wp2_with fail
  refine wp_loop_rounds 5 ?_
  iterate 5 (rw [rounds_succ]; go_wp2_with fail)
  go_wp2
  go_ret
  exact ⟨rfl, rfl⟩

theorem pow_10_14 (w : World) : Calls Tryz.prog 247 #[.int .u64 10, .int .i64 14] w fun e w' => e = .returned (.int .u64 100000000000000) ∧ w = w' := by
  have b14 : bits .and .i64 14 1 = 0 := by kernel_rfl
  have b7 : bits .and .i64 7 1 = 1 := by kernel_rfl
  have b3 : bits .and .i64 3 1 = 1 := by kernel_rfl
  have b1 : bits .and .i64 1 1 = 1 := by kernel_rfl
  go_enter Tryz.func247, Tryz.ntmps247
  go_wp2_with fail
  refine wp_loop_rounds 5 ?_
  iterate 5 (rw [rounds_succ]; go_wp2_with fail)
  go_wp2
  go_ret
  exact ⟨rfl, rfl⟩

theorem pow_10_15 (w : World) : Calls Tryz.prog 247 #[.int .u64 10, .int .i64 15] w fun e w' => e = .returned (.int .u64 1000000000000000) ∧ w = w' := by
  have b15 : bits .and .i64 15 1 = 1 := by kernel_rfl
  have b7 : bits .and .i64 7 1 = 1 := by kernel_rfl
  have b3 : bits .and .i64 3 1 = 1 := by kernel_rfl
  have b1 : bits .and .i64 1 1 = 1 := by kernel_rfl
  go_enter Tryz.func247, Tryz.ntmps247
  go_wp2_with fail
  refine wp_loop_rounds 5 ?_
  iterate 5 (rw [rounds_succ]; go_wp2_with fail)
  go_wp2
  go_ret
  exact ⟨rfl, rfl⟩

theorem pow_10_16 (w : World) : Calls Tryz.prog 247 #[.int .u64 10, .int .i64 16] w fun e w' => e = .returned (.int .u64 10000000000000000) ∧ w = w' := by
  have b16 : bits .and .i64 16 1 = 0 := by kernel_rfl
  have b8 : bits .and .i64 8 1 = 0 := by kernel_rfl
  have b4 : bits .and .i64 4 1 = 0 := by kernel_rfl
  have b2 : bits .and .i64 2 1 = 0 := by kernel_rfl
  have b1 : bits .and .i64 1 1 = 1 := by kernel_rfl
  have f0 : IntKind.u64.wrap 100000000000000000000000000000000 = 9632337040368467968 := by rw [IntKind.wrap_u64]; omega
  go_enter Tryz.func247, Tryz.ntmps247
  go_wp2_with fail
  refine wp_loop_rounds 6 ?_
  iterate 6 (rw [rounds_succ]; go_wp2_with fail)
  go_wp2
  go_ret
  exact ⟨rfl, rfl⟩

theorem pow_10_17 (w : World) : Calls Tryz.prog 247 #[.int .u64 10, .int .i64 17] w fun e w' => e = .returned (.int .u64 100000000000000000) ∧ w = w' := by
  have b17 : bits .and .i64 17 1 = 1 := by kernel_rfl
  have b8 : bits .and .i64 8 1 = 0 := by kernel_rfl
  have b4 : bits .and .i64 4 1 = 0 := by kernel_rfl
  have b2 : bits .and .i64 2 1 = 0 := by kernel_rfl
  have b1 : bits .and .i64 1 1 = 1 := by kernel_rfl
  have f0 : IntKind.u64.wrap 100000000000000000000000000000000 = 9632337040368467968 := by rw [IntKind.wrap_u64]; omega
  go_enter Tryz.func247, Tryz.ntmps247
  go_wp2_with fail
  refine wp_loop_rounds 6 ?_
  iterate 6 (rw [rounds_succ]; go_wp2_with fail)
  go_wp2
  go_ret
  exact ⟨rfl, rfl⟩

theorem pow_10_18 (w : World) : Calls Tryz.prog 247 #[.int .u64 10, .int .i64 18] w fun e w' => e = .returned (.int .u64 1000000000000000000) ∧ w = w' := by
  have b18 : bits .and .i64 18 1 = 0 := by kernel_rfl
  have b9 : bits .and .i64 9 1 = 1 := by kernel_rfl
  have b4 : bits .and .i64 4 1 = 0 := by kernel_rfl
  have b2 : bits .and .i64 2 1 = 0 := by kernel_rfl
  have b1 : bits .and .i64 1 1 = 1 := by kernel_rfl
  have f0 : IntKind.u64.wrap 100000000000000000000000000000000 = 9632337040368467968 := by rw [IntKind.wrap_u64]; omega
  go_enter Tryz.func247, Tryz.ntmps247
  go_wp2_with fail
  refine wp_loop_rounds 6 ?_
  iterate 6 (rw [rounds_succ]; go_wp2_with fail)
  go_wp2
  go_ret
  exact ⟨rfl, rfl⟩

theorem pow_10_19 (w : World) : Calls Tryz.prog 247 #[.int .u64 10, .int .i64 19] w fun e w' => e = .returned (.int .u64 10000000000000000000) ∧ w = w' := by
  have b19 : bits .and .i64 19 1 = 1 := by kernel_rfl
  have b9 : bits .and .i64 9 1 = 1 := by kernel_rfl
  have b4 : bits .and .i64 4 1 = 0 := by kernel_rfl
  have b2 : bits .and .i64 2 1 = 0 := by kernel_rfl
  have b1 : bits .and .i64 1 1 = 1 := by kernel_rfl
  have f0 : IntKind.u64.wrap 100000000000000000000000000000000 = 9632337040368467968 := by rw [IntKind.wrap_u64]; omega
  go_enter Tryz.func247, Tryz.ntmps247
  go_wp2_with fail
  refine wp_loop_rounds 6 ?_
  iterate 6 (rw [rounds_succ]; go_wp2_with fail)
  go_wp2
  go_ret
  exact ⟨rfl, rfl⟩

/-- 10^n by squaring, in a word. -/
theorem pow_10 (n : Nat) (hn : n < 20) (w : World) : Calls Tryz.prog 247 #[.int .u64 10, .int .i64 n] w fun e w' => e = .returned (.int .u64 (10 ^ n : Nat)) ∧ w = w' := by
  rcases (by omega : n = 0 ∨ n = 1 ∨ n = 2 ∨ n = 3 ∨ n = 4 ∨ n = 5 ∨ n = 6 ∨ n = 7 ∨ n = 8 ∨ n = 9 ∨ n = 10 ∨ n = 11 ∨ n = 12 ∨ n = 13 ∨ n = 14 ∨ n = 15 ∨ n = 16 ∨ n = 17 ∨ n = 18 ∨ n = 19) with rfl | rfl | rfl | rfl | rfl | rfl | rfl | rfl | rfl | rfl | rfl | rfl | rfl | rfl | rfl | rfl | rfl | rfl | rfl | rfl
  · exact pow_10_0 w
  · exact pow_10_1 w
  · exact pow_10_2 w
  · exact pow_10_3 w
  · exact pow_10_4 w
  · exact pow_10_5 w
  · exact pow_10_6 w
  · exact pow_10_7 w
  · exact pow_10_8 w
  · exact pow_10_9 w
  · exact pow_10_10 w
  · exact pow_10_11 w
  · exact pow_10_12 w
  · exact pow_10_13 w
  · exact pow_10_14 w
  · exact pow_10_15 w
  · exact pow_10_16 w
  · exact pow_10_17 w
  · exact pow_10_18 w
  · exact pow_10_19 w

end Go.Proofs.YtnajekpckbfcdaaGreatDoor

namespace Go.Proofs.YtnajekpckbfcdaaGreatDoor
open Go.RowKit

/-- A reader at p: the text, the place, the place of the last rune. -/
abbrev Rd (w : World) (p : Nat) (s : ByteArray) (i : Nat) (q : Int) : Prop := Blk w p 217 #[.string s, .int .i64 i, .int .i64 q]
/-- io.EOF lies where it was laid. -/
def Eof (w : World) (a : Addr) : Prop := w.cell? ⟨3, 0, none⟩ = some (.iface 148 (.pointer (some a)))
theorem Eof.upd {S : List Nat} {w w' : World} {a : Addr} (h : Eof w a) (hu : Upd S w w') (hs : ∀ k ∈ S, 15 ≤ k) : Eof w' a :=
  (hu.cell (p := ⟨3, 0, none⟩) (lt_of_cell h) (fun hm => by have := hs _ hm; simp at this)).trans h
theorem Blk.c3 {w : World} {g : Nat} {t : TypeId} {a b c : Value} (h : Blk w g t #[a, b, c]) : w.cell? ⟨g, 2, none⟩ = some c := h.cell 2
theorem Blk.c3a {w : World} {g : Nat} {t : TypeId} {a b c : Value} (h : Blk w g t #[a, b, c]) : w.cell? ⟨g, 0, none⟩ = some a := h.cell 0
theorem Blk.c3b {w : World} {g : Nat} {t : TypeId} {a b c : Value} (h : Blk w g t #[a, b, c]) : w.cell? ⟨g, 1, none⟩ = some b := h.cell 1

theorem NewReader_any (w : World) (s : ByteArray) : Calls Tryz.prog 126 #[.string s] w fun e w' => ∃ p, e = .returned (.pointer (some ⟨p, 0, none⟩)) ∧ Rd w' p s 0 (-1) ∧ Upd [] w w' ∧ w.heap.size ≤ p := by
  go_enter Tryz.func126, Tryz.ntmps126
  go_wp2
  go_ret
  exact ⟨_, rfl, Blk.new _ _ _, (Upd.refl _ _).alloc _, Nat.le_refl _⟩

theorem ReadByte_end (w : World) (p : Nat) (s : ByteArray) (i : Nat) (q : Int) (a : Addr) (h : Rd w p s i q) (hi : s.size ≤ i) (hil : i < 1000000) (he : Eof w a) (hp : p ≠ 3) :
    Calls Tryz.prog 346 #[.pointer (some ⟨p, 0, none⟩)] w fun e w' => e = .returned (.tuple #[.int .u8 0, .iface 148 (.pointer (some a))]) ∧ Rd w' p s i (-1) ∧ Upd [p] w w' := by
  have hb := h.set_ 2 (.int .i64 (-1))
  replace hb : Rd (w.setCell ⟨p, 2, none⟩ (.int .i64 (-1))) p s i (-1) := hb
  have hu : Upd [p] w (w.setCell ⟨p, 2, none⟩ (.int .i64 (-1))) := (Upd.refl _ _).setCell (by simp) _
  have he2 : Eof (w.setCell ⟨p, 2, none⟩ (.int .i64 (-1))) a := (World.cell?_setCell_other _ _ _ _ (by intro h; injection h with h; exact hp h)).trans he
  have c2 := h.c3
  have f2 := h.frozen 2
  go_enter Tryz.func346, Tryz.ntmps346
  go_upto_region 2 with (fail)
  clear c2 f2 h he
  generalize w.setCell ⟨p, 2, none⟩ (.int .i64 (-1)) = w1 at hb hu he2 ⊢
  have c0 := hb.c3a
  have c1 := hb.c3b
  have t1 : (s.size : Int) ≤ (i : Int) := by omega
  unfold Eof at he2
  go_quiet (fail)
  go_wp2_with fail
  go_quiet (fail)
  go_wp2
  go_ret2
  exact ⟨rfl, (hb.drewN _).drewN _, (hu.drewN _).drewN _⟩

theorem ReadByte_some (w : World) (p : Nat) (s : ByteArray) (i : Nat) (q : Int) (h : Rd w p s i q) (hi : i < s.size) (hil : i < 1000000) :
    Calls Tryz.prog 346 #[.pointer (some ⟨p, 0, none⟩)] w fun e w' => e = .returned (.tuple #[.int .u8 ((s[i]'hi).toNat : Nat), .nilIface]) ∧ Rd w' p s (i + 1) (-1) ∧ Upd [p] w w' := by
  have hb := h.set_ 2 (.int .i64 (-1))
  replace hb : Rd (w.setCell ⟨p, 2, none⟩ (.int .i64 (-1))) p s i (-1) := hb
  have hu : Upd [p] w (w.setCell ⟨p, 2, none⟩ (.int .i64 (-1))) := (Upd.refl _ _).setCell (by simp) _
  have c2 := h.c3
  have f2 := h.frozen 2
  go_enter Tryz.func346, Tryz.ntmps346
  go_upto_region 2 with (fail)
  clear c2 f2 h
  generalize w.setCell ⟨p, 2, none⟩ (.int .i64 (-1)) = w1 at hb hu ⊢
  have c0 := hb.c3a
  have c1 := hb.c3b
  have t1 : ¬ (s.size : Int) ≤ (i : Int) := by omega
  have t2 : (i : Int) < (s.size : Int) := by omega
  have t3 : (0 : Int) ≤ (i : Int) := by omega
  go_quiet (fail)
  go_wp2_with fail
  go_quiet (fail)
  have f1 := hb.frozen 1
  have u1 : wrap64 ((i : Int) + 1) = ((i + 1 : Nat) : Int) := by unfold wrap64; omega
  have u2 : IntKind.i64.wrap ((i : Int) + 1) = ((i + 1 : Nat) : Int) := by rw [IntWalk.i64_in _ (by omega)]; omega
  go_wp2
  go_ret2
  refine ⟨rfl, ?_, ?_⟩
  · have hx : ∀ n m : Nat, Rd (((w1.drewN n).drewN m).setCell ⟨p, 1, none⟩ (.int .i64 ((i : Int) + 1))) p s (i + 1) (-1) := fun n m => ((hb.drewN n).drewN m).set_ 1 (.int .i64 ((i + 1 : Nat) : Int))
    exact hx 0 0
  · exact (hu.drewN _).setCell (p := ⟨p, 1, none⟩) (by simp) (.int .i64 ((i : Int) + 1))

theorem Unread_any (w : World) (p : Nat) (s : ByteArray) (i : Nat) (q : Int) (h : Rd w p s (i + 1) q) (hil : i < 1000000) :
    Calls Tryz.prog 347 #[.pointer (some ⟨p, 0, none⟩)] w fun e w' => e = .returned .nilIface ∧ Rd w' p s i (-1) ∧ Upd [p] w w' := by
  have c1 := h.c3b
  have c2 := h.c3
  have f2 := h.frozen 2
  have f1 := h.frozen 1
  have t1 : ¬ (((i + 1 : Nat) : Int) ≤ 0) := by omega
  have t1b : ¬ ((i : Int) + 1 ≤ 0) := by omega
  have u1 : wrap64 (((i + 1 : Nat) : Int) - 1) = (i : Int) := by unfold wrap64; omega
  have u2 : wrap64 ((i : Int) + 1 - 1) = (i : Int) := by unfold wrap64; omega
  have u3 : (i : Int) + 1 - 1 = (i : Int) := by omega
  have u4 : wrap64 (i : Int) = (i : Int) := by unfold wrap64; omega
  go_enter Tryz.func347, Tryz.ntmps347
  go_wp2
  go_ret
  exact ⟨rfl, (h.set_ 2 _).set_ 1 _, ((Upd.refl _ _).setCell (by simp) _).setCell (by simp) _⟩

theorem nil_read (p : Addr) (w : World) : (nilAhead 439 181 (.pointer (some p)) "ReadByte").run Tryz.prog w = .ok (some false) w := by kernel_rfl
theorem meth_read (p : Addr) (w : World) : (method 439 181 (.pointer (some p)) "ReadByte").run Tryz.prog w = .ok (346, .pointer (some p)) w := by kernel_rfl
theorem nil_unread (p : Addr) (w : World) : (nilAhead 439 181 (.pointer (some p)) "UnreadByte").run Tryz.prog w = .ok (some false) w := by kernel_rfl
theorem meth_unread (p : Addr) (w : World) : (method 439 181 (.pointer (some p)) "UnreadByte").run Tryz.prog w = .ok (347, .pointer (some p)) w := by kernel_rfl

set_option maxRecDepth 20000 in
/-- scanSign where the text begins with a digit. -/
theorem scanSign_digit (w : World) (p : Nat) (s : ByteArray) (q : Int) (h : Rd w p s 0 q) (hs : 0 < s.size) (h1 : 48 ≤ (s[0]'hs).toNat) (h2 : (s[0]'hs).toNat ≤ 57) :
    Calls Tryz.prog 210 #[.iface 181 (.pointer (some ⟨p, 0, none⟩))] w fun e w' => e = .returned (.tuple #[.bool false, .nilIface]) ∧ Rd w' p s 0 (-1) ∧ Upd [p] w w' := by
  have HR := hide (ReadByte_some w p s 0 q h hs (by omega))
  obtain ⟨c, hc⟩ : ∃ c, (s[0]'hs).toNat = c := ⟨_, rfl⟩
  rw [hc] at h1 h2 HR
  clear hc
  have t1 : ((c : Int) == 45) = false := beq_eq_false_iff_ne.2 (by omega)
  have t2 : ((c : Int) == 43) = false := beq_eq_false_iff_ne.2 (by omega)
  have n1 := nil_read
  have n2 := meth_read
  have n3 := nil_unread
  have n4 := meth_unread
  go_enter Tryz.func210, Tryz.ntmps210
  go_wp2_with fail
  refine HR.out.mono ?_
  rintro e w2 ⟨rfl, hb2, hu2⟩
  have HU := hide (Unread_any w2 p s 0 (-1) hb2 (by omega))
  clear HR h
  go_wp2_with fail
  refine HU.out.mono ?_
  rintro e w3 ⟨rfl, hb3, hu3⟩
  clear HU
  go_wp2
  go_ret2
  exact ⟨rfl, hb3, hu2.trans hu3 (fun k hk _ => hk)⟩

end Go.Proofs.YtnajekpckbfcdaaGreatDoor
