/-
  FnTextDecs: what the listed package-level variables give; the argument, a slice of decimal coins, opened.
-/
import Derived.Test.YtnajekpckbfcdaaGreatDoorX0
import Derived.Test.YtnajekpckbfcdaaGreatDoorO5
set_option linter.unusedVariables false
set_option linter.unusedSimpArgs false
namespace Go.Proofs.YtnajekpckbfcdaaGreatDoor
open Go.ChangeShapes Go.WideShapes Go.ChangeAt Go.WideMaps Go.WideElems Go.Deep Go.RowKit

theorem gLeaf : Tryz.prog.globalNamed "pub-doubloon/pub/bigall.leafSize" = some 12 := by kernel_rfl
theorem tLeaf : (Tryz.prog.globals[12]?).map (·.type) = some 3 := by kernel_rfl
abbrev laidT : List (String × DataW Unit) := Rows.fnTextDecsRow.laid
theorem glT_of_laid {W : World} (h : laidMetH Tryz.prog laidT W) : Gl W ∧ Leaf W := by
  rw [MakeChecks.laidMetH_plain _ _ _ (by rfl)] at h
  have h3 := h.filter (fun x => x.1 == "io.EOF")
  have h1 := h.filter (fun x => x.1 == "pub-doubloon/pub/cosmosmath.ErrLegacyInvalidDecimalLength")
  have h4 := h.filter (fun x => x.1 == "pub-doubloon/pub/bigall.basicSqrThreshold")
  have h5 := h.filter (fun x => x.1 == "pub-doubloon/pub/bigall.karatsubaSqrThreshold")
  have h14 := h.filter (fun x => x.1 == "math/bits.deBruijn64tab")
  have h12 := h.filter (fun x => x.1 == "pub-doubloon/pub/bigall.leafSize")
  have h3' : laidMet Tryz.prog [("io.EOF", Rows.laid_io_EOF)] W := h3
  have h1' : laidMet Tryz.prog [("pub-doubloon/pub/cosmosmath.ErrLegacyInvalidDecimalLength", Rows.laid_pub_doubloon_pub_cosmosmath_ErrLegacyInvalidDecimalLength)] W := h1
  have h4' : laidMet Tryz.prog [("pub-doubloon/pub/bigall.basicSqrThreshold", .lit (.int .i64 12))] W := h4
  have h5' : laidMet Tryz.prog [("pub-doubloon/pub/bigall.karatsubaSqrThreshold", .lit (.int .i64 80))] W := h5
  have h14' : laidMet Tryz.prog [("math/bits.deBruijn64tab", Rows.laid_math_bits_deBruijn64tab)] W := h14
  have h12' : laidMet Tryz.prog [("pub-doubloon/pub/bigall.leafSize", .lit (.int .i64 8))] W := h12
  exact ⟨gl_of_five h3' h1' h4' h5' h14', laid_int h12' gLeaf tLeaf Tryz.underlying3⟩

theorem icells_at : ∀ (L : List XC) (J : Nat) (u : Value), (icells L)[J]? = some u → ∃ s, L[J / 3]? = some s ∧ [Value.string (bs s.d), .int .i64 s.a, .int .i64 s.b][J % 3]? = some u
  | [], J, u, h => by simp [icells] at h
  | c :: r, 0, u, h => ⟨c, rfl, h⟩
  | c :: r, 1, u, h => ⟨c, rfl, h⟩
  | c :: r, 2, u, h => ⟨c, rfl, h⟩
  | c :: r, J + 3, u, h => by
    obtain ⟨s, h1, h2⟩ := icells_at r J u h
    rw [show (J + 3) / 3 = J / 3 + 1 by omega, show (J + 3) % 3 = J % 3 by omega]
    exact ⟨s, h1, h2⟩
theorem len3 {α : Type} : ∀ l : List α, l.length = 3 → ∃ a b c, l = [a, b, c]
  | [a, b, c], _ => ⟨a, b, c, rfl⟩
  | [], h => by simp at h
  | [_], h => by simp at h
  | [_, _], h => by simp at h
  | _ :: _ :: _ :: _ :: _, h => by simp at h
theorem cells44 : Tryz.prog.cellsOf 44 = 3 := by kernel_rfl
theorem cells42 : Tryz.prog.cellsOf 42 = 2 := by kernel_rfl
theorem cells2 : Tryz.prog.cellsOf 2 = 1 := by kernel_rfl
/-- A slice of decimal coins: what it reads as. -/
theorem open_coins {H : Type} {enc : TypeId × Value → H} {W : World} {base : Nat} {spare : Nat → Bool} {held : Bool} {fuel : Nat} {A : Option Addr} {len cap : Nat} {x : DataW H × List MemPlace}
    (h : DataW.trod enc Tryz.prog W base spare held fuel 28 [.slice A len cap] = some x) : ∃ xs : List XC, xs.length = len ∧ RdS W A len (icells xs) ∧ len ≤ cap := by
  have hu := Tryz.underlying44
  obtain ⟨fs, hfs⟩ : ∃ fs, Tryz.prog.underlying 44 = some (.struct fs) := ⟨_, hu⟩
  have hfe := Option.some.inj (hfs.symm.trans hu)
  injection hfe with hfe
  have hu2 := Tryz.underlying42
  obtain ⟨gs, hgs⟩ : ∃ gs, Tryz.prog.underlying 42 = some (.struct gs) := ⟨_, hu2⟩
  have hge := Option.some.inj (hgs.symm.trans hu2)
  injection hge with hge
  rcases open_slice Tryz.underlying28 h with ⟨hcs, _⟩ | ⟨a, l, c, m, n, D, Pl, hcs, _, hlc, hmx, hm, _, hi⟩
  · simp at hcs
    obtain ⟨rfl, rfl, rfl⟩ := hcs
    exact ⟨[], rfl, fun h => by omega, Nat.le_refl _⟩
  · simp at hcs
    obtain ⟨rfl, rfl, rfl⟩ := hcs
    have hlm : len ≤ m := by rw [hm]; split <;> omega
    have hx : ∀ i, i < len → ∃ s : XC, ∀ (j : Nat) (u : Value), [Value.string (bs s.d), .int .i64 s.a, .int .i64 s.b][j]? = some u → W.cell? (a.add (i * 3 + j)) = some u := by
      intro i hil
      obtain ⟨cs', hc, ht⟩ := hi i (by omega)
      rw [cells44] at hc
      obtain ⟨_, hcl, hat⟩ := World.cells?_some hc
      obtain ⟨ys, n', _, _, _, hyl, hf⟩ := DataW.trod_struct hfs ht
      have hyl2 : ys.length = 2 := by rw [hyl, hfe]; rfl
      obtain ⟨v0, v1, v2, rfl⟩ := len3 cs' hcl
      have f0 : DataW.trod enc Tryz.prog W base spare held n' 9 (([v0, v1, v2].drop 0).take (Tryz.prog.cellsOf 9)) = ys[0]? := hf 0 _ (by rw [hfe]; rfl)
      have f1 : DataW.trod enc Tryz.prog W base spare held n' 42 (([v0, v1, v2].drop 1).take (Tryz.prog.cellsOf 42)) = ys[1]? := hf 1 _ (by rw [hfe]; rfl)
      rw [cells9, List.getElem?_eq_getElem (by omega)] at f0
      rw [cells42, List.getElem?_eq_getElem (by omega)] at f1
      obtain ⟨d, hd, _⟩ := DataW.trod_string Tryz.underlying9 f0
      obtain ⟨zs, n2, _, _, _, hzl, hf2⟩ := DataW.trod_struct hgs f1
      have hzl2 : zs.length = 2 := by rw [hzl, hge]; rfl
      have g0 : DataW.trod enc Tryz.prog W base spare held n2 2 (([v1, v2].drop 0).take (Tryz.prog.cellsOf 2)) = zs[0]? := hf2 0 _ (by rw [hge]; rfl)
      have g1 : DataW.trod enc Tryz.prog W base spare held n2 2 (([v1, v2].drop 1).take (Tryz.prog.cellsOf 2)) = zs[1]? := hf2 1 _ (by rw [hge]; rfl)
      rw [cells2, List.getElem?_eq_getElem (by omega)] at g0
      rw [cells2, List.getElem?_eq_getElem (by omega)] at g1
      obtain ⟨za, hza, _⟩ := DataW.trod_int Tryz.underlying2 g0
      obtain ⟨zb, hzb, _⟩ := DataW.trod_int Tryz.underlying2 g1
      have e0 : v0 = .string d := by simpa using hd
      have e1 : v1 = .int .i64 za := by simpa using hza
      have e2 : v2 = .int .i64 zb := by simpa using hzb
      refine ⟨⟨d.data.toList, za, zb⟩, ?_⟩
      intro j u hju
      rw [bs_data, ← e0, ← e1, ← e2] at hju
      have hj3 : j < 3 := by
        have := (List.getElem?_eq_some_iff.1 hju).1
        simpa using this
      have := hat j hj3
      rw [Go.Deep.add_add] at this
      rw [this]
      exact hju
    have hg : ∀ n, n ≤ len → ∃ xs : List XC, xs.length = n ∧ ∀ (i : Nat) (s : XC), xs[i]? = some s → ∀ (j : Nat) (u : Value), [Value.string (bs s.d), .int .i64 s.a, .int .i64 s.b][j]? = some u → W.cell? (a.add (i * 3 + j)) = some u := by
      intro n
      induction n with
      | zero => intro _; exact ⟨[], rfl, by simp⟩
      | succ n ih =>
        intro hn
        obtain ⟨xs, hxl, hxs⟩ := ih (by omega)
        obtain ⟨s, hs⟩ := hx n (by omega)
        refine ⟨xs ++ [s], by simp [hxl], ?_⟩
        intro i s' hi'
        rcases Nat.lt_trichotomy i n with hlt | heq | hgt
        · rw [List.getElem?_append_left (by omega)] at hi'
          exact hxs i s' hi'
        · subst heq
          rw [List.getElem?_append_right (by omega), hxl, Nat.sub_self] at hi'
          simp at hi'
          subst hi'
          exact hs
        · rw [List.getElem?_eq_none (by simp; omega)] at hi'
          cases hi'
    obtain ⟨xs, hxl, hxs⟩ := hg len (Nat.le_refl _)
    refine ⟨xs, hxl, fun _ => ⟨a, rfl, ?_⟩, hlc⟩
    intro J u hJ
    obtain ⟨s, h1, h2⟩ := icells_at xs J u hJ
    have := hxs _ _ h1 _ _ h2
    rwa [show J / 3 * 3 + J % 3 = J by omega] at this

end Go.Proofs.YtnajekpckbfcdaaGreatDoor
