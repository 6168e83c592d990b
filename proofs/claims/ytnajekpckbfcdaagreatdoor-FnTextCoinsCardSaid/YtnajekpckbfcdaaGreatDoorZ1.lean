/-
  FnTextCoins: what the listed package-level variables give; the argument, a slice of coins, opened.
-/
import Derived.Test.YtnajekpckbfcdaaGreatDoorX0
import Derived.Test.YtnajekpckbfcdaaGreatDoorQ1
set_option linter.unusedVariables false
set_option linter.unusedSimpArgs false
namespace Go.Proofs.YtnajekpckbfcdaaGreatDoor
open Go.ChangeShapes Go.WideShapes Go.ChangeAt Go.WideMaps Go.WideElems Go.Deep Go.RowKit

theorem gLeafK : Tryz.prog.globalNamed "pub-doubloon/pub/bigall.leafSize" = some 12 := by kernel_rfl
theorem tLeafK : (Tryz.prog.globals[12]?).map (·.type) = some 3 := by kernel_rfl
abbrev laidK : List (String × DataW Unit) := Rows.fnTextCoinsRow.laid
theorem glK_of_laid {W : World} (h : laidMetH Tryz.prog laidK W) : Gl W ∧ Leaf W := by
  rw [MakeChecks.laidMetH_plain _ _ _ (by rfl)] at h
  have h3 := h.filter (fun x => x.1 == "io.EOF")
  have h1 := h.filter (fun x => x.1 == "pub-doubloon/pub/cosmosmath.ErrLegacyInvalidDecimalLength")
  have h4 := h.filter (fun x => x.1 == "pub-doubloon/pub/bigall.basicSqrThreshold")
  have h5 := h.filter (fun x => x.1 == "pub-doubloon/pub/bigall.karatsubaSqrThreshold")
  have h14 := h.filter (fun x => x.1 == "math/bits.deBruijn64tab")
  have h12 := h.filter (fun x => x.1 == "pub-doubloon/pub/bigall.leafSize")
  have h3' : laidMet Tryz.prog [("io.EOF", Rows.laid_io_EOF)] W := h3
  have h1' : laidMet Tryz.prog [("pub-doubloon/pub/cosmosmath.ErrLegacyInvalidDecimalLength", Rows.laid_pub_doubloon_pub_cosmosmath_ErrLegacyInvalidDecimalLength)] W := h1
  have h4' : laidMet Tryz.prog [("pub-doubloon/pub/bigall.basicSqrThreshold", .lit (.int .i64 12))] W := h4
  have h5' : laidMet Tryz.prog [("pub-doubloon/pub/bigall.karatsubaSqrThreshold", .lit (.int .i64 80))] W := h5
  have h14' : laidMet Tryz.prog [("math/bits.deBruijn64tab", Rows.laid_math_bits_deBruijn64tab)] W := h14
  have h12' : laidMet Tryz.prog [("pub-doubloon/pub/bigall.leafSize", .lit (.int .i64 8))] W := h12
  exact ⟨gl_of_five h3' h1' h4' h5' h14', laid_int h12' gLeafK tLeafK Tryz.underlying3⟩

theorem jcells_at : ∀ (L : List CC) (J : Nat) (u : Value), (jcells L)[J]? = some u → ∃ s, L[J / 2]? = some s ∧ [Value.string (bs s.d), .int .i64 s.a][J % 2]? = some u
  | [], J, u, h => by simp [jcells] at h
  | c :: r, 0, u, h => ⟨c, rfl, h⟩
  | c :: r, 1, u, h => ⟨c, rfl, h⟩
  | c :: r, J + 2, u, h => by
    obtain ⟨s, h1, h2⟩ := jcells_at r J u h
    rw [show (J + 2) / 2 = J / 2 + 1 by omega, show (J + 2) % 2 = J % 2 by omega]
    exact ⟨s, h1, h2⟩
theorem len2 {α : Type} : ∀ l : List α, l.length = 2 → ∃ a b, l = [a, b]
  | [a, b], _ => ⟨a, b, rfl⟩
  | [], h => by simp at h
  | [_], h => by simp at h
  | _ :: _ :: _ :: _, h => by simp at h
theorem cells52 : Tryz.prog.cellsOf 52 = 2 := by kernel_rfl
theorem cells2K : Tryz.prog.cellsOf 2 = 1 := by kernel_rfl
/-- A slice of coins: what it reads as. -/
theorem open_coinsK {H : Type} {enc : TypeId × Value → H} {W : World} {base : Nat} {spare : Nat → Bool} {held : Bool} {fuel : Nat} {A : Option Addr} {len cap : Nat} {x : DataW H × List MemPlace}
    (h : DataW.trod enc Tryz.prog W base spare held fuel 31 [.slice A len cap] = some x) : ∃ xs : List CC, xs.length = len ∧ RdS W A len (jcells xs) ∧ len ≤ cap ∧ ∀ c ∈ xs, c.a < 9223372036854775808 := by
  have hu := Tryz.underlying52
  obtain ⟨fs, hfs⟩ : ∃ fs, Tryz.prog.underlying 52 = some (.struct fs) := ⟨_, hu⟩
  have hfe := Option.some.inj (hfs.symm.trans hu)
  injection hfe with hfe
  rcases open_slice Tryz.underlying31 h with ⟨hcs, _⟩ | ⟨a, l, c, m, n, D, Pl, hcs, _, hlc, hmx, hm, _, hi⟩
  · simp at hcs
    obtain ⟨rfl, rfl, rfl⟩ := hcs
    exact ⟨[], rfl, fun h => by omega, Nat.le_refl _, by simp⟩
  · simp at hcs
    obtain ⟨rfl, rfl, rfl⟩ := hcs
    have hlm : len ≤ m := by rw [hm]; split <;> omega
    have hx : ∀ i, i < len → ∃ s : CC, s.a < 9223372036854775808 ∧ ∀ (j : Nat) (u : Value), [Value.string (bs s.d), .int .i64 s.a][j]? = some u → W.cell? (a.add (i * 2 + j)) = some u := by
      intro i hil
      obtain ⟨cs', hc, ht⟩ := hi i (by omega)
      rw [cells52] at hc
      obtain ⟨_, hcl, hat⟩ := World.cells?_some hc
      obtain ⟨ys, n', _, _, _, hyl, hf⟩ := DataW.trod_struct hfs ht
      have hyl2 : ys.length = 2 := by rw [hyl, hfe]; rfl
      obtain ⟨v0, v1, rfl⟩ := len2 cs' hcl
      have f0 : DataW.trod enc Tryz.prog W base spare held n' 9 (([v0, v1].drop 0).take (Tryz.prog.cellsOf 9)) = ys[0]? := hf 0 _ (by rw [hfe]; rfl)
      have f1 : DataW.trod enc Tryz.prog W base spare held n' 2 (([v0, v1].drop 1).take (Tryz.prog.cellsOf 2)) = ys[1]? := hf 1 _ (by rw [hfe]; rfl)
      rw [cells9, List.getElem?_eq_getElem (by omega)] at f0
      rw [cells2K, List.getElem?_eq_getElem (by omega)] at f1
      obtain ⟨d, hd, _⟩ := DataW.trod_string Tryz.underlying9 f0
      obtain ⟨za, hza, _, hwf⟩ := DataW.trod_int Tryz.underlying2 f1
      have e0 : v0 = .string d := by simpa using hd
      have e1 : v1 = .int .i64 za := by simpa using hza
      have hlt : za < 9223372036854775808 := by
        simp [Lit.wf, IntKind.min, IntKind.max, IntKind.signed, IntKind.bits] at hwf
        omega
      refine ⟨⟨d.data.toList, za⟩, hlt, ?_⟩
      intro j u hju
      rw [bs_data, ← e0, ← e1] at hju
      have hj2 : j < 2 := by
        have := (List.getElem?_eq_some_iff.1 hju).1
        simpa using this
      have := hat j hj2
      rw [Go.Deep.add_add] at this
      rw [this]
      exact hju
    have hg : ∀ n, n ≤ len → ∃ xs : List CC, xs.length = n ∧ (∀ c ∈ xs, c.a < 9223372036854775808) ∧ ∀ (i : Nat) (s : CC), xs[i]? = some s → ∀ (j : Nat) (u : Value), [Value.string (bs s.d), .int .i64 s.a][j]? = some u → W.cell? (a.add (i * 2 + j)) = some u := by
      intro n
      induction n with
      | zero => intro _; exact ⟨[], rfl, by simp, by simp⟩
      | succ n ih =>
        intro hn
        obtain ⟨xs, hxl, hxa, hxs⟩ := ih (by omega)
        obtain ⟨s, hsa, hs⟩ := hx n (by omega)
        refine ⟨xs ++ [s], by simp [hxl], ?_, ?_⟩
        · intro c hc
          rcases List.mem_append.1 hc with hc | hc
          · exact hxa c hc
          · rw [List.mem_singleton.1 hc]; exact hsa
        intro i s' hi'
        rcases Nat.lt_trichotomy i n with hlt | heq | hgt
        · rw [List.getElem?_append_left (by omega)] at hi'
          exact hxs i s' hi'
        · subst heq
          rw [List.getElem?_append_right (by omega), hxl, Nat.sub_self] at hi'
          simp at hi'
          subst hi'
          exact hs
        · rw [List.getElem?_eq_none (by simp; omega)] at hi'
          cases hi'
    obtain ⟨xs, hxl, hxa, hxs⟩ := hg len (Nat.le_refl _)
    refine ⟨xs, hxl, fun _ => ⟨a, rfl, ?_⟩, hlc, hxa⟩
    intro J u hJ
    obtain ⟨s, h1, h2⟩ := jcells_at xs J u hJ
    have := hxs _ _ h1 _ _ h2
    rwa [show J / 2 * 2 + J % 2 = J by omega] at this

end Go.Proofs.YtnajekpckbfcdaaGreatDoor
