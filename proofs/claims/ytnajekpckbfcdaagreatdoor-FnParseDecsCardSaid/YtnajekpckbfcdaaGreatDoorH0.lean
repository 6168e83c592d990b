/-
  What the listed package-level variables give the walks; an argument that is a slice of parts, opened.
-/
import Derived.Test.YtnajekpckbfcdaaGreatDoorRows
import Derived.Test.YtnajekpckbfcdaaGreatDoorM16
import Derived.ProofKit
import Derived.LaidMore
import Derived.LaidSub
import Derived.OpenShut
import Derived.Stop.Joined
import Derived.Stop.LaidErr
import Derived.MakeChecks
import Derived.Deep.Slices
import Derived.Deep.Fields
import Derived.ChangeSame
import Derived.ChangeOld
import Derived.SizedLaws
set_option linter.unusedVariables false
set_option linter.unusedSimpArgs false
namespace Go.Proofs.YtnajekpckbfcdaaGreatDoor
open Go.ChangeShapes Go.WideShapes Go.ChangeAt Go.WideMaps Go.WideElems Go.Deep Go.RowKit
open Go.Proofs.YtnajekpckbfcdaaGreatDoorW.PrintWords Go.Proofs.YtnajekpckbfcdaaGreatDoor.PFnParseDecs

theorem own : ownKnob Tryz.prog.godebug = none := by kernel_rfl
theorem gEof : Tryz.prog.globalNamed "io.EOF" = some 3 := by kernel_rfl
theorem gLen : Tryz.prog.globalNamed "pub-doubloon/pub/cosmosmath.ErrLegacyInvalidDecimalLength" = some 1 := by kernel_rfl
theorem gBasic : Tryz.prog.globalNamed "pub-doubloon/pub/bigall.basicSqrThreshold" = some 4 := by kernel_rfl
theorem gKara : Tryz.prog.globalNamed "pub-doubloon/pub/bigall.karatsubaSqrThreshold" = some 5 := by kernel_rfl
theorem gTab : Tryz.prog.globalNamed "math/bits.deBruijn64tab" = some 14 := by kernel_rfl
theorem tEof : (Tryz.prog.globals[3]?).map (·.type) = some 61 := by kernel_rfl
theorem tLen : (Tryz.prog.globals[1]?).map (·.type) = some 61 := by kernel_rfl
theorem tBasic : (Tryz.prog.globals[4]?).map (·.type) = some 3 := by kernel_rfl
theorem tKara : (Tryz.prog.globals[5]?).map (·.type) = some 3 := by kernel_rfl
theorem cells150 : Tryz.prog.cellsOf 150 = 1 := by kernel_rfl
theorem cells9 : Tryz.prog.cellsOf 9 = 1 := by kernel_rfl
theorem star : "*" ++ "errors.errorString" = "*errors.errorString" := by decide
theorem row148 (u : TypeId) (h : Tryz.prog.typeName? 3 u = some "*errors.errorString") : u = 148 :=
  typeName_ptr_named (nm := "errors.errorString") (by rw [star]; kernel_rfl) (by kernel_rfl) (by decide) u (by rw [star]; exact h)

theorem laid_int {P : Program} {n : String} {z : Int} {r : List (String × DataW Unit)} {W : World} {g : Nat} {t : TypeId} (h : laidMet P ((n, .lit (.int .i64 z)) :: r) W)
    (hg : P.globalNamed n = some g) (ht : (P.globals[g]?).map (·.type) = some t) (hu : P.underlying t = some (.int .i64)) : W.cell? ⟨g, 0, none⟩ = some (.int .i64 z) := by
  obtain ⟨ps, ⟨g0, t0, cs0, f0, p0, q0, hg0, ht0, hv0, hd0, _, e0⟩, _, hrows⟩ := h
  obtain rfl := Option.some.inj (hg.symm.trans hg0)
  obtain rfl := Option.some.inj (ht.symm.trans ht0)
  obtain ⟨k, hk, hx, _⟩ := DataW.trod_int hu hd0
  simp only [Prod.mk.injEq, DataW.lit.injEq, Lit.int.injEq, true_and] at hx
  have := World.var?_cell hg0 hv0 0
  obtain ⟨l⟩ := cs0
  simp only at hk
  subst hk
  rw [← hx.1] at this
  simpa using this

abbrev laidL : List (String × DataW Unit) := Rows.fnParseEmptyRow.laid
theorem gl_of_laid {W : World} (h : laidMetH Tryz.prog laidL W) : Gl W := by
  rw [MakeChecks.laidMetH_plain _ _ _ (by rfl)] at h
  have h3 := h.filter (fun x => x.1 == "io.EOF")
  have h1 := h.filter (fun x => x.1 == "pub-doubloon/pub/cosmosmath.ErrLegacyInvalidDecimalLength")
  have h4 := h.filter (fun x => x.1 == "pub-doubloon/pub/bigall.basicSqrThreshold")
  have h5 := h.filter (fun x => x.1 == "pub-doubloon/pub/bigall.karatsubaSqrThreshold")
  have h14 := h.filter (fun x => x.1 == "math/bits.deBruijn64tab")
  have h3' : laidMet Tryz.prog [("io.EOF", Rows.laid_io_EOF)] W := h3
  have h1' : laidMet Tryz.prog [("pub-doubloon/pub/cosmosmath.ErrLegacyInvalidDecimalLength", Rows.laid_pub_doubloon_pub_cosmosmath_ErrLegacyInvalidDecimalLength)] W := h1
  have h4' : laidMet Tryz.prog [("pub-doubloon/pub/bigall.basicSqrThreshold", .lit (.int .i64 12))] W := h4
  have h5' : laidMet Tryz.prog [("pub-doubloon/pub/bigall.karatsubaSqrThreshold", .lit (.int .i64 80))] W := h5
  have h14' : laidMet Tryz.prog [("math/bits.deBruijn64tab", Rows.laid_math_bits_deBruijn64tab)] W := h14
  clear h3 h1 h4 h5 h14 h
  obtain ⟨a3, s3, hv3, _⟩ := laid_sentinel h3' gEof tEof Tryz.underlying61 row148 Tryz.underlying148 Tryz.underlying150 rfl rfl Tryz.underlying9 cells150 cells9
  obtain ⟨a1, s1, hv1, _⟩ := laid_sentinel h1' gLen tLen Tryz.underlying61 row148 Tryz.underlying148 Tryz.underlying150 rfl rfl Tryz.underlying9 cells150 cells9
  have c4 := laid_int h4' gBasic tBasic Tryz.underlying3
  have c5 := laid_int h5' gKara tKara Tryz.underlying3
  have hsz : 15 ≤ W.heap.size := by
    obtain ⟨ps, ⟨g0, t0, cs0, f0, p0, q0, hg0, ht0, hv0, _⟩, _⟩ := h14'
    obtain rfl := Option.some.inj (gTab.symm.trans hg0)
    unfold World.var? at hv0
    rw [hg0] at hv0
    rcases Nat.lt_or_ge 14 W.heap.size with hlt | hge
    · omega
    · simp [Array.getElem?_eq_none hge] at hv0
  have c3 : W.cell? ⟨3, 0, none⟩ = some (.iface 148 (.pointer (some a3))) := by simpa using World.var?_cell gEof hv3 0
  have c1 : W.cell? ⟨1, 0, none⟩ = some (.iface 148 (.pointer (some a1))) := by simpa using World.var?_cell gLen hv1 0
  exact ⟨⟨hsz, c4, c5⟩, ⟨a3, c3⟩, ⟨a1, c1⟩, hsz⟩

section
variable {H : Type} {enc : TypeId × Value → H} {P : Program} {w : World} {base : Nat} {spare : Nat → Bool} {held : Bool}
theorem open_slice_fields {t e : TypeId} {fs : Array Field} {fuel : Nat} {cs : List Value} {x : DataW H × List MemPlace} (ht : P.underlying t = some (.slice e)) (he : P.underlying e = some (.struct fs))
    (hone : oneCellFields P fs = true) (hC : P.cellsOf e = fs.size) (h : DataW.trod enc P w base spare held fuel t cs = some x) :
    (cs = [.slice none 0 0] ∧ x = (.nil, [])) ∨
    ∃ (a : Addr) (len cap m : Nat) (D : Nat → DataW H) (Pl : Nat → List MemPlace), cs = [.slice (some a) len cap] ∧ base ≤ a.block ∧ len ≤ cap ∧ cap ≤ maxLen ∧ m = (if spare a.block then cap else len) ∧
      x = (.slice ((List.range len).map D) ((List.range (m - len)).map fun j => D (len + j)), MemPlace.row a (m * fs.size) ++ (List.range m).flatMap Pl) ∧
      ∀ i, i < m → ∃ (ys : List (DataW H × List MemPlace)) (n : Nat), D i = .agg (ys.map (·.1)) ∧ Pl i = ys.flatMap (·.2) ∧ ys.length = fs.size ∧
        ∀ (j : Nat) (f : Field), fs[j]? = some f → ∃ (v : Value) (y : DataW H × List MemPlace), w.cell? (a.add (i * fs.size + j)) = some v ∧ ys[j]? = some y ∧ DataW.trod enc P w base spare held n f.type [v] = some y := by
  rcases open_slice ht h with h0 | ⟨a, len, cap, m, n, D, Pl, hcs, hb, hl, hm, hmm, hx, hi⟩
  · exact .inl h0
  · refine .inr ⟨a, len, cap, m, D, Pl, hcs, hb, hl, hm, hmm, by rw [hC] at hx; exact hx, fun i him => ?_⟩
    obtain ⟨cs', hc, ht'⟩ := hi i him
    rw [hC] at hc
    obtain ⟨ys, n', hn', hy, hlen, hyl, hf⟩ := DataW.trod_struct he ht'
    obtain ⟨_, hcl, hat⟩ := World.cells?_some hc
    simp only [Prod.mk.injEq] at hy
    refine ⟨ys, n', hy.1, hy.2, hyl, fun j f hj => ?_⟩
    obtain ⟨ho, hk⟩ := hone_of hone j f hj
    have hjl : j < fs.size := (Array.getElem?_eq_some_iff.1 hj).1
    have hcell := hat j hjl
    have hv : cs'[j]? = some (cs'[j]'(by omega)) := List.getElem?_eq_getElem (by omega)
    have h1 := hf j f hj
    rw [ho, hk] at h1
    have hone' : (cs'.drop j).take 1 = [cs'[j]'(by omega)] := by
      rw [List.drop_eq_getElem_cons (by omega)]
      rfl
    rw [hone'] at h1
    have hys : ys[j]? = some (ys[j]'(by omega)) := List.getElem?_eq_getElem (by omega)
    refine ⟨_, _, ?_, hys, h1.trans hys⟩
    rw [← Go.Deep.add_add, hcell, hv]
end

theorem cells26 : Tryz.prog.cellsOf 26 = 7 := by kernel_rfl
/-- A slice of parts: what it reads as. -/
theorem open_parts {H : Type} {enc : TypeId × Value → H} {W : World} {base : Nat} {spare : Nat → Bool} {held : Bool} {fuel : Nat} {A : Option Addr} {len cap : Nat} {x : DataW H × List MemPlace}
    (h : DataW.trod enc Tryz.prog W base spare held fuel 22 [.slice A len cap] = some x) : ∃ xs : List S26, xs.length = len ∧ Kd.C k26 W A len xs ∧ len ≤ cap := by
  have hu := Tryz.underlying26
  obtain ⟨fs, hfs⟩ : ∃ fs, Tryz.prog.underlying 26 = some (.struct fs) := ⟨_, hu⟩
  have hfe := Option.some.inj (hfs.symm.trans hu)
  injection hfe with hfe
  have hsz : fs.size = 7 := by rw [hfe]; rfl
  have hone : oneCellFields Tryz.prog fs = true := by rw [hfe]; kernel_rfl
  rcases open_slice_fields Tryz.underlying22 hfs hone (cells26.trans hsz.symm) h with ⟨hcs, _⟩ | ⟨a, l, c, m, D, Pl, hcs, _, hlc, hmx, hm, _, hi⟩
  · simp at hcs
    obtain ⟨rfl, rfl, rfl⟩ := hcs
    exact ⟨[], rfl, Kd.C_nil _ _, Nat.le_refl _⟩
  · simp at hcs
    obtain ⟨rfl, rfl, rfl⟩ := hcs
    have hlm : len ≤ m := by rw [hm]; split <;> omega
    have hx : ∀ i, i < len → ∃ s : S26, ∀ (j : Nat) (u : Value), [Value.string s.f0, .string s.f1, .bool s.f2, .string s.f3, .string s.f4, .string s.f5, .string s.f6][j]? = some u → W.cell? (a.add (i * 7 + j)) = some u := by
      intro i hil
      obtain ⟨ys, n, _, _, _, hf⟩ := hi i (by omega)
      have hstr : ∀ (j : Nat) (f : Field), fs[j]? = some f → f.type = 9 → ∃ s : ByteArray, W.cell? (a.add (i * 7 + j)) = some (.string s) := by
        intro j f hj hty
        obtain ⟨v, y, hc, _, ht⟩ := hf j f hj
        rw [hty] at ht
        obtain ⟨s, hs, _⟩ := DataW.trod_string Tryz.underlying9 ht
        simp at hs
        rw [hsz] at hc
        exact ⟨s, by rw [hc, hs]⟩
      have hbool : ∀ (j : Nat) (f : Field), fs[j]? = some f → f.type = 4 → ∃ s : Bool, W.cell? (a.add (i * 7 + j)) = some (.bool s) := by
        intro j f hj hty
        obtain ⟨v, y, hc, _, ht⟩ := hf j f hj
        rw [hty] at ht
        obtain ⟨s, hs, _⟩ := DataW.trod_bool Tryz.underlying4 ht
        simp at hs
        rw [hsz] at hc
        exact ⟨s, by rw [hc, hs]⟩
      obtain ⟨s0, h0⟩ := hstr 0 _ (by rw [hfe]; rfl) rfl
      obtain ⟨s1, h1⟩ := hstr 1 _ (by rw [hfe]; rfl) rfl
      obtain ⟨s2, h2⟩ := hbool 2 _ (by rw [hfe]; rfl) rfl
      obtain ⟨s3, h3⟩ := hstr 3 _ (by rw [hfe]; rfl) rfl
      obtain ⟨s4, h4⟩ := hstr 4 _ (by rw [hfe]; rfl) rfl
      obtain ⟨s5, h5⟩ := hstr 5 _ (by rw [hfe]; rfl) rfl
      obtain ⟨s6, h6⟩ := hstr 6 _ (by rw [hfe]; rfl) rfl
      refine ⟨⟨s0, s1, s2, s3, s4, s5, s6⟩, ?_⟩
      intro j u hju
      match j, hju with
      | 0, hju => simp at hju; rw [← hju]; exact h0
      | 1, hju => simp at hju; rw [← hju]; exact h1
      | 2, hju => simp at hju; rw [← hju]; exact h2
      | 3, hju => simp at hju; rw [← hju]; exact h3
      | 4, hju => simp at hju; rw [← hju]; exact h4
      | 5, hju => simp at hju; rw [← hju]; exact h5
      | 6, hju => simp at hju; rw [← hju]; exact h6
      | j + 7, hju => simp at hju
    have hg : ∀ n, n ≤ len → ∃ xs : List S26, xs.length = n ∧ ∀ (i : Nat) (s : S26), xs[i]? = some s → ∀ (j : Nat) (u : Value), [Value.string s.f0, .string s.f1, .bool s.f2, .string s.f3, .string s.f4, .string s.f5, .string s.f6][j]? = some u → W.cell? (a.add (i * 7 + j)) = some u := by
      intro n
      induction n with
      | zero => intro _; exact ⟨[], rfl, by simp⟩
      | succ n ih =>
        intro hn
        obtain ⟨xs, hxl, hxs⟩ := ih (by omega)
        obtain ⟨s, hs⟩ := hx n (by omega)
        refine ⟨xs ++ [s], by simp [hxl], ?_⟩
        intro i s' hi'
        rcases Nat.lt_trichotomy i n with hlt | heq | hgt
        · rw [List.getElem?_append_left (by omega)] at hi'
          exact hxs i s' hi'
        · subst heq
          rw [List.getElem?_append_right (by omega), hxl, Nat.sub_self] at hi'
          simp at hi'
          subst hi'
          exact hs
        · rw [List.getElem?_eq_none (by simp; omega)] at hi'
          cases hi'
    obtain ⟨xs, hxl, hxs⟩ := hg len (Nat.le_refl _)
    refine ⟨xs, hxl, ⟨hxl, by unfold maxLen at hmx; omega, fun _ => ⟨a, rfl, ?_⟩⟩, hlc⟩
    intro j p hp
    exact ⟨_, rfl, k26_mk W p, hxs j p hp⟩

end Go.Proofs.YtnajekpckbfcdaaGreatDoor
