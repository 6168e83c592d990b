/-
  What the listed package-level variables give the walks.
-/
import Derived.Test.YtnajekpckbfcdaaGreatDoorRows
import Derived.Test.YtnajekpckbfcdaaGreatDoorM15
import Derived.ProofKit
import Derived.LaidMore
import Derived.LaidSub
import Derived.OpenShut
import Derived.Stop.Joined
import Derived.Stop.LaidErr
import Derived.MakeChecks
import Derived.Deep.Slices
import Derived.Deep.Fields
import Derived.ChangeSame
import Derived.ChangeOld
import Derived.SizedLaws
set_option linter.unusedVariables false
set_option linter.unusedSimpArgs false
namespace Go.Proofs.YtnajekpckbfcdaaGreatDoor
open Go.ChangeShapes Go.WideShapes Go.ChangeAt Go.WideMaps Go.WideElems Go.Deep Go.RowKit

theorem own : ownKnob Tryz.prog.godebug = none := by kernel_rfl
theorem gEof : Tryz.prog.globalNamed "io.EOF" = some 3 := by kernel_rfl
theorem gLen : Tryz.prog.globalNamed "pub-doubloon/pub/cosmosmath.ErrLegacyInvalidDecimalLength" = some 1 := by kernel_rfl
theorem gBasic : Tryz.prog.globalNamed "pub-doubloon/pub/bigall.basicSqrThreshold" = some 4 := by kernel_rfl
theorem gKara : Tryz.prog.globalNamed "pub-doubloon/pub/bigall.karatsubaSqrThreshold" = some 5 := by kernel_rfl
theorem gTab : Tryz.prog.globalNamed "math/bits.deBruijn64tab" = some 14 := by kernel_rfl
theorem tEof : (Tryz.prog.globals[3]?).map (·.type) = some 61 := by kernel_rfl
theorem tLen : (Tryz.prog.globals[1]?).map (·.type) = some 61 := by kernel_rfl
theorem tBasic : (Tryz.prog.globals[4]?).map (·.type) = some 3 := by kernel_rfl
theorem tKara : (Tryz.prog.globals[5]?).map (·.type) = some 3 := by kernel_rfl
theorem cells150 : Tryz.prog.cellsOf 150 = 1 := by kernel_rfl
theorem cells9 : Tryz.prog.cellsOf 9 = 1 := by kernel_rfl
theorem star : "*" ++ "errors.errorString" = "*errors.errorString" := by decide
theorem row148 (u : TypeId) (h : Tryz.prog.typeName? 3 u = some "*errors.errorString") : u = 148 :=
  typeName_ptr_named (nm := "errors.errorString") (by rw [star]; kernel_rfl) (by kernel_rfl) (by decide) u (by rw [star]; exact h)

theorem laid_int {P : Program} {n : String} {z : Int} {r : List (String × DataW Unit)} {W : World} {g : Nat} {t : TypeId} (h : laidMet P ((n, .lit (.int .i64 z)) :: r) W)
    (hg : P.globalNamed n = some g) (ht : (P.globals[g]?).map (·.type) = some t) (hu : P.underlying t = some (.int .i64)) : W.cell? ⟨g, 0, none⟩ = some (.int .i64 z) := by
  obtain ⟨ps, ⟨g0, t0, cs0, f0, p0, q0, hg0, ht0, hv0, hd0, _, e0⟩, _, hrows⟩ := h
  obtain rfl := Option.some.inj (hg.symm.trans hg0)
  obtain rfl := Option.some.inj (ht.symm.trans ht0)
  obtain ⟨k, hk, hx, _⟩ := DataW.trod_int hu hd0
  simp only [Prod.mk.injEq, DataW.lit.injEq, Lit.int.injEq, true_and] at hx
  have := World.var?_cell hg0 hv0 0
  obtain ⟨l⟩ := cs0
  simp only at hk
  subst hk
  rw [← hx.1] at this
  simpa using this

theorem gl_of_five {W : World} (h3' : laidMet Tryz.prog [("io.EOF", Rows.laid_io_EOF)] W) (h1' : laidMet Tryz.prog [("pub-doubloon/pub/cosmosmath.ErrLegacyInvalidDecimalLength", Rows.laid_pub_doubloon_pub_cosmosmath_ErrLegacyInvalidDecimalLength)] W)
    (h4' : laidMet Tryz.prog [("pub-doubloon/pub/bigall.basicSqrThreshold", .lit (.int .i64 12))] W) (h5' : laidMet Tryz.prog [("pub-doubloon/pub/bigall.karatsubaSqrThreshold", .lit (.int .i64 80))] W) (h14' : laidMet Tryz.prog [("math/bits.deBruijn64tab", Rows.laid_math_bits_deBruijn64tab)] W) : Gl W := by
  obtain ⟨a3, s3, hv3, _⟩ := laid_sentinel h3' gEof tEof Tryz.underlying61 row148 Tryz.underlying148 Tryz.underlying150 rfl rfl Tryz.underlying9 cells150 cells9
  obtain ⟨a1, s1, hv1, _⟩ := laid_sentinel h1' gLen tLen Tryz.underlying61 row148 Tryz.underlying148 Tryz.underlying150 rfl rfl Tryz.underlying9 cells150 cells9
  have c4 := laid_int h4' gBasic tBasic Tryz.underlying3
  have c5 := laid_int h5' gKara tKara Tryz.underlying3
  have hsz : 15 ≤ W.heap.size := by
    obtain ⟨ps, ⟨g0, t0, cs0, f0, p0, q0, hg0, ht0, hv0, _⟩, _⟩ := h14'
    obtain rfl := Option.some.inj (gTab.symm.trans hg0)
    unfold World.var? at hv0
    rw [hg0] at hv0
    rcases Nat.lt_or_ge 14 W.heap.size with hlt | hge
    · omega
    · simp [Array.getElem?_eq_none hge] at hv0
  have c3 : W.cell? ⟨3, 0, none⟩ = some (.iface 148 (.pointer (some a3))) := by simpa using World.var?_cell gEof hv3 0
  have c1 : W.cell? ⟨1, 0, none⟩ = some (.iface 148 (.pointer (some a1))) := by simpa using World.var?_cell gLen hv1 0
  exact ⟨⟨hsz, c4, c5⟩, ⟨a3, c3⟩, ⟨a1, c1⟩, hsz⟩

section
variable {H : Type} {enc : TypeId × Value → H} {P : Program} {w : World} {base : Nat} {spare : Nat → Bool} {held : Bool}
end

end Go.Proofs.YtnajekpckbfcdaaGreatDoor
