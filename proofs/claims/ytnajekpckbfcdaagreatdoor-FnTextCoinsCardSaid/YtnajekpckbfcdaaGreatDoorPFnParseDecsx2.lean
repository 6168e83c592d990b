-- PRINTED BY print.sh 35421559b90ae4d0a3588c463048766b98c2df88dd9212a6774a882060cdf62d: not written by this session
import Derived.Test.YtnajekpckbfcdaaGreatDoorPFnParseDecsx0
namespace Go.Proofs.YtnajekpckbfcdaaGreatDoor.PFnParseDecs
open Go.RowKit Go.Proofs.YtnajekpckbfcdaaGreatDoorW.PrintWords Go.Proofs.YtnajekpckbfcdaaGreatDoorW.PrintLast Go.Proofs.YtnajekpckbfcdaaGreatDoorW.PrintMore
attribute [local go_sem] max2_int min2_int max_two min_two max_three min_three max_four min_four   -- for this text's walks alone
set_option linter.unusedVariables false
set_option linter.unusedSimpArgs false

/-! ### laws_zzFits9: function 22 -/
/-! ### laws_zzFits10: function 7 -/
/-! ### spec_textIs: function 39 -/
mutual
def spec_textIs.l0 : Nat → ByteArray → ByteArray → Int → Int → Option (Bool)
  | 0, _, _, _, _ => none
  | k + 1, x0, x1, x9, x10 => if x10 < x9 then (spec_textIs.l1 k x0 x1 x10 false x9 x10 (x1.size : Int) 0) else (some true)
def spec_textIs.l1 : Nat → ByteArray → ByteArray → Int → Bool → Int → Int → Int → Int → Option (Bool)
  | 0, _, _, _, _, _, _, _, _ => none
  | k + 1, x0, x1, x5, x6, x9, x10, x14, x15 => if x15 < x14 then (if x6 = true then (spec_textIs.l1 k x0 x1 x5 true x9 x10 x14 (wrap64 (x15 + 1))) else (if 0 ≤ x5 then (if x5 < (x0.size : Int) then (if 0 ≤ x15 then (if x15 < (x1.size : Int) then (spec_textIs.l1 k x0 x1 x5 ((bt x0 x5) == (bt x1 x15)) x9 x10 x14 (wrap64 (x15 + 1))) else (none)) else (none)) else (none)) else (none))) else (if x6 = true then (spec_textIs.l0 k x0 x1 x9 (wrap64 (x10 + 1))) else (some false))
end
def spec_textIs.f (k : Nat) (a0 : ByteArray) (a1 : ByteArray) : Option (Bool) := spec_textIs.l0 k a0 a1 (a0.size : Int) 0
end Go.Proofs.YtnajekpckbfcdaaGreatDoor.PFnParseDecs
