-- PRINTED BY print.sh 35421559b90ae4d0a3588c463048766b98c2df88dd9212a6774a882060cdf62d: not written by this session
import Derived.Test.YtnajekpckbfcdaaGreatDoorPFnParseDecsx0
import Derived.Test.YtnajekpckbfcdaaGreatDoorPFnParseDecsx2
namespace Go.Proofs.YtnajekpckbfcdaaGreatDoor.PFnParseDecs
open Go.RowKit Go.Proofs.YtnajekpckbfcdaaGreatDoorW.PrintWords Go.Proofs.YtnajekpckbfcdaaGreatDoorW.PrintLast Go.Proofs.YtnajekpckbfcdaaGreatDoorW.PrintMore
attribute [local go_sem] max2_int min2_int max_two min_two max_three min_three max_four min_four   -- for this text's walks alone
set_option linter.unusedVariables false
set_option linter.unusedSimpArgs false

/-! ### spec_IsTextPart: function 23 -/
mutual
def spec_IsTextPart.j0 : Nat → Bool → ByteArray → ByteArray → Bool → ByteArray → ByteArray → ByteArray → ByteArray → Option (Bool)
  | 0, _, _, _, _, _, _, _, _ => none
  | k + 1, x40, x106000, x106001, x106002, x106003, x106004, x106005, x106006 => if x40 = true then (some false) else (spec_IsTextPart.l0 k 0 x106000 x106001 x106002 x106003 x106004 x106005 x106006)
def spec_IsTextPart.j2 : Nat → Int → ByteArray → ByteArray → Bool → ByteArray → ByteArray → ByteArray → ByteArray → Option (Bool)
  | 0, _, _, _, _, _, _, _, _ => none
  | k + 1, x3, x106000, x106001, x106002, x106003, x106004, x106005, x106006 => if (wrap64 ((x106001.size : Int) - x3)) > 15 then (spec_IsTextPart.j3 k (⟨#[48, 49, 50, 51, 52, 53, 54, 55, 56, 57]⟩ : ByteArray) true x106000 x106001 x106002 x106003 x106004 x106005 x106006) else (if (x106001.size : Int) > 25 then (spec_IsTextPart.j3 k (⟨#[48, 49, 50, 51, 52, 53, 54, 55, 56, 57]⟩ : ByteArray) true x106000 x106001 x106002 x106003 x106004 x106005 x106006) else (if (x106003.size : Int) > 30 then (spec_IsTextPart.j3 k (⟨#[48, 49, 50, 51, 52, 53, 54, 55, 56, 57]⟩ : ByteArray) true x106000 x106001 x106002 x106003 x106004 x106005 x106006) else ((spec_textIs.f k x106001 (⟨#[48, 49, 50, 51, 52, 53, 54, 55, 56, 57]⟩ : ByteArray)).bind fun t109 => (if t109 = true then ((spec_textIs.f k x106003 (⟨#[48, 49, 50, 51, 52, 53, 54, 55, 56, 57]⟩ : ByteArray)).bind fun t110 => (if t110 = true then (if x106002 = true then (spec_IsTextPart.j3 k (⟨#[48, 49, 50, 51, 52, 53, 54, 55, 56, 57]⟩ : ByteArray) (decide ((x106005.size : Int) > 140)) x106000 x106001 x106002 x106003 x106004 x106005 x106006) else (if x106003.toList = ([] : List UInt8) then (spec_IsTextPart.j3 k (⟨#[48, 49, 50, 51, 52, 53, 54, 55, 56, 57]⟩ : ByteArray) (decide ((x106005.size : Int) > 140)) x106000 x106001 x106002 x106003 x106004 x106005 x106006) else (spec_IsTextPart.j3 k (⟨#[48, 49, 50, 51, 52, 53, 54, 55, 56, 57]⟩ : ByteArray) true x106000 x106001 x106002 x106003 x106004 x106005 x106006))) else (spec_IsTextPart.j3 k (⟨#[48, 49, 50, 51, 52, 53, 54, 55, 56, 57]⟩ : ByteArray) true x106000 x106001 x106002 x106003 x106004 x106005 x106006))) else (spec_IsTextPart.j3 k (⟨#[48, 49, 50, 51, 52, 53, 54, 55, 56, 57]⟩ : ByteArray) true x106000 x106001 x106002 x106003 x106004 x106005 x106006)))))
def spec_IsTextPart.j3 : Nat → ByteArray → Bool → ByteArray → ByteArray → Bool → ByteArray → ByteArray → ByteArray → ByteArray → Option (Bool)
  | 0, _, _, _, _, _, _, _, _, _ => none
  | k + 1, x4, x102, x106000, x106001, x106002, x106003, x106004, x106005, x106006 => if x102 = true then (some false) else (spec_IsTextPart.l1 k x4 (x106005.size : Int) 0 x106000 x106001 x106002 x106003 x106004 x106005 x106006)
def spec_IsTextPart.l1 : Nat → ByteArray → Int → Int → ByteArray → ByteArray → Bool → ByteArray → ByteArray → ByteArray → ByteArray → Option (Bool)
  | 0, _, _, _, _, _, _, _, _, _, _ => none
  | k + 1, x4, x105, x106, x106000, x106001, x106002, x106003, x106004, x106005, x106006 => if x106 < x105 then (if 0 ≤ x106 then (if x106 < (x106005.size : Int) then (if (bt x106005 x106) ≤ 32 then (some false) else (if (bt x106005 x106) > 126 then (some false) else (if (bt x106005 x106) = 44 then (some false) else (spec_IsTextPart.l1 k x4 x105 (wrap64 (x106 + 1)) x106000 x106001 x106002 x106003 x106004 x106005 x106006)))) else (none)) else (none)) else (if x106005.toList = ([] : List UInt8) then (some true) else (if 0 ≤ 1 then (if 1 ≤ (x106005.size : Int) then (if x4.size + 1 ≤ 9223372036854775807 then ((spec_textIs.f k (x106005.extract 0 1) (x4 ++ (⟨#[46]⟩ : ByteArray))).bind fun t111 => (some (!t111))) else (none)) else (none)) else (none)))
def spec_IsTextPart.l0 : Nat → Int → ByteArray → ByteArray → Bool → ByteArray → ByteArray → ByteArray → ByteArray → Option (Bool)
  | 0, _, _, _, _, _, _, _, _ => none
  | k + 1, x3, x106000, x106001, x106002, x106003, x106004, x106005, x106006 => if x3 < (x106001.size : Int) then (if 0 ≤ x3 then (if (bt x106001 x3) = 48 then (spec_IsTextPart.l0 k (wrap64 (x3 + 1)) x106000 x106001 x106002 x106003 x106004 x106005 x106006) else (spec_IsTextPart.j2 k x3 x106000 x106001 x106002 x106003 x106004 x106005 x106006)) else (none)) else (spec_IsTextPart.j2 k x3 x106000 x106001 x106002 x106003 x106004 x106005 x106006)
end
end Go.Proofs.YtnajekpckbfcdaaGreatDoor.PFnParseDecs
