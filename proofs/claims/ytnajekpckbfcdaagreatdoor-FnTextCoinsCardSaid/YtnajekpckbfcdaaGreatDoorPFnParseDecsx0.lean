-- PRINTED BY print.sh 35421559b90ae4d0a3588c463048766b98c2df88dd9212a6774a882060cdf62d: not written by this session
import Derived.Test.YtnajekpckbfcdaaGreatDoorProg
import Derived.Below
import Derived.Deep.Draws
import Derived.Deep.AppendLies
import Derived.Maps.AppendAt
import Derived.OwnWalk
import Derived.Laws.BytesArg
import Derived.Laws.MakeOwn
import Derived.Laws.OwnMore
import Derived.Deep.OwnRows
import Derived.Tactics
import Derived.Lib.ConvBytes
import Derived.Laws.Slices
import Derived.WalkKit
import Derived.KernelRfl
import Derived.RowKit3
import Derived.Deep.LoopGhost
import Derived.Deep.QuietTactic
import Derived.BigQuiet
import Derived.WideLaws
import Derived.Deep.DeepCutAuto
import Derived.Deep.CutBlock
import Derived.Deep.RegionHeld3
import Derived.Laws.Rows
import Derived.Lib.AppendStr
import Derived.ArgAppend
import Derived.Laws.IdiomCopy
import Derived.OrdersHeld
import Derived.Laws.BitsLemmas
import Derived.RowKit
import Derived.Test.YtnajekpckbfcdaaGreatDoorWWords
import Derived.Test.YtnajekpckbfcdaaGreatDoorWLast
import Derived.Test.YtnajekpckbfcdaaGreatDoorWQPut
import Derived.Test.YtnajekpckbfcdaaGreatDoorWApart
import Derived.Test.YtnajekpckbfcdaaGreatDoorWFoot
import Derived.Test.YtnajekpckbfcdaaGreatDoorWKept
import Derived.Test.YtnajekpckbfcdaaGreatDoorWShare
import Derived.Test.YtnajekpckbfcdaaGreatDoorWN
import Derived.Laws.StructEq
import Derived.Test.YtnajekpckbfcdaaGreatDoorWRepsOne
import Derived.Test.YtnajekpckbfcdaaGreatDoorWInv
import Derived.Test.YtnajekpckbfcdaaGreatDoorWMore
namespace Go.Proofs.YtnajekpckbfcdaaGreatDoor.PFnParseDecs
open Go.RowKit Go.Proofs.YtnajekpckbfcdaaGreatDoorW.PrintWords Go.Proofs.YtnajekpckbfcdaaGreatDoorW.PrintLast Go.Proofs.YtnajekpckbfcdaaGreatDoorW.PrintMore
attribute [local go_sem] max2_int min2_int max_two min_two max_three min_three max_four min_four   -- for this text's walks alone
set_option linter.unusedVariables false
set_option linter.unusedSimpArgs false

theorem info9 : (Tryz.prog.info? 9).map (fun i => (i.zero, i.size, i.bytes)) = some (some (.string ⟨#[]⟩), 1, 16) := by kernel_rfl
theorem info161 : (Tryz.prog.info? 161).map (fun i => (i.zero, i.size, i.bytes)) = some (some (.int .u64 0), 1, 8) := by kernel_rfl
-- the values' own types
/-! #### struct type 26 -/
structure S26 where
  f0 : ByteArray
  f1 : ByteArray
  f2 : Bool
  f3 : ByteArray
  f4 : ByteArray
  f5 : ByteArray
  f6 : ByteArray
/-! #### struct type 46 -/
structure S46 where
  f0 : ByteArray
  f1 : Int
  f2 : Int
def z46 : S46 := ⟨(⟨#[]⟩ : ByteArray), (0 : Int), (0 : Int)⟩
/-! #### struct type 42 -/
/-! #### struct type 44 -/
/-! #### struct type 52 -/
end Go.Proofs.YtnajekpckbfcdaaGreatDoor.PFnParseDecs
