/-
  The library contracts at this program; words of 64 bits.
-/
import Derived.Shelf.Small.Bits
import Derived.Shelf.Bits.Mul64
import Derived.Test.YtnajekpckbfcdaaGreatDoorProg
import Derived.Shelf.Strings.Builder1
import Derived.Shelf.Strings.Builder2
import Derived.Shelf.Strings.BuilderF
import Derived.Shelf.Strings.BuilderK
import Derived.Shelf.Strings.Builder2Cap
import Derived.Shelf.Strconv.Itoa0
import Derived.Shelf.Strings.Prefix
import Derived.Shelf.Strings.Repeat
import Derived.Shelf.Strings.BuilderCap
import Derived.Test.YtnajekpckbfcdaaGreatDoorM01
import Derived.Laws.Externs
import Derived.Shelf.Spec.BitsCarry
import Derived.Deep.QuietTactic
import Derived.BigQuiet
set_option linter.unusedVariables false
set_option linter.unusedSimpArgs false
namespace Go.Proofs
open Go.Shelf
def Tryz.lays125_ren : Go.Shelf.Ren := ⟨fun | 125 => 134 | 128 => 172 | 129 => 173 | n => n, fun | 46 => 160 | 3 => 3 | 51 => 205 | 53 => 159 | 4 => 4 | 5 => 5 | 9 => 9 | n => n, fun | n => n⟩
theorem Tryz.lays125 : Go.Proofs.Lays.n125 Tryz.prog Tryz.lays125_ren := {
  mixed := by kernel_rfl
  f125 := Tryz.func134.trans (congrArg some (by kernel_rfl))
  f128 := Tryz.func172.trans (congrArg some (by kernel_rfl))
  f129 := Tryz.func173.trans (congrArg some (by kernel_rfl))
  t3 := Tryz.underlying3
  a3 := Tryz.isAgg3
  z3 := Tryz.sizeOf3
  v3 := Tryz.zeroValue3
  t4 := Tryz.underlying4
  a4 := Tryz.isAgg4
  z4 := Tryz.sizeOf4
  v4 := Tryz.zeroValue4
  t5 := Tryz.underlying5
  a5 := Tryz.isAgg5
  z5 := Tryz.sizeOf5
  v5 := Tryz.zeroValue5
  t9 := Tryz.underlying9
  a9 := Tryz.isAgg9
  z9 := Tryz.sizeOf9
  v9 := Tryz.zeroValue9
  t46 := Tryz.underlying160
  a46 := Tryz.isAgg160
  z46 := Tryz.sizeOf160
  v46 := Tryz.zeroValue160
  t51 := Tryz.underlying205
  a51 := Tryz.isAgg205
  z51 := Tryz.sizeOf205
  v51 := Tryz.zeroValue205
  t53 := Tryz.underlying159
  a53 := Tryz.isAgg159
  z53 := Tryz.sizeOf159
  v53 := Tryz.zeroValue159 }
/-- bits.Len: "Len returns the minimum number of bits required to represent x; the result is 0 for x == 0.": IT RETURNS 'Lib.bitLen x'; the world is as it was. (A uint has 64 bits in the model.) ITS CALLEE bits.Len64 IS MET BY ITS OWN CONTRACT OFF THE SHELF (lay that first). (LAID: no walk: one application.) -/
theorem Tryz.bits_Len (x : Int) (w : World) (h0 : 0 ≤ x) (h1 : x ≤ 18446744073709551615) :
    Calls Tryz.prog 134 #[.int .u64 x] w fun e w' => e = .returned (.int .i64 (Lib.bitLen x.toNat)) ∧ w' = w := Any.bits_Len Tryz.lays125 x w h0 h1
def Tryz.lays134_ren : Go.Shelf.Ren := ⟨fun | 134 => 297 | 129 => 173 | n => n, fun | 53 => 159 | 3 => 3 | 4 => 4 | 46 => 160 | 5 => 5 | 9 => 9 | n => n, fun | n => n⟩
theorem Tryz.lays134 : Go.Proofs.Lays.n134 Tryz.prog Tryz.lays134_ren := {
  mixed := by kernel_rfl
  f129 := Tryz.func173.trans (congrArg some (by kernel_rfl))
  f134 := Tryz.func297.trans (congrArg some (by kernel_rfl))
  t3 := Tryz.underlying3
  a3 := Tryz.isAgg3
  z3 := Tryz.sizeOf3
  v3 := Tryz.zeroValue3
  t4 := Tryz.underlying4
  a4 := Tryz.isAgg4
  z4 := Tryz.sizeOf4
  v4 := Tryz.zeroValue4
  t5 := Tryz.underlying5
  a5 := Tryz.isAgg5
  z5 := Tryz.sizeOf5
  v5 := Tryz.zeroValue5
  t9 := Tryz.underlying9
  a9 := Tryz.isAgg9
  z9 := Tryz.sizeOf9
  v9 := Tryz.zeroValue9
  t46 := Tryz.underlying160
  a46 := Tryz.isAgg160
  z46 := Tryz.sizeOf160
  v46 := Tryz.zeroValue160
  t53 := Tryz.underlying159
  a53 := Tryz.isAgg159
  z53 := Tryz.sizeOf159
  v53 := Tryz.zeroValue159 }
/-- bits.LeadingZeros64: "LeadingZeros64 returns the number of leading zero bits in x; the result is 64 for x == 0.": IT RETURNS '64 - Lib.bitLen x'; the world is as it was. ITS CALLEE bits.Len64 IS MET BY ITS OWN CONTRACT OFF THE SHELF (lay that first): entered in place it sends the kernel out of memory. (LAID: no walk: one application.) -/
theorem Tryz.bits_LeadingZeros64 (x : Int) (w : World) (h0 : 0 ≤ x) (h1 : x ≤ 18446744073709551615) :
    Calls Tryz.prog 297 #[.int .u64 x] w fun e w' => e = .returned (.int .i64 (64 - (Lib.bitLen x.toNat : Int))) ∧ w' = w := Any.bits_LeadingZeros64 Tryz.lays134 x w h0 h1
def Tryz.lays130_ren : Go.Shelf.Ren := ⟨fun | 130 => 256 | 125 => 134 | 128 => 172 | 129 => 173 | n => n, fun | 46 => 160 | 3 => 3 | 51 => 205 | 53 => 159 | 4 => 4 | 5 => 5 | 9 => 9 | n => n, fun | n => n⟩
theorem Tryz.lays130 : Go.Proofs.Lays.n130 Tryz.prog Tryz.lays130_ren := {
  mixed := by kernel_rfl
  f125 := Tryz.func134.trans (congrArg some (by kernel_rfl))
  f128 := Tryz.func172.trans (congrArg some (by kernel_rfl))
  f129 := Tryz.func173.trans (congrArg some (by kernel_rfl))
  f130 := Tryz.func256.trans (congrArg some (by kernel_rfl))
  t3 := Tryz.underlying3
  a3 := Tryz.isAgg3
  z3 := Tryz.sizeOf3
  v3 := Tryz.zeroValue3
  t4 := Tryz.underlying4
  a4 := Tryz.isAgg4
  z4 := Tryz.sizeOf4
  v4 := Tryz.zeroValue4
  t5 := Tryz.underlying5
  a5 := Tryz.isAgg5
  z5 := Tryz.sizeOf5
  v5 := Tryz.zeroValue5
  t9 := Tryz.underlying9
  a9 := Tryz.isAgg9
  z9 := Tryz.sizeOf9
  v9 := Tryz.zeroValue9
  t46 := Tryz.underlying160
  a46 := Tryz.isAgg160
  z46 := Tryz.sizeOf160
  v46 := Tryz.zeroValue160
  t51 := Tryz.underlying205
  a51 := Tryz.isAgg205
  z51 := Tryz.sizeOf205
  v51 := Tryz.zeroValue205
  t53 := Tryz.underlying159
  a53 := Tryz.isAgg159
  z53 := Tryz.sizeOf159
  v53 := Tryz.zeroValue159 }
/-- bits.LeadingZeros: "LeadingZeros returns the number of leading zero bits in x; the result is [UintSize] for x == 0.": IT RETURNS '64 - Lib.bitLen x'; the world is as it was. ITS CALLEE bits.Len IS MET BY ITS OWN CONTRACT OFF THE SHELF (lay that first): entered in place it sends the kernel out of memory. (LAID: no walk: one application.) -/
theorem Tryz.bits_LeadingZeros (x : Int) (w : World) (h0 : 0 ≤ x) (h1 : x ≤ 18446744073709551615) :
    Calls Tryz.prog 256 #[.int .u64 x] w fun e w' => e = .returned (.int .i64 (64 - (Lib.bitLen x.toNat : Int))) ∧ w' = w := Any.bits_LeadingZeros Tryz.lays130 x w h0 h1
def Tryz.lays212_ren : Go.Shelf.Ren := ⟨fun | 212 => 121 | 263 => 159 | 264 => 160 | n => n, fun | 46 => 160 | 51 => 205 | 146 => 206 | 53 => 159 | 148 => 208 | n => n, fun | n => n⟩
theorem Tryz.lays212 : Go.Proofs.Lays.n212 Tryz.prog Tryz.lays212_ren := {
  mixed := by kernel_rfl
  f212 := Tryz.func121.trans (congrArg some (by kernel_rfl))
  f263 := Tryz.func159.trans (congrArg some (by kernel_rfl))
  f264 := Tryz.func160.trans (congrArg some (by kernel_rfl))
  t46 := Tryz.underlying160
  a46 := Tryz.isAgg160
  z46 := Tryz.sizeOf160
  v46 := Tryz.zeroValue160
  t51 := Tryz.underlying205
  a51 := Tryz.isAgg205
  z51 := Tryz.sizeOf205
  v51 := Tryz.zeroValue205
  t53 := Tryz.underlying159
  a53 := Tryz.isAgg159
  z53 := Tryz.sizeOf159
  v53 := Tryz.zeroValue159
  t146 := Tryz.underlying206
  a146 := Tryz.isAgg206
  z146 := Tryz.sizeOf206
  v146 := Tryz.zeroValue206
  t148 := Tryz.underlying208
  a148 := Tryz.isAgg208
  z148 := Tryz.sizeOf208
  v148 := Tryz.zeroValue208 }
open Go.RowKit Go.Lib in
/-- math/bits.Mul: "Mul returns the full-width product of x and y": on a machine of 64 bits: Mul64's. (LAID: no walk: one application.) -/
theorem Tryz.bits_Mul (x y : Nat) (hx : x < 18446744073709551616) (hy : y < 18446744073709551616) (w : World) :
    Calls Tryz.prog 121 #[.int .u64 x, .int .u64 y] w fun e w' => e = .returned (.tuple #[.int .u64 ((x * y / 18446744073709551616 : Nat) : Int), .int .u64 ((x * y % 18446744073709551616 : Nat) : Int)]) ∧ w' = w := Any.bits_Mul Tryz.lays212 x y hx hy w
end Go.Proofs

namespace Go.Proofs
open Go.Shelf
def Tryz.lays169_ren : Go.Shelf.Ren := ⟨fun | 169 => 59 | n => n, fun | 70 => 109 | 9 => 9 | 0 => 0 | 72 => 111 | 37 => 78 | 127 => 146 | 3 => 3 | 5 => 5 | n => n, fun | n => n⟩
theorem Tryz.lays169 : Go.Proofs.Lays.n169 Tryz.prog Tryz.lays169_ren := {
  mixed := by kernel_rfl
  f169 := Tryz.func59.trans (congrArg some (by kernel_rfl))
  t0 := Tryz.underlying0
  a0 := Tryz.isAgg0
  z0 := Tryz.sizeOf0
  v0 := Tryz.zeroValue0
  t3 := Tryz.underlying3
  a3 := Tryz.isAgg3
  z3 := Tryz.sizeOf3
  v3 := Tryz.zeroValue3
  t9 := Tryz.underlying9
  a9 := Tryz.isAgg9
  z9 := Tryz.sizeOf9
  v9 := Tryz.zeroValue9
  t37 := Tryz.underlying78
  a37 := Tryz.isAgg78
  z37 := Tryz.sizeOf78
  v37 := Tryz.zeroValue78
  t70 := Tryz.underlying109
  a70 := Tryz.isAgg109
  z70 := Tryz.sizeOf109
  v70 := Tryz.zeroValue109
  t72 := Tryz.underlying111
  a72 := Tryz.isAgg111
  z72 := Tryz.sizeOf111
  v72 := Tryz.zeroValue111
  t127 := Tryz.underlying146
  a127 := Tryz.isAgg146
  z127 := Tryz.sizeOf146
  v127 := Tryz.zeroValue146 }
theorem Tryz.Builder_Extra_169 : Builder.Extra Tryz.prog Tryz.lays169_ren := {
  sizeBuilder := by kernel_rfl
  liesBuilder := by kernel_rfl
  t5 := Tryz.underlying5
  a5 := Tryz.isAgg5
  z5 := Tryz.sizeOf5
  v5 := Tryz.zeroValue5
  infoByte := by kernel_rfl
  cellsByte := by kernel_rfl
  sizeByte := by kernel_rfl
  neB5 := by decide }
open Go.RowKit in
/-- (*strings.Builder).String: "String returns the accumulated string.": WHATEVER THE BUILDER HOLDS. (LAID: no walk: one application.) -/
theorem Tryz.Builder_String_any (B b : Nat) (l : List UInt8) (w : World) (h : Lib.IsBuilder 111 5 B b (Lib.byteCells l) w) (hBw : B ≤ w.heap.size) :
    Calls Tryz.prog 59 #[.pointer (some ⟨b, 0, none⟩)] w fun e w' => e = .returned (.string ⟨l.toArray⟩) ∧ Below B w w' := Any.Builder_String_any Tryz.lays169 Tryz.Builder_Extra_169 B b l w h hBw
def Tryz.lays105_ren : Go.Shelf.Ren := ⟨fun | 105 => 90 | 212 => 121 | 99 => 122 | 165 => 123 | 166 => 57 | 170 => 124 | 169 => 59 | 263 => 159 | 264 => 160 | 206 => 161 | 240 => 86 | 241 => 162 | 276 => 118 | 277 => 209 | n => n, fun | 9 => 9 | 3 => 3 | 4 => 4 | 20 => 20 | 0 => 0 | 46 => 160 | 109 => 177 | 5 => 5 | 72 => 111 | 76 => 112 | 51 => 205 | 146 => 206 | 53 => 159 | 148 => 208 | 70 => 109 | 37 => 78 | 75 => 61 | 127 => 146 | 164 => 175 | 80 => 57 | n => n, fun | n => n⟩
theorem Tryz.lays105 : Go.Proofs.Lays.n105 Tryz.prog Tryz.lays105_ren := {
  mixed := by kernel_rfl
  f99 := Tryz.func122.trans (congrArg some (by kernel_rfl))
  f105 := Tryz.func90.trans (congrArg some (by kernel_rfl))
  f165 := Tryz.func123.trans (congrArg some (by kernel_rfl))
  f166 := Tryz.func57.trans (congrArg some (by kernel_rfl))
  f169 := Tryz.func59.trans (congrArg some (by kernel_rfl))
  f170 := Tryz.func124.trans (congrArg some (by kernel_rfl))
  f206 := Tryz.func161.trans (congrArg some (by kernel_rfl))
  f212 := Tryz.func121.trans (congrArg some (by kernel_rfl))
  f240 := Tryz.func86.trans (congrArg some (by kernel_rfl))
  f241 := Tryz.func162.trans (congrArg some (by kernel_rfl))
  f263 := Tryz.func159.trans (congrArg some (by kernel_rfl))
  f264 := Tryz.func160.trans (congrArg some (by kernel_rfl))
  f276 := Tryz.func118.trans (congrArg some (by kernel_rfl))
  f277 := Tryz.func209.trans (congrArg some (by kernel_rfl))
  t0 := Tryz.underlying0
  a0 := Tryz.isAgg0
  z0 := Tryz.sizeOf0
  v0 := Tryz.zeroValue0
  t3 := Tryz.underlying3
  a3 := Tryz.isAgg3
  z3 := Tryz.sizeOf3
  v3 := Tryz.zeroValue3
  t4 := Tryz.underlying4
  a4 := Tryz.isAgg4
  z4 := Tryz.sizeOf4
  v4 := Tryz.zeroValue4
  t5 := Tryz.underlying5
  a5 := Tryz.isAgg5
  z5 := Tryz.sizeOf5
  v5 := Tryz.zeroValue5
  t9 := Tryz.underlying9
  a9 := Tryz.isAgg9
  z9 := Tryz.sizeOf9
  v9 := Tryz.zeroValue9
  t20 := Tryz.underlying20
  a20 := Tryz.isAgg20
  z20 := Tryz.sizeOf20
  v20 := Tryz.zeroValue20
  t37 := Tryz.underlying78
  a37 := Tryz.isAgg78
  z37 := Tryz.sizeOf78
  v37 := Tryz.zeroValue78
  t46 := Tryz.underlying160
  a46 := Tryz.isAgg160
  z46 := Tryz.sizeOf160
  v46 := Tryz.zeroValue160
  t51 := Tryz.underlying205
  a51 := Tryz.isAgg205
  z51 := Tryz.sizeOf205
  v51 := Tryz.zeroValue205
  t53 := Tryz.underlying159
  a53 := Tryz.isAgg159
  z53 := Tryz.sizeOf159
  v53 := Tryz.zeroValue159
  t70 := Tryz.underlying109
  a70 := Tryz.isAgg109
  z70 := Tryz.sizeOf109
  v70 := Tryz.zeroValue109
  t72 := Tryz.underlying111
  a72 := Tryz.isAgg111
  z72 := Tryz.sizeOf111
  v72 := Tryz.zeroValue111
  t75 := Tryz.underlying61
  a75 := Tryz.isAgg61
  z75 := Tryz.sizeOf61
  v75 := Tryz.zeroValue61
  t76 := Tryz.underlying112
  a76 := Tryz.isAgg112
  z76 := Tryz.sizeOf112
  v76 := Tryz.zeroValue112
  t109 := Tryz.underlying177
  a109 := Tryz.isAgg177
  z109 := Tryz.sizeOf177
  v109 := Tryz.zeroValue177
  t127 := Tryz.underlying146
  a127 := Tryz.isAgg146
  z127 := Tryz.sizeOf146
  v127 := Tryz.zeroValue146
  t146 := Tryz.underlying206
  a146 := Tryz.isAgg206
  z146 := Tryz.sizeOf206
  v146 := Tryz.zeroValue206
  t148 := Tryz.underlying208
  a148 := Tryz.isAgg208
  z148 := Tryz.sizeOf208
  v148 := Tryz.zeroValue208
  t164 := Tryz.underlying175
  a164 := Tryz.isAgg175
  z164 := Tryz.sizeOf175
  v164 := Tryz.zeroValue175 }
theorem Tryz.Builder_Extra_105 : Builder.Extra Tryz.prog Tryz.lays105_ren := {
  sizeBuilder := by kernel_rfl
  liesBuilder := by kernel_rfl
  t5 := Tryz.underlying5
  a5 := Tryz.isAgg5
  z5 := Tryz.sizeOf5
  v5 := Tryz.zeroValue5
  infoByte := by kernel_rfl
  cellsByte := by kernel_rfl
  sizeByte := by kernel_rfl
  neB5 := by decide }
open Go.RowKit Go.Lib in
/-- **strings.Repeat: count ≥ 0, the result within one allocation: count copies of s.** (LAID: no walk: one application.) -/
theorem Tryz.strings_Repeat (s : ByteArray) (c : Nat) (w : World) (hc : c ≤ 9223372036854775807) (hlen : s.size * c ≤ 140737488355328) :
    Calls Tryz.prog 90 #[.string s, .int .i64 c] w fun e w' => e = .returned (.string ⟨(Lib.repeatL s.data.toList c).toArray⟩) ∧ Below w.heap.size w w' := Any.strings_Repeat Tryz.lays105 Tryz.Builder_Extra_105 s c w hc hlen
end Go.Proofs

namespace Go.Proofs
open Go.Shelf
def Tryz.lays166_ren : Go.Shelf.Ren := ⟨fun | 166 => 57 | 240 => 86 | 276 => 118 | n => n, fun | 70 => 109 | 3 => 3 | 0 => 0 | 4 => 4 | 9 => 9 | 20 => 20 | 72 => 111 | 37 => 78 | 164 => 175 | 5 => 5 | 75 => 61 | 80 => 57 | n => n, fun | n => n⟩
theorem Tryz.lays166 : Go.Proofs.Lays.n166 Tryz.prog Tryz.lays166_ren := {
  mixed := by kernel_rfl
  f166 := Tryz.func57.trans (congrArg some (by kernel_rfl))
  f240 := Tryz.func86.trans (congrArg some (by kernel_rfl))
  f276 := Tryz.func118.trans (congrArg some (by kernel_rfl))
  t0 := Tryz.underlying0
  a0 := Tryz.isAgg0
  z0 := Tryz.sizeOf0
  v0 := Tryz.zeroValue0
  t3 := Tryz.underlying3
  a3 := Tryz.isAgg3
  z3 := Tryz.sizeOf3
  v3 := Tryz.zeroValue3
  t4 := Tryz.underlying4
  a4 := Tryz.isAgg4
  z4 := Tryz.sizeOf4
  v4 := Tryz.zeroValue4
  t9 := Tryz.underlying9
  a9 := Tryz.isAgg9
  z9 := Tryz.sizeOf9
  v9 := Tryz.zeroValue9
  t20 := Tryz.underlying20
  a20 := Tryz.isAgg20
  z20 := Tryz.sizeOf20
  v20 := Tryz.zeroValue20
  t37 := Tryz.underlying78
  a37 := Tryz.isAgg78
  z37 := Tryz.sizeOf78
  v37 := Tryz.zeroValue78
  t70 := Tryz.underlying109
  a70 := Tryz.isAgg109
  z70 := Tryz.sizeOf109
  v70 := Tryz.zeroValue109
  t72 := Tryz.underlying111
  a72 := Tryz.isAgg111
  z72 := Tryz.sizeOf111
  v72 := Tryz.zeroValue111
  t75 := Tryz.underlying61
  a75 := Tryz.isAgg61
  z75 := Tryz.sizeOf61
  v75 := Tryz.zeroValue61
  t164 := Tryz.underlying175
  a164 := Tryz.isAgg175
  z164 := Tryz.sizeOf175
  v164 := Tryz.zeroValue175 }
theorem Tryz.Builder_Extra_166 : Builder.Extra Tryz.prog Tryz.lays166_ren := {
  sizeBuilder := by kernel_rfl
  liesBuilder := by kernel_rfl
  t5 := Tryz.underlying5
  a5 := Tryz.isAgg5
  z5 := Tryz.sizeOf5
  v5 := Tryz.zeroValue5
  infoByte := by kernel_rfl
  cellsByte := by kernel_rfl
  sizeByte := by kernel_rfl
  neB5 := by decide }
open Go.RowKit in
theorem Tryz.Builder_WriteString (B b : Nat) (bs : List Value) (s : ByteArray) (w : World) (h : Lib.IsBuilder 111 5 B b bs w) (hlen : bs.length + s.size ≤ 140737488355328) (hBw : B ≤ w.heap.size) :
    Calls Tryz.prog 57 #[.pointer (some ⟨b, 0, none⟩), .string s] w fun e w' => e = .returned (.tuple #[.int .i64 s.size, .nilIface]) ∧ (Lib.BuilderAt 111 5 B b (.pointer (some ⟨b, 0, none⟩)) (bs ++ Lib.strCells s) w' ∧ Below B w w') := Any.Builder_WriteString Tryz.lays166 Tryz.Builder_Extra_166 B b bs s w h hlen hBw
def Tryz.lays167_ren : Go.Shelf.Ren := ⟨fun | 167 => 58 | 240 => 86 | 276 => 118 | n => n, fun | 70 => 109 | 3 => 3 | 0 => 0 | 4 => 4 | 9 => 9 | 20 => 20 | 72 => 111 | 37 => 78 | 164 => 175 | 5 => 5 | 75 => 61 | 80 => 57 | n => n, fun | n => n⟩
theorem Tryz.lays167 : Go.Proofs.Lays.n167 Tryz.prog Tryz.lays167_ren := {
  mixed := by kernel_rfl
  f167 := Tryz.func58.trans (congrArg some (by kernel_rfl))
  f240 := Tryz.func86.trans (congrArg some (by kernel_rfl))
  f276 := Tryz.func118.trans (congrArg some (by kernel_rfl))
  t0 := Tryz.underlying0
  a0 := Tryz.isAgg0
  z0 := Tryz.sizeOf0
  v0 := Tryz.zeroValue0
  t4 := Tryz.underlying4
  a4 := Tryz.isAgg4
  z4 := Tryz.sizeOf4
  v4 := Tryz.zeroValue4
  t5 := Tryz.underlying5
  a5 := Tryz.isAgg5
  z5 := Tryz.sizeOf5
  v5 := Tryz.zeroValue5
  t9 := Tryz.underlying9
  a9 := Tryz.isAgg9
  z9 := Tryz.sizeOf9
  v9 := Tryz.zeroValue9
  t20 := Tryz.underlying20
  a20 := Tryz.isAgg20
  z20 := Tryz.sizeOf20
  v20 := Tryz.zeroValue20
  t37 := Tryz.underlying78
  a37 := Tryz.isAgg78
  z37 := Tryz.sizeOf78
  v37 := Tryz.zeroValue78
  t70 := Tryz.underlying109
  a70 := Tryz.isAgg109
  z70 := Tryz.sizeOf109
  v70 := Tryz.zeroValue109
  t72 := Tryz.underlying111
  a72 := Tryz.isAgg111
  z72 := Tryz.sizeOf111
  v72 := Tryz.zeroValue111
  t75 := Tryz.underlying61
  a75 := Tryz.isAgg61
  z75 := Tryz.sizeOf61
  v75 := Tryz.zeroValue61
  t164 := Tryz.underlying175
  a164 := Tryz.isAgg175
  z164 := Tryz.sizeOf175
  v164 := Tryz.zeroValue175 }
theorem Tryz.Builder_Extra_167 : Builder.Extra Tryz.prog Tryz.lays167_ren := {
  sizeBuilder := by kernel_rfl
  liesBuilder := by kernel_rfl
  t5 := Tryz.underlying5
  a5 := Tryz.isAgg5
  z5 := Tryz.sizeOf5
  v5 := Tryz.zeroValue5
  infoByte := by kernel_rfl
  cellsByte := by kernel_rfl
  sizeByte := by kernel_rfl
  neB5 := by decide }
open Go.RowKit in
theorem Tryz.Builder_WriteByte (B b : Nat) (bs : List Value) (c : Int) (w : World) (h : Lib.IsBuilder 111 5 B b bs w) (hlen : bs.length + 1 ≤ 140737488355328) (hBw : B ≤ w.heap.size) :
    Calls Tryz.prog 58 #[.pointer (some ⟨b, 0, none⟩), .int .u8 c] w fun e w' => e = .returned .nilIface ∧ (Lib.BuilderAt 111 5 B b (.pointer (some ⟨b, 0, none⟩)) (bs ++ [.int .u8 c]) w' ∧ Below B w w') := Any.Builder_WriteByte Tryz.lays167 Tryz.Builder_Extra_167 B b bs c w h hlen hBw
end Go.Proofs

namespace Go.Proofs.YtnajekpckbfcdaaGreatDoor
open Go.RowKit

/-- Two words come back of which P holds; the world stays. -/
def Pair64 (P : Nat → Nat → Prop) (w : World) (e : Ending) (w' : World) : Prop :=
  ∃ h l : Nat, e = .returned (.tuple #[.int .u64 h, .int .u64 l]) ∧ w = w' ∧ P h l
theorem wrapN (a : Nat) (ha : a < 18446744073709551616) : IntKind.u64.wrap (a : Int) = (a : Int) := by rw [IntKind.wrap_u64]; omega
theorem call_add64 (x y c : Nat) (hc : c ≤ 1) : ∃ s c' : Nat, (∀ w, (callFunc 232 #[.int .u64 x, .int .u64 y, .int .u64 c]).run Tryz.prog w =
      .ok (.value (.tuple #[.int .u64 s, .int .u64 c'])) w) ∧ s + 18446744073709551616 * c' = x + y + c ∧ s < 18446744073709551616 := by
  refine ⟨(x + y + c) % 18446744073709551616, (x + y + c) / 18446744073709551616, fun w => ?_, by omega, by omega⟩
  rw [run_callFunc_extern Tryz.func232 (by kernel_rfl) (by kernel_rfl) (by kernel_rfl) (e := add64Entry) (by kernel_rfl), run_add64 x y c (by omega) (by omega) (by omega) (by omega)]
  simp only [Result.andThen]
  congr 5 <;> omega

theorem call_sub64 (x y b : Nat) (hx : x < 18446744073709551616) (hy : y < 18446744073709551616) (hb : b ≤ 1) : ∃ d b' : Nat, (∀ w, (callFunc 234 #[.int .u64 x, .int .u64 y, .int .u64 b]).run Tryz.prog w =
      .ok (.value (.tuple #[.int .u64 d, .int .u64 b'])) w) ∧ d + y + b = x + 18446744073709551616 * b' ∧ d < 18446744073709551616 ∧ b' ≤ 1 := by
  refine ⟨(x + 18446744073709551616 - y - b) % 18446744073709551616, if x < y + b then 1 else 0, fun w => ?_, by split <;> omega, by omega, by split <;> omega⟩
  rw [run_callFunc_extern Tryz.func234 (by kernel_rfl) (by kernel_rfl) (by kernel_rfl) (e := sub64Entry) (by kernel_rfl), run_sub64 x y b hb]
  rfl

/-- bits.Add -/
theorem bAdd_any (x y c : Nat) (hc : c ≤ 1) (w : World) :
    Calls Tryz.prog 194 #[.int .u64 x, .int .u64 y, .int .u64 c] w (Pair64 (fun s c' => s + 18446744073709551616 * c' = x + y + c ∧ s < 18446744073709551616) w) := by
  obtain ⟨s, c', h, h1, h2⟩ := call_add64 x y c hc
  have H1 := hide h1
  clear h1
  go_enter Tryz.func194, Tryz.ntmps194
  go_wp2
  go_ret2
  exact ⟨s, c', rfl, rfl, H1.out, h2⟩

/-- bits.Sub -/
theorem bSub_any (x y b : Nat) (hx : x < 18446744073709551616) (hy : y < 18446744073709551616) (hb : b ≤ 1) (w : World) :
    Calls Tryz.prog 196 #[.int .u64 x, .int .u64 y, .int .u64 b] w (Pair64 (fun d b' => d + y + b = x + 18446744073709551616 * b' ∧ d < 18446744073709551616 ∧ b' ≤ 1) w) := by
  obtain ⟨s, c', h, h1, h2, h3⟩ := call_sub64 x y b hx hy hb
  have H1 := hide h1
  clear h1
  go_enter Tryz.func196, Tryz.ntmps196
  go_wp2
  go_ret2
  exact ⟨s, c', rfl, rfl, H1.out, h2, h3⟩

theorem bMul_any (x y : Nat) (hx : x < 18446744073709551616) (hy : y < 18446744073709551616) (w : World) :
    Calls Tryz.prog 121 #[.int .u64 x, .int .u64 y] w (Pair64 (fun h l => l + 18446744073709551616 * h = x * y ∧ l < 18446744073709551616) w) :=
  (Tryz.bits_Mul x y hx hy w).mono fun _ _ ⟨he, hw⟩ => ⟨_, _, he, hw.symm, by omega, by omega⟩

/-- mulWW -/
theorem mulWW_any (x y : Nat) (hx : x < 18446744073709551616) (hy : y < 18446744073709551616) (w : World) :
    Calls Tryz.prog 182 #[.int .u64 x, .int .u64 y] w (Pair64 (fun h l => l + 18446744073709551616 * h = x * y ∧ l < 18446744073709551616) w) := by
  go_enter Tryz.func182, Tryz.ntmps182
  go_wp2_with (go_at_call 121; refine (bMul_any x y hx hy _).mono ?_; rintro e w' ⟨h, l, rfl, rfl, he, hl⟩; have HE := hide he; clear he)
  go_ret2
  exact ⟨h, l, rfl, rfl, HE.out, hl⟩

theorem mul_le64 (x y : Nat) (hx : x < 18446744073709551616) (hy : y < 18446744073709551616) : x * y ≤ 18446744073709551615 * 18446744073709551615 := Nat.mul_le_mul (by omega) (by omega)

theorem mulAdd_eq (p c h l s c' : Nat) (hp : p ≤ 18446744073709551615 * 18446744073709551615) (hc : c < 18446744073709551616) (e1 : l + 18446744073709551616 * h = p) (e2 : s + 18446744073709551616 * c' = l + c + 0) :
    h + c' < 18446744073709551616 ∧ s + 18446744073709551616 * (h + c') = p + c := by omega

/-- mulAddWWW_g -/
theorem mulAddWWW_any (x y c : Nat) (hx : x < 18446744073709551616) (hy : y < 18446744073709551616) (hc : c < 18446744073709551616) (w : World) :
    Calls Tryz.prog 284 #[.int .u64 x, .int .u64 y, .int .u64 c] w (Pair64 (fun h l => l + 18446744073709551616 * h = x * y + c ∧ l < 18446744073709551616 ∧ h < 18446744073709551616) w) := by
  have M := mul_le64 x y hx hy
  go_enter Tryz.func284, Tryz.ntmps284
  go_wp2_with fail
  refine (bMul_any x y hx hy _).mono ?_
  rintro e w' ⟨h, l, rfl, rfl, he, hl⟩
  have HE := hide he
  clear he
  go_wp2_with fail
  refine (bAdd_any l c 0 (by omega) _).mono ?_
  rintro e w' ⟨s, c', rfl, rfl, he, hl⟩
  have HF := hide he
  clear he
  obtain ⟨h1, h2⟩ := mulAdd_eq (x * y) c h l s c' M hc HE.out HF.out
  have H2 := hide h2
  clear h2
  go_wp2
  go_ret2
  exact ⟨h + c', s, rfl, rfl, H2.out, hl, h1⟩

end Go.Proofs.YtnajekpckbfcdaaGreatDoor

namespace Go.Proofs.YtnajekpckbfcdaaGreatDoor
open Go.RowKit

/-- A word as a value. -/
abbrev W64 (d : Nat) : Value := .int .u64 (d : Int)

/-- The cells with the words ws laid from place o on. -/
def putW : Array Value → Nat → List Nat → Array Value
  | cs, _, [] => cs
  | cs, o, d :: r => putW (cs.setIfInBounds o (W64 d)) (o + 1) r

theorem putW_size (ws : List Nat) : ∀ (cs : Array Value) (o : Nat), (putW cs o ws).size = cs.size := by
  induction ws with
  | nil => intro cs o; rfl
  | cons d r ih => intro cs o; rw [putW, ih, Array.size_setIfInBounds]

theorem putW_snoc (ws : List Nat) (d : Nat) : ∀ (cs : Array Value) (o : Nat), putW cs o (ws ++ [d]) = (putW cs o ws).setIfInBounds (o + ws.length) (W64 d) := by
  induction ws with
  | nil => intro cs o; rfl
  | cons x r ih => intro cs o; rw [List.cons_append, putW, ih, putW, List.length_cons, show o + 1 + r.length = o + (r.length + 1) from by omega]

theorem putW_out (ws : List Nat) : ∀ (cs : Array Value) (o j : Nat), (j < o ∨ o + ws.length ≤ j) → (putW cs o ws)[j]? = cs[j]? := by
  induction ws with
  | nil => intro cs o j _; rfl
  | cons d r ih =>
    intro cs o j h
    rw [List.length_cons] at h
    rw [putW, ih _ _ _ (by omega), Array.getElem?_setIfInBounds_ne (by omega)]

theorem putW_in (ws : List Nat) : ∀ (cs : Array Value) (o i : Nat), o + ws.length ≤ cs.size → (h : i < ws.length) → (putW cs o ws)[o + i]? = some (W64 ws[i]) := by
  induction ws with
  | nil => intro cs o i _ h; simp at h
  | cons d r ih =>
    intro cs o i hs h
    rw [List.length_cons] at hs
    have h' : i < r.length + 1 := by simpa using h
    rw [putW]
    cases i with
    | zero =>
      rw [putW_out _ _ _ _ (by omega), Nat.add_zero, Array.getElem?_setIfInBounds_self_of_lt (by omega)]
      rfl
    | succ i =>
      rw [show o + (i + 1) = (o + 1) + i from by omega, ih _ _ _ (by rw [Array.size_setIfInBounds]; omega) (by omega)]
      rfl

/-- From place o on the cells hold the words ws. -/
def Wd (cs : Array Value) (o : Nat) (ws : List Nat) : Prop := ∀ i (h : i < ws.length), cs[o + i]? = some (W64 ws[i])

theorem Wd.put (cs : Array Value) (o : Nat) (ws : List Nat) (h : o + ws.length ≤ cs.size) : Wd (putW cs o ws) o ws := fun i hi => putW_in ws cs o i h hi
theorem Wd.get {cs : Array Value} {o : Nat} {ws : List Nat} (h : Wd cs o ws) {i : Nat} (hi : i < ws.length) : cs[o + i]? = some (W64 (ws.getD i 0)) := by
  rw [h i hi]; simp [List.getD, hi]
theorem Wd.nil (cs : Array Value) (o : Nat) : Wd cs o [] := fun i h => by simp at h
theorem Wd.size {cs : Array Value} {o : Nat} {ws : List Nat} (h : Wd cs o ws) (hn : 0 < ws.length) : o + ws.length ≤ cs.size := by
  have h1 := h (ws.length - 1) (by omega)
  have := (Array.getElem?_eq_some_iff.1 h1).1
  omega
theorem Wd.of_put {cs : Array Value} {o : Nat} {ws vs : List Nat} {p : Nat} (h : Wd cs o ws) (ho : o + ws.length ≤ p ∨ p + vs.length ≤ o) : Wd (putW cs p vs) o ws := fun i hi => by
  rw [putW_out _ _ _ _ (by omega), h i hi]
theorem Wd.take {cs : Array Value} {o : Nat} {ws : List Nat} (h : Wd cs o ws) (k : Nat) : Wd cs o (ws.take k) := fun i hi => by
  rw [h i (by simp at hi; omega)]; simp
theorem Wd.drop {cs : Array Value} {o : Nat} {ws : List Nat} (h : Wd cs o ws) (k : Nat) : Wd cs (o + k) (ws.drop k) := fun i hi => by
  rw [List.length_drop] at hi
  rw [Nat.add_assoc, h (k + i) (by omega)]; simp
theorem Wd.app {cs : Array Value} {o : Nat} {ws vs : List Nat} (h : Wd cs o ws) (h' : Wd cs (o + ws.length) vs) : Wd cs o (ws ++ vs) := fun i hi => by
  rw [List.length_append] at hi
  by_cases hl : i < ws.length
  · rw [h i hl]; simp [hl]
  · have := h' (i - ws.length) (by omega)
    rw [show o + ws.length + (i - ws.length) = o + i from by omega] at this
    rw [this]; simp [List.getElem_append, hl]
theorem putW_append (ws vs : List Nat) : ∀ (cs : Array Value) (o : Nat), putW (putW cs o ws) (o + ws.length) vs = putW cs o (ws ++ vs) := by
  induction ws with
  | nil => intro cs o; rfl
  | cons d r ih => intro cs o; rw [putW, List.cons_append, putW, ← ih, List.length_cons, show o + (r.length + 1) = o + 1 + r.length from by omega]

/-- What is read at place k of the second row while the first k places of the first one have been written. -/
theorem read_kept {w wr : World} {zb zo xb xo k : Nat} {cs : Array Value} {out : List Nat} {v : Value} (hz : Blk w zb 161 cs) (hu : Upd [zb] w wr) (hr : Blk wr zb 161 (putW cs zo out)) (hl : out.length = k)
    (ha : xb = zb → zo ≤ xo) (hx : w.cell? ⟨xb, xo + k, none⟩ = some v) : wr.cell? ⟨xb, xo + k, none⟩ = some v := by
  by_cases e : xb = zb
  · subst e
    have := ha rfl
    rw [hr.cell, putW_out _ _ _ _ (by omega), ← hz.cell]
    exact hx
  · rw [hu.cell (p := ⟨xb, xo + k, none⟩) (lt_of_cell hx) (by simpa using e)]
    exact hx

theorem take_succ_getD (xs : List Nat) (k : Nat) (h : k < xs.length) : xs.take (k + 1) = xs.take k ++ [xs.getD k 0] := by
  rw [List.take_succ_eq_append_getElem h]; simp [List.getD, h]

/-- A step of a sum that is carried: k words out, carry c; then one word more. -/
theorem carry_step (out : List Nat) (k c d c' t T : Nat) (hk : out.length = k) (h : val out + 18446744073709551616 ^ k * c = T) (hd : d + 18446744073709551616 * c' = t + c) :
    val (out ++ [d]) + 18446744073709551616 ^ (k + 1) * c' = T + 18446744073709551616 ^ k * t := by
  rw [val_snoc, hk, ← h, Nat.pow_succ, Nat.mul_assoc]
  have : 18446744073709551616 ^ k * (d + 18446744073709551616 * c') = 18446744073709551616 ^ k * (t + c) := by rw [hd]
  rw [Nat.mul_add, Nat.mul_add] at this
  omega

end Go.Proofs.YtnajekpckbfcdaaGreatDoor

namespace Go.Proofs.YtnajekpckbfcdaaGreatDoor
open Go.RowKit

/-- What a loop over words leaves: a carry c; the row's words from zo on are 'out'; 'P out c' holds. -/
def VecOut (w : World) (zb zo n : Nat) (cs : Array Value) (P : List Nat → Nat → Prop) (e : Ending) (w' : World) : Prop :=
  ∃ (c : Nat) (out : List Nat), e = .returned (.int .u64 (c : Int)) ∧ c < 18446744073709551616 ∧ out.length = n ∧ (∀ d ∈ out, d < 18446744073709551616) ∧ P out c ∧ Blk w' zb 161 (putW cs zo out) ∧ Upd [zb] w w'

theorem mem_snoc {P : Nat → Prop} {out : List Nat} {d : Nat} (h : ∀ x ∈ out, P x) (hd : P d) : ∀ x ∈ out ++ [d], P x := by
  intro x hx
  rcases List.mem_append.1 hx with h1 | h1
  · exact h x h1
  · rw [List.mem_singleton.1 h1]; exact hd

set_option maxHeartbeats 1000000 in
theorem mulAddVWW_g_any (w : World) (zb zo xb xo n zc xc y r : Nat) (cs : Array Value) (xs : List Nat) (hn : n ≤ 1000000) (hxl : xs.length = n)
    (hz : Blk w zb 161 cs) (hzn : zo + n ≤ cs.size) (hx : ∀ i, i < n → w.cell? ⟨xb, xo + i, none⟩ = some (W64 (xs.getD i 0))) (ha : xb = zb → zo ≤ xo)
    (hxs : ∀ d ∈ xs, d < 18446744073709551616) (hy : y < 18446744073709551616) (hr : r < 18446744073709551616) :
    Calls Tryz.prog 263 #[.slice (some ⟨zb, zo, none⟩) n zc, .slice (some ⟨xb, xo, none⟩) n xc, .int .u64 y, .int .u64 r] w
      (VecOut w zb zo n cs (fun out c => val out + 18446744073709551616 ^ n * c = val xs * y + r)) := by
  have HL := hide hxl
  clear hxl
  go_enter Tryz.func263, Tryz.ntmps263
  go_wp2
  go_loopw [8, 19] (fun c i wr => ∃ (k ck : Nat) (out : List Nat), k ≤ n ∧ i = .int .i64 k ∧ c = .int .u64 ck ∧ ck < 18446744073709551616 ∧ Hid (out.length = k) ∧ Hid (∀ d ∈ out, d < 18446744073709551616) ∧
      Hid (val out + 18446744073709551616 ^ k * ck = val (xs.take k) * y + r) ∧ Blk wr zb 161 (putW cs zo out) ∧ Upd [zb] w wr)
    (fun _ i _ => n - (intOf i).toNat)
  case atStart =>
    exact ⟨0, r, [], Nat.zero_le _, rfl, rfl, hr, rfl, (fun d h => by simp at h), (by simp [Hid, val]), hz, Upd.refl _ _⟩
  case round =>
    obtain ⟨k, ck, out, hk, rfl, rfl, hck, hol, hos, hv, hb, hu⟩ := hrel
    by_cases hlt : k < n
    · obtain ⟨xk, hxk⟩ : ∃ xk, xs.getD k 0 = xk := ⟨_, rfl⟩
      have hxk' : xk < 18446744073709551616 := by
        rw [← hxk]
        have : k < xs.length := by rw [HL.out]; exact hlt
        simp only [List.getD, List.getElem?_eq_getElem this, Option.getD_some]
        exact hxs _ (List.getElem_mem _)
      have cx := read_kept hz hu hb hol.out ha (hx k hlt)
      rw [hxk] at cx
      have HX := hide hxk
      clear hxk
      have hsz : zo + k < (putW cs zo out).size := by rw [putW_size]; omega
      have cz := hb.at_ (Array.getElem?_eq_getElem hsz)
      have fz := hb.frozen (zo + k)
      go_wp2_with fail
      refine (mulAddWWW_any xk y ck hxk' hy hck _).mono ?_
      rintro e w' ⟨h, l, rfl, rfl, he, hl, hh⟩
      have HE := hide he
      clear he
      go_wp2
      go_roundw
      case rel =>
        refine ⟨k + 1, h, out ++ [l], by omega, by go_num, rfl, hh, ?_, mem_snoc hos.out hl, ?_, ?_, hu.setCell (by simp) _⟩
        · show (out ++ [l]).length = k + 1
          rw [List.length_append, hol.out]; rfl
        · show val (out ++ [l]) + 18446744073709551616 ^ (k + 1) * h = val (xs.take (k + 1)) * y + r
          rw [carry_step out k ck l h (xk * y) _ hol.out hv.out HE.out, take_succ_getD xs k (by rw [HL.out]; exact hlt), HX.out, val_snoc, List.length_take, HL.out, Nat.min_eq_left (by omega)]
          rw [Nat.add_mul, Nat.mul_assoc]; omega
        · rw [putW_snoc, hol.out]
          exact hb.set_ _ _
      case measure => simp [intOf]; omega
    · obtain rfl : k = n := by omega
      go_wp2
      go_ret
      refine ⟨ck, out, rfl, hck, hol.out, hos.out, ?_, hb, hu⟩
      have := hv.out
      rwa [List.take_of_length_le (by rw [HL.out]; exact Nat.le_refl _)] at this

theorem mulAddWWW_ex (x y c : Nat) (hx : x < 18446744073709551616) (hy : y < 18446744073709551616) (hc : c < 18446744073709551616) :
    ∃ h l : Nat, (∀ w, Calls Tryz.prog 284 #[.int .u64 x, .int .u64 y, .int .u64 c] w fun e w' => e = .returned (.tuple #[.int .u64 h, .int .u64 l]) ∧ w' = w) ∧
      l + 18446744073709551616 * h = x * y + c ∧ l < 18446744073709551616 ∧ h < 18446744073709551616 := by
  have M := mul_le64 x y hx hy
  refine ⟨(x * y + c) / 18446744073709551616, (x * y + c) % 18446744073709551616, fun w => (mulAddWWW_any x y c hx hy hc w).mono ?_, by omega, by omega, by omega⟩
  rintro e w' ⟨h, l, rfl, rfl, he, hl, hh⟩
  have e1 : h = (x * y + c) / 18446744073709551616 := by omega
  have e2 : l = (x * y + c) % 18446744073709551616 := by omega
  subst e1 e2
  exact ⟨rfl, rfl⟩

theorem bSub_ex (x y b : Nat) (hx : x < 18446744073709551616) (hy : y < 18446744073709551616) (hb : b ≤ 1) :
    ∃ d b' : Nat, (∀ w, Calls Tryz.prog 196 #[.int .u64 x, .int .u64 y, .int .u64 b] w fun e w' => e = .returned (.tuple #[.int .u64 d, .int .u64 b']) ∧ w' = w) ∧
      d + y + b = x + 18446744073709551616 * b' ∧ d < 18446744073709551616 ∧ b' ≤ 1 := by
  refine ⟨(x + 18446744073709551616 - y - b) % 18446744073709551616, if x < y + b then 1 else 0, fun w => (bSub_any x y b hx hy hb w).mono ?_, by split <;> omega, by omega, by split <;> omega⟩
  rintro e w' ⟨h, l, rfl, rfl, he, hl, hh⟩
  have e1 : h = (x + 18446744073709551616 - y - b) % 18446744073709551616 := by omega
  have e2 : l = if x < y + b then 1 else 0 := by split <;> omega
  subst e1 e2
  exact ⟨rfl, rfl⟩

theorem getD_lt (xs : List Nat) (hxs : ∀ d ∈ xs, d < 18446744073709551616) (k : Nat) : xs.getD k 0 < 18446744073709551616 := by
  simp only [List.getD]
  by_cases h : k < xs.length
  · simp only [List.getElem?_eq_getElem h, Option.getD_some]
    exact hxs _ (List.getElem_mem _)
  · simp [List.getElem?_eq_none (by omega : xs.length ≤ k)]

theorem addMul_eq (x m y h l s c' ck : Nat) (hx : x < 18446744073709551616) (M : y * m ≤ 18446744073709551615 * 18446744073709551615) (hck : ck < 18446744073709551616) (hl : l < 18446744073709551616)
    (hs : s < 18446744073709551616) (e1 : l + 18446744073709551616 * h = y * m + x) (e2 : s + 18446744073709551616 * c' = l + ck + 0) :
    c' + h < 18446744073709551616 ∧ s + 18446744073709551616 * (c' + h) = (y * m + x) + ck := by omega

set_option maxHeartbeats 1000000 in
theorem addMulVVWW_g_any (w : World) (zb zo xb xo yb yo n zc xc yc m a : Nat) (cs : Array Value) (xs ys : List Nat) (hn : n ≤ 1000000) (hxl : xs.length = n) (hyl : ys.length = n)
    (hz : Blk w zb 161 cs) (hzn : zo + n ≤ cs.size) (hx : ∀ i, i < n → w.cell? ⟨xb, xo + i, none⟩ = some (W64 (xs.getD i 0))) (ha : xb = zb → zo ≤ xo)
    (hy : ∀ i, i < n → w.cell? ⟨yb, yo + i, none⟩ = some (W64 (ys.getD i 0))) (hb : yb = zb → zo ≤ yo)
    (hxs : ∀ d ∈ xs, d < 18446744073709551616) (hys : ∀ d ∈ ys, d < 18446744073709551616) (hm : m < 18446744073709551616) (hr : a < 18446744073709551616) :
    Calls Tryz.prog 262 #[.slice (some ⟨zb, zo, none⟩) n zc, .slice (some ⟨xb, xo, none⟩) n xc, .slice (some ⟨yb, yo, none⟩) n yc, .int .u64 m, .int .u64 a] w
      (VecOut w zb zo n cs (fun out c => val out + 18446744073709551616 ^ n * c = val xs + val ys * m + a)) := by
  have HL := hide hxl
  have HM := hide hyl
  clear hxl hyl
  go_enter Tryz.func262, Tryz.ntmps262
  go_wp2
  go_loopw [10, 32] (fun c i wr => ∃ (k ck : Nat) (out : List Nat), k ≤ n ∧ i = .int .i64 k ∧ c = .int .u64 ck ∧ ck < 18446744073709551616 ∧ Hid (out.length = k) ∧ Hid (∀ d ∈ out, d < 18446744073709551616) ∧
      Hid (val out + 18446744073709551616 ^ k * ck = val (xs.take k) + val (ys.take k) * m + a) ∧ Blk wr zb 161 (putW cs zo out) ∧ Upd [zb] w wr)
    (fun _ i _ => n - (intOf i).toNat)
  case atStart =>
    exact ⟨0, a, [], Nat.zero_le _, rfl, rfl, hr, rfl, (fun d h => by simp at h), (by simp [Hid, val]), hz, Upd.refl _ _⟩
  case round =>
    obtain ⟨k, ck, out, hk, rfl, rfl, hck, hol, hos, hv, hbk, hu⟩ := hrel
    by_cases hlt : k < n
    · have hxk' := getD_lt xs hxs k
      have hyk' := getD_lt ys hys k
      have cx := read_kept hz hu hbk hol.out ha (hx k hlt)
      have cy := read_kept hz hu hbk hol.out hb (hy k hlt)
      obtain ⟨xk, hxk⟩ : ∃ xk, xs.getD k 0 = xk := ⟨_, rfl⟩
      obtain ⟨yk, hyk⟩ : ∃ yk, ys.getD k 0 = yk := ⟨_, rfl⟩
      rw [hxk] at cx hxk'
      rw [hyk] at cy hyk'
      have HX := hide hxk
      have HY := hide hyk
      clear hxk hyk
      have hsz : zo + k < (putW cs zo out).size := by rw [putW_size]; omega
      have cz := hbk.at_ (Array.getElem?_eq_getElem hsz)
      have fz := hbk.frozen (zo + k)
      obtain ⟨h, l, C1, e1, hl, hh⟩ := mulAddWWW_ex yk m xk hyk' hm hxk'
      have E1 := hide e1
      clear e1
      have C1 := hide C1
      have b0 : (0 : Int) ≤ (k : Int) := Int.natCast_nonneg _
      have b1 : (k : Int) < (n : Int) := by omega
      go_wp2_with fail
      go_quiet ((go_at_call 284; exact Calls.quiet_of_same (C1.out _)))
      go_wp2_with fail
      refine (bAdd_any l ck 0 (by omega) _).mono ?_
      rintro e w' ⟨s, c', rfl, rfl, he, hs⟩
      obtain ⟨g1, g2⟩ := addMul_eq xk m yk h l s c' ck hxk' (mul_le64 yk m hyk' hm) hck hl hs E1.out he
      have G2 := hide g2
      clear g2 he
      go_wp2
      go_roundw
      case rel =>
        refine ⟨k + 1, c' + h, out ++ [s], by omega, by go_num, rfl, g1, ?_, mem_snoc hos.out hs, ?_, ?_, ?_⟩
        · show (out ++ [s]).length = k + 1
          rw [List.length_append, hol.out]; rfl
        · show val (out ++ [s]) + 18446744073709551616 ^ (k + 1) * (c' + h) = val (xs.take (k + 1)) + val (ys.take (k + 1)) * m + a
          rw [carry_step out k ck s (c' + h) (yk * m + xk) _ hol.out hv.out G2.out, take_succ_getD xs k (by rw [HL.out]; exact hlt), take_succ_getD ys k (by rw [HM.out]; exact hlt), HX.out, HY.out, val_snoc, val_snoc,
            List.length_take, List.length_take, HL.out, HM.out, Nat.min_eq_left (by omega)]
          rw [Nat.add_mul, Nat.mul_assoc, Nat.mul_add]; omega
        · rw [putW_snoc, hol.out]
          exact (hbk.drewN _).set_ _ _
        · exact (hu.drewN _).setCell (by simp) _
      case measure => simp [intOf]; omega
    · obtain rfl : k = n := by omega
      go_wp2
      go_ret
      refine ⟨ck, out, rfl, hck, hol.out, hos.out, ?_, hbk, hu⟩
      have := hv.out
      have tX : xs.take k = xs := List.take_of_length_le (by rw [HL.out]; exact Nat.le_refl _)
      have tY : ys.take k = ys := List.take_of_length_le (by rw [HM.out]; exact Nat.le_refl _)
      rw [tX, tY] at this
      exact this

theorem borrow_step (out : List Nat) (k b d b' x y X Y X' Y' : Nat) (hk : out.length = k) (h : val out + Y = X + 18446744073709551616 ^ k * b) (hd : d + y + b = x + 18446744073709551616 * b')
    (hx : X' = X + 18446744073709551616 ^ k * x) (hy : Y' = Y + 18446744073709551616 ^ k * y) : val (out ++ [d]) + Y' = X' + 18446744073709551616 ^ (k + 1) * b' := by
  rw [val_snoc, hk, hx, hy, Nat.pow_succ, Nat.mul_assoc]
  have : 18446744073709551616 ^ k * (d + y + b) = 18446744073709551616 ^ k * (x + 18446744073709551616 * b') := by rw [hd]
  rw [Nat.mul_add, Nat.mul_add, Nat.mul_add] at this
  omega
set_option maxHeartbeats 1000000 in
theorem subVV_g_any (w : World) (zb zo xb xo yb yo n zc xc yc : Nat) (cs : Array Value) (xs ys : List Nat) (hn : n ≤ 1000000) (hxl : xs.length = n) (hyl : ys.length = n)
    (hz : Blk w zb 161 cs) (hzn : zo + n ≤ cs.size) (hx : ∀ i, i < n → w.cell? ⟨xb, xo + i, none⟩ = some (W64 (xs.getD i 0))) (ha : xb = zb → zo ≤ xo)
    (hy : ∀ i, i < n → w.cell? ⟨yb, yo + i, none⟩ = some (W64 (ys.getD i 0))) (hb : yb = zb → zo ≤ yo)
    (hxs : ∀ d ∈ xs, d < 18446744073709551616) (hys : ∀ d ∈ ys, d < 18446744073709551616) :
    Calls Tryz.prog 195 #[.slice (some ⟨zb, zo, none⟩) n zc, .slice (some ⟨xb, xo, none⟩) n xc, .slice (some ⟨yb, yo, none⟩) n yc] w
      (VecOut w zb zo n cs (fun out c => val out + val ys = val xs + 18446744073709551616 ^ n * c ∧ c ≤ 1)) := by
  have HL := hide hxl
  have HM := hide hyl
  clear hxl hyl
  go_enter Tryz.func195, Tryz.ntmps195
  go_wp2
  go_loopw [6, 25] (fun c i wr => ∃ (k ck : Nat) (out : List Nat), k ≤ n ∧ i = .int .i64 k ∧ c = .int .u64 ck ∧ ck ≤ 1 ∧ Hid (out.length = k) ∧ Hid (∀ d ∈ out, d < 18446744073709551616) ∧
      Hid (val out + val (ys.take k) = val (xs.take k) + 18446744073709551616 ^ k * ck) ∧ Blk wr zb 161 (putW cs zo out) ∧ Upd [zb] w wr)
    (fun _ i _ => n - (intOf i).toNat)
  case atStart =>
    exact ⟨0, 0, [], Nat.zero_le _, rfl, rfl, by omega, rfl, (fun d h => by simp at h), (by simp [Hid, val]), hz, Upd.refl _ _⟩
  case round =>
    obtain ⟨k, ck, out, hk, rfl, rfl, hck, hol, hos, hv, hbk, hu⟩ := hrel
    by_cases hlt : k < n
    · have hxk' := getD_lt xs hxs k
      have hyk' := getD_lt ys hys k
      have cx := read_kept hz hu hbk hol.out ha (hx k hlt)
      have cy := read_kept hz hu hbk hol.out hb (hy k hlt)
      obtain ⟨xk, hxk⟩ : ∃ xk, xs.getD k 0 = xk := ⟨_, rfl⟩
      obtain ⟨yk, hyk⟩ : ∃ yk, ys.getD k 0 = yk := ⟨_, rfl⟩
      rw [hxk] at cx hxk'
      rw [hyk] at cy hyk'
      have HX := hide hxk
      have HY := hide hyk
      clear hxk hyk
      have hsz : zo + k < (putW cs zo out).size := by rw [putW_size]; omega
      have cz := hbk.at_ (Array.getElem?_eq_getElem hsz)
      have fz := hbk.frozen (zo + k)
      obtain ⟨s, c', C1, e1, hs, hc1⟩ := bSub_ex xk yk ck hxk' hyk' hck
      have E1 := hide e1
      clear e1
      have C1 := hide C1
      have b0 : (0 : Int) ≤ (k : Int) := Int.natCast_nonneg _
      have b1 : (k : Int) < (n : Int) := by omega
      go_wp2_with fail
      go_quiet ((go_at_call 196; exact Calls.quiet_of_same (C1.out _)))
      go_wp2
      go_roundw
      case rel =>
        refine ⟨k + 1, c', out ++ [s], by omega, by go_num, rfl, hc1, ?_, mem_snoc hos.out hs, ?_, ?_, ?_⟩
        · show (out ++ [s]).length = k + 1
          rw [List.length_append, hol.out]; rfl
        · have tx := take_succ_getD xs k (by rw [HL.out]; exact hlt)
          have ty := take_succ_getD ys k (by rw [HM.out]; exact hlt)
          rw [HX.out] at tx
          rw [HY.out] at ty
          have vx : val (xs.take (k + 1)) = val (xs.take k) + 18446744073709551616 ^ k * xk := by rw [tx, val_snoc, List.length_take, HL.out, Nat.min_eq_left (by omega)]
          have vy : val (ys.take (k + 1)) = val (ys.take k) + 18446744073709551616 ^ k * yk := by rw [ty, val_snoc, List.length_take, HM.out, Nat.min_eq_left (by omega)]
          exact borrow_step out k ck s c' xk yk _ _ _ _ hol.out hv.out E1.out vx vy
        · rw [putW_snoc, hol.out]
          exact (hbk.drewN _).set_ _ _
        · exact (hu.drewN _).setCell (by simp) _
      case measure => simp [intOf]; omega
    · obtain rfl : k = n := by omega
      go_wp2
      go_ret
      refine ⟨ck, out, rfl, by omega, hol.out, hos.out, ⟨?_, hck⟩, hbk, hu⟩
      have := hv.out
      have tX : xs.take k = xs := List.take_of_length_le (by rw [HL.out]; exact Nat.le_refl _)
      have tY : ys.take k = ys := List.take_of_length_le (by rw [HM.out]; exact Nat.le_refl _)
      rw [tX, tY] at this
      exact this

end Go.Proofs.YtnajekpckbfcdaaGreatDoor

namespace Go.Proofs.YtnajekpckbfcdaaGreatDoor
open Go.RowKit

/-- The words of a number, the least first. -/
def wo (n : Nat) : List Nat := if h : n = 0 then [] else n % 18446744073709551616 :: wo (n / 18446744073709551616)
termination_by n
decreasing_by exact Nat.div_lt_self (by omega) (by omega)

theorem wo_zero : wo 0 = [] := by rw [wo]; simp
theorem wo_pos {n : Nat} (h : n ≠ 0) : wo n = n % 18446744073709551616 :: wo (n / 18446744073709551616) := by rw [wo]; simp [h]
theorem wo_lt : ∀ n, ∀ d ∈ wo n, d < 18446744073709551616 := by
  intro n
  induction n using Nat.strongRecOn with
  | _ n ih =>
    intro d hd
    by_cases h : n = 0
    · rw [h, wo_zero] at hd; simp at hd
    · rw [wo_pos h] at hd
      rcases List.mem_cons.1 hd with h1 | h1
      · omega
      · exact ih _ (by omega) d h1
theorem val_wo (n : Nat) : val (wo n) = n := by
  induction n using Nat.strongRecOn with
  | _ n ih =>
    by_cases h : n = 0
    · rw [h, wo_zero]; rfl
    · rw [wo_pos h, val_cons, ih _ (by omega)]; omega

/-- No word 0 at the top. -/
def Nrm (ws : List Nat) : Prop := 0 < ws.length → ws.getD (ws.length - 1) 0 ≠ 0

theorem Nrm.wo_val : ∀ (ws : List Nat), Nrm ws → (∀ d ∈ ws, d < 18446744073709551616) → wo (val ws) = ws := by
  intro ws
  induction ws with
  | nil => intro _ _; exact wo_zero
  | cons d r ih =>
    intro hn hl
    have hd := hl d (List.mem_cons_self ..)
    have hr : Nrm r := by
      intro h0
      have := hn (by simp)
      rw [List.length_cons, show r.length + 1 - 1 = (r.length - 1) + 1 from by omega, List.getD_cons_succ] at this
      exact this
    have ih' := ih hr (fun x hx => hl x (List.mem_cons_of_mem _ hx))
    have hp : val (d :: r) ≠ 0 := by
      rw [val_cons]
      intro h0
      have h1 : d = 0 := by omega
      have h2 : val r = 0 := by omega
      rw [h2, wo_zero] at ih'
      subst ih'
      subst h1
      exact hn (by simp) (by simp)
    rw [wo_pos hp, val_cons]
    have e1 : (d + 18446744073709551616 * val r) % 18446744073709551616 = d := by omega
    have e2 : (d + 18446744073709551616 * val r) / 18446744073709551616 = val r := by omega
    rw [e1, e2, ih']
theorem wo_inj {ws : List Nat} {n : Nat} (hn : Nrm ws) (hl : ∀ d ∈ ws, d < 18446744073709551616) (hv : val ws = n) : ws = wo n := by rw [← hv, hn.wo_val ws hl]
theorem wo_len_le {n k : Nat} (h : n < 18446744073709551616 ^ k) : (wo n).length ≤ k := by
  induction k generalizing n with
  | zero => have : n = 0 := by simpa using h
            rw [this, wo_zero]; simp
  | succ k ih =>
    by_cases h0 : n = 0
    · rw [h0, wo_zero]; simp
    · rw [wo_pos h0, List.length_cons]
      have : n / 18446744073709551616 < 18446744073709551616 ^ k := by
        rw [Nat.pow_succ] at h
        exact Nat.div_lt_of_lt_mul (by rw [Nat.mul_comm]; exact h)
      have := ih this
      omega
theorem wo_len_pos {n : Nat} (h : n ≠ 0) : 0 < (wo n).length := by rw [wo_pos h]; simp
theorem wo_one {n : Nat} (h0 : n ≠ 0) (h : n < 18446744073709551616) : wo n = [n] := by
  rw [wo_pos h0, Nat.mod_eq_of_lt h, Nat.div_eq_of_lt h, wo_zero]

/-- The blocks of an address that may lack. -/
def bof : Option Addr → List Nat
  | none => []
  | some a => [a.block]

/-- A slice of words that begins at the head of a row: its words are ws. -/
def NatS (w : World) (A : Option Addr) (L C : Nat) (ws : List Nat) : Prop :=
  ws.length = L ∧ (∀ d ∈ ws, d < 18446744073709551616) ∧ L ≤ C ∧ C ≤ 100000 ∧
    ((A = none ∧ L = 0 ∧ C = 0) ∨ ∃ b cs, A = some ⟨b, 0, none⟩ ∧ Blk w b 161 cs ∧ cs.size = C ∧ 0 < C ∧ Wd cs 0 ws)

section
variable {w w' : World} {A : Option Addr} {L C : Nat} {ws : List Nat} {S : List Nat}
theorem NatS.nil (w : World) : NatS w none 0 0 [] := ⟨rfl, by simp, Nat.le_refl _, by omega, .inl ⟨rfl, rfl, rfl⟩⟩
theorem NatS.upd (h : NatS w A L C ws) (hu : Upd S w w') (hs : ∀ b ∈ bof A, b ∉ S) : NatS w' A L C ws := by
  obtain ⟨h1, h2, h3, h4, h5⟩ := h
  refine ⟨h1, h2, h3, h4, ?_⟩
  rcases h5 with h5 | ⟨b, cs, rfl, hb, h6, h7, h8⟩
  · exact .inl h5
  · exact .inr ⟨b, cs, rfl, hb.upd hu (hs b (by simp [bof])), h6, h7, h8⟩
theorem NatS.lt (h : NatS w A L C ws) : ∀ b ∈ bof A, b < w.heap.size := by
  obtain ⟨h1, h2, h3, h4, h5⟩ := h
  intro b hb
  rcases h5 with ⟨rfl, _⟩ | ⟨b', cs, rfl, hb', _⟩
  · simp [bof] at hb
  · simp [bof] at hb; subst hb; exact hb'.lt
theorem NatS.drew (h : NatS w A L C ws) : NatS w.drew A L C ws := h.upd (S := []) ((Upd.refl _ _).drew) (by simp)
theorem NatS.drewN (h : NatS w A L C ws) (n : Nat) : NatS (w.drewN n) A L C ws := h.upd (S := []) ((Upd.refl _ _).drewN n) (by simp)
theorem NatS.alloc (h : NatS w A L C ws) (o : Obj) : NatS (w.alloc o) A L C ws := h.upd (S := []) ((Upd.refl _ _).alloc o) (by simp)
theorem NatS.below {B : Nat} (h : NatS w A L C ws) (hu : Below w.heap.size w w') : NatS w' A L C ws := h.upd (S := []) (Upd.of_below hu []) (by simp)
theorem NatS.setCell (h : NatS w A L C ws) {p : Addr} (hp : p.block ∉ bof A) (u : Value) : NatS (w.setCell p u) A L C ws :=
  h.upd (S := [p.block]) ((Upd.refl _ _).setCell (by simp) u) (fun b hb => by simp; rintro rfl; exact hp hb)
/-- Where there is a word, there is a row. -/
theorem NatS.row (h : NatS w A L C ws) (hC : 0 < C) : ∃ b cs, A = some ⟨b, 0, none⟩ ∧ Blk w b 161 cs ∧ cs.size = C ∧ Wd cs 0 ws := by
  obtain ⟨h1, h2, h3, h4, h5⟩ := h
  rcases h5 with ⟨_, _, h⟩ | ⟨b, cs, hA, hb, h6, h7, h8⟩
  · omega
  · exact ⟨b, cs, hA, hb, h6, h8⟩
theorem NatS.cells {b : Nat} (h : NatS w (some ⟨b, 0, none⟩) L C ws) : ∀ i, i < L → w.cell? ⟨b, i, none⟩ = some (W64 (ws.getD i 0)) := by
  obtain ⟨h1, h2, h3, h4, h5⟩ := h
  intro i hi
  rcases h5 with ⟨h, _⟩ | ⟨b', cs, hA, hb, h6, h7, h8⟩
  · cases h
  · injection hA with hA
    injection hA with hA
    subst hA
    have := h8.get (i := i) (by omega)
    rw [Nat.zero_add] at this
    exact hb.at_ this
theorem NatS.mk (b : Nat) (cs : Array Value) (hb : Blk w b 161 cs) (hw : Wd cs 0 ws) (hd : ∀ d ∈ ws, d < 18446744073709551616) (h1 : ws.length ≤ cs.size) (h2 : 0 < cs.size) (h3 : cs.size ≤ 100000) :
    NatS w (some ⟨b, 0, none⟩) ws.length cs.size ws := ⟨rfl, hd, h1, h3, .inr ⟨b, cs, rfl, hb, rfl, h2, hw⟩⟩
end

/-- What a function on nats hands back: a number, in z's row or a new one. -/
def NatRes (w : World) (Z : Option Addr) (m : Nat) (e : Ending) (w' : World) : Prop :=
  ∃ A L C, e = .returned (.slice A L C) ∧ NatS w' A L C (wo m) ∧ Upd (bof Z) w w' ∧ ∀ b ∈ bof A, b ∈ bof Z ∨ w.heap.size ≤ b

end Go.Proofs.YtnajekpckbfcdaaGreatDoor
