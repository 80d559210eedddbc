/- DERIVED: THE SHELF's CONTRACTS AT THIS DUMP, IN PLAIN WORDS (tools/lay-plain.mjs out of 'TryzShelf.lean', which tools/lay-shelf.mjs wrote): THE SAME DECLARATIONS UNDER THE SAME NAMES: 'import', 'namespace', 'open', 'def', 'theorem' AND NOTHING ELSE: no command of the shelf's: FOR A HAND-IN. Each laying: the table of numbers ('.._ren') and one theorem, a field a fact of the dump's own or the kernel's comparison; each contract: ONE APPLICATION. -/
import Derived.Shelf.Small.Strs
import Derived.Shelf.Unicode.Latin
import Derived.Shelf.Bits.Mul64
import Derived.Test.YtgfkdjmoflbmdaaGreatDoorProg
namespace Go.Proofs
open Go.Shelf
def Tryz.lays213_ren : Go.Shelf.Ren := ⟨fun | 213 => 135 | 265 => 150 | n => n, fun | 9 => 9 | 3 => 3 | n => n, fun | n => n⟩
theorem Tryz.lays213 : Go.Proofs.Lays.n213 Tryz.prog Tryz.lays213_ren := {
  mixed := by kernel_rfl
  f213 := Tryz.func135.trans (congrArg some (by kernel_rfl))
  f265 := Tryz.func150.trans (congrArg some (by kernel_rfl))
  t3 := Tryz.underlying3
  a3 := Tryz.isAgg3
  z3 := Tryz.sizeOf3
  v3 := Tryz.zeroValue3
  t9 := Tryz.underlying9
  a9 := Tryz.isAgg9
  z9 := Tryz.sizeOf9
  v9 := Tryz.zeroValue9 }
open Go.RowKit in
/-- internal/bytealg.CompareString (what strings.Compare calls): IT RETURNS 'Lib.compareBytes a b'; the world is as it was. (LAID: no walk: one application.) -/
theorem Tryz.bytealg_CompareString (a b : ByteArray) (w : World) :
    Calls Tryz.prog 135 #[.string a, .string b] w fun e w' => e = .returned (.int .i64 (Lib.compareBytes a.data.toList b.data.toList)) ∧ w' = w := Any.bytealg_CompareString Tryz.lays213 a b w
def Tryz.lays106_ren : Go.Shelf.Ren := ⟨fun | 106 => 116 | 213 => 135 | 265 => 150 | n => n, fun | 9 => 9 | 3 => 3 | n => n, fun | n => n⟩
theorem Tryz.lays106 : Go.Proofs.Lays.n106 Tryz.prog Tryz.lays106_ren := {
  mixed := by kernel_rfl
  f106 := Tryz.func116.trans (congrArg some (by kernel_rfl))
  f213 := Tryz.func135.trans (congrArg some (by kernel_rfl))
  f265 := Tryz.func150.trans (congrArg some (by kernel_rfl))
  t3 := Tryz.underlying3
  a3 := Tryz.isAgg3
  z3 := Tryz.sizeOf3
  v3 := Tryz.zeroValue3
  t9 := Tryz.underlying9
  a9 := Tryz.isAgg9
  z9 := Tryz.sizeOf9
  v9 := Tryz.zeroValue9 }
open Go.RowKit in
/-- strings.Compare: "Compare returns an integer comparing two strings lexicographically. The result will be 0 if a == b, -1 if a < b, and +1 if a > b.": IT RETURNS 'Lib.compareBytes a b'; the world is as it was. (LAID: no walk: one application.) -/
theorem Tryz.strings_Compare (a b : ByteArray) (w : World) :
    Calls Tryz.prog 116 #[.string a, .string b] w fun e w' => e = .returned (.int .i64 (Lib.compareBytes a.data.toList b.data.toList)) ∧ w' = w := Any.strings_Compare Tryz.lays106 a b w
def Tryz.lays204_ren : Go.Shelf.Ren := ⟨fun | 204 => 139 | 262 => 156 | 313 => 167 | 274 => 185 | 275 => 186 | n => n, fun | 21 => 21 | 4 => 4 | 3 => 3 | 162 => 192 | 203 => 190 | 160 => 213 | 46 => 113 | 0 => 0 | 208 => 238 | 51 => 212 | 206 => 236 | n => n, fun | 13 => 6 | n => n⟩
theorem Tryz.lays204 : Go.Proofs.Lays.n204 Tryz.prog Tryz.lays204_ren := {
  mixed := by kernel_rfl
  f204 := Tryz.func139.trans (congrArg some (by kernel_rfl))
  f262 := Tryz.func156.trans (congrArg some (by kernel_rfl))
  f274 := Tryz.func185.trans (congrArg some (by kernel_rfl))
  f275 := Tryz.func186.trans (congrArg some (by kernel_rfl))
  f313 := Tryz.func167.trans (congrArg some (by kernel_rfl))
  t0 := Tryz.underlying0
  a0 := Tryz.isAgg0
  z0 := Tryz.sizeOf0
  v0 := Tryz.zeroValue0
  t3 := Tryz.underlying3
  a3 := Tryz.isAgg3
  z3 := Tryz.sizeOf3
  v3 := Tryz.zeroValue3
  t4 := Tryz.underlying4
  a4 := Tryz.isAgg4
  z4 := Tryz.sizeOf4
  v4 := Tryz.zeroValue4
  t21 := Tryz.underlying21
  a21 := Tryz.isAgg21
  z21 := Tryz.sizeOf21
  v21 := Tryz.zeroValue21
  t46 := Tryz.underlying113
  a46 := Tryz.isAgg113
  z46 := Tryz.sizeOf113
  v46 := Tryz.zeroValue113
  t51 := Tryz.underlying212
  a51 := Tryz.isAgg212
  z51 := Tryz.sizeOf212
  v51 := Tryz.zeroValue212
  t160 := Tryz.underlying213
  a160 := Tryz.isAgg213
  z160 := Tryz.sizeOf213
  v160 := Tryz.zeroValue213
  t162 := Tryz.underlying192
  a162 := Tryz.isAgg192
  z162 := Tryz.sizeOf192
  v162 := Tryz.zeroValue192
  t203 := Tryz.underlying190
  a203 := Tryz.isAgg190
  z203 := Tryz.sizeOf190
  v203 := Tryz.zeroValue190
  t206 := Tryz.underlying236
  a206 := Tryz.isAgg236
  z206 := Tryz.sizeOf236
  v206 := Tryz.zeroValue236
  t208 := Tryz.underlying238
  a208 := Tryz.isAgg238
  z208 := Tryz.sizeOf238
  v208 := Tryz.zeroValue238
  g13 := by kernel_rfl }
open Go.RowKit Go.Lib in
theorem Tryz.unicode_ToLower (r : Int) (w : World) (h : r ≤ 127) :
    Calls Tryz.prog 139 #[.int .i32 r] w fun e w' => e = .returned (.int .i32 (Lib.toLowerR r)) ∧ w' = w := Any.unicode_ToLower Tryz.lays204 r w h
def Tryz.lays264_ren : Go.Shelf.Ren := ⟨fun | 264 => 264 | n => n, fun | 53 => 136 | 46 => 113 | n => n, fun | n => n⟩
theorem Tryz.lays264 : Go.Proofs.Lays.n264 Tryz.prog Tryz.lays264_ren := {
  mixed := by kernel_rfl
  f264 := Tryz.func264.trans (congrArg some (by kernel_rfl))
  t46 := Tryz.underlying113
  a46 := Tryz.isAgg113
  z46 := Tryz.sizeOf113
  v46 := Tryz.zeroValue113
  t53 := Tryz.underlying136
  a53 := Tryz.isAgg136
  z53 := Tryz.sizeOf136
  v53 := Tryz.zeroValue136 }
open Go.RowKit Go.Lib in
theorem Tryz.bits_Mul64 (x y : Nat) (hx : x < 18446744073709551616) (hy : y < 18446744073709551616) (w : World) :
    Calls Tryz.prog 264 #[.int .u64 x, .int .u64 y] w fun e w' => e = .returned (.tuple #[.int .u64 ((x * y / 18446744073709551616 : Nat) : Int), .int .u64 ((x * y % 18446744073709551616 : Nat) : Int)]) ∧ w' = w := Any.bits_Mul64 Tryz.lays264 x y hx hy w
def Tryz.lays212_ren : Go.Shelf.Ren := ⟨fun | 212 => 229 | 263 => 263 | 264 => 264 | n => n, fun | 46 => 113 | 51 => 212 | 146 => 281 | 53 => 136 | 148 => 283 | n => n, fun | n => n⟩
theorem Tryz.lays212 : Go.Proofs.Lays.n212 Tryz.prog Tryz.lays212_ren := {
  mixed := by kernel_rfl
  f212 := Tryz.func229.trans (congrArg some (by kernel_rfl))
  f263 := Tryz.func263.trans (congrArg some (by kernel_rfl))
  f264 := Tryz.func264.trans (congrArg some (by kernel_rfl))
  t46 := Tryz.underlying113
  a46 := Tryz.isAgg113
  z46 := Tryz.sizeOf113
  v46 := Tryz.zeroValue113
  t51 := Tryz.underlying212
  a51 := Tryz.isAgg212
  z51 := Tryz.sizeOf212
  v51 := Tryz.zeroValue212
  t53 := Tryz.underlying136
  a53 := Tryz.isAgg136
  z53 := Tryz.sizeOf136
  v53 := Tryz.zeroValue136
  t146 := Tryz.underlying281
  a146 := Tryz.isAgg281
  z146 := Tryz.sizeOf281
  v146 := Tryz.zeroValue281
  t148 := Tryz.underlying283
  a148 := Tryz.isAgg283
  z148 := Tryz.sizeOf283
  v148 := Tryz.zeroValue283 }
open Go.RowKit Go.Lib in
/-- math/bits.Mul: "Mul returns the full-width product of x and y": on a machine of 64 bits: Mul64's. (LAID: no walk: one application.) -/
theorem Tryz.bits_Mul (x y : Nat) (hx : x < 18446744073709551616) (hy : y < 18446744073709551616) (w : World) :
    Calls Tryz.prog 229 #[.int .u64 x, .int .u64 y] w fun e w' => e = .returned (.tuple #[.int .u64 ((x * y / 18446744073709551616 : Nat) : Int), .int .u64 ((x * y % 18446744073709551616 : Nat) : Int)]) ∧ w' = w := Any.bits_Mul Tryz.lays212 x y hx hy w
end Go.Proofs
