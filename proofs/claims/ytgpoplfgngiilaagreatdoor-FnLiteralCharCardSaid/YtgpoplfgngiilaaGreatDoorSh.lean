/-
  DERIVED: THE SHELF's CONTRACTS AT THIS DUMP, IN PLAIN WORDS (tools/lay-plain.mjs out of 'TryzShelf.lean', which tools/lay-shelf.mjs wrote): THE SAME DECLARATIONS UNDER THE SAME NAMES: 'import', 'namespace', 'open', 'def', 'theorem' AND NOTHING ELSE: no command of the shelf's: FOR A HAND-IN. Each laying: the table of numbers ('.._ren') and one theorem, a field a fact of the dump's own or the kernel's comparison; each contract: ONE APPLICATION.
-/
import Derived.Shelf.Small.Utf8
import Derived.Shelf.Bits.Mul64
import Derived.Shelf.Unicode.DecodeSlow
import Derived.Shelf.Unicode.DecodeAny
import Derived.Test.YtgpoplfgngiilaaGreatDoorProg
namespace Go.Proofs
open Go.Shelf
def Tryz.lays119_ren : Go.Shelf.Ren := ⟨fun | 119 => 77 | n => n, fun | 21 => 21 | 4 => 4 | n => n, fun | n => n⟩
theorem Tryz.lays119 : Go.Proofs.Lays.n119 Tryz.prog Tryz.lays119_ren := {
  mixed := by kernel_rfl
  f119 := Tryz.func77.trans (congrArg some (by kernel_rfl))
  t4 := Tryz.underlying4
  a4 := Tryz.isAgg4
  z4 := Tryz.sizeOf4
  v4 := Tryz.zeroValue4
  t21 := Tryz.underlying21
  a21 := Tryz.isAgg21
  z21 := Tryz.sizeOf21
  v21 := Tryz.zeroValue21 }
/-- utf8.ValidRune: "ValidRune reports whether r can be legally encoded as UTF-8. Code points that are out of range or a surrogate half are illegal.": IT RETURNS 'Lib.validRune r'; the world is as it was. (LAID: no walk: one application.) -/
theorem Tryz.utf8_ValidRune (r : Int) (w : World) :
    Calls Tryz.prog 77 #[.int .i32 r] w fun e w' => e = .returned (.bool (Lib.validRune r)) ∧ w' = w := Any.utf8_ValidRune Tryz.lays119 r w
def Tryz.lays264_ren : Go.Shelf.Ren := ⟨fun | 264 => 279 | n => n, fun | 53 => 47 | 46 => 50 | n => n, fun | n => n⟩
theorem Tryz.lays264 : Go.Proofs.Lays.n264 Tryz.prog Tryz.lays264_ren := {
  mixed := by kernel_rfl
  f264 := Tryz.func279.trans (congrArg some (by kernel_rfl))
  t46 := Tryz.underlying50
  a46 := Tryz.isAgg50
  z46 := Tryz.sizeOf50
  v46 := Tryz.zeroValue50
  t53 := Tryz.underlying47
  a53 := Tryz.isAgg47
  z53 := Tryz.sizeOf47
  v53 := Tryz.zeroValue47 }
open Go.RowKit Go.Lib in
theorem Tryz.bits_Mul64 (x y : Nat) (hx : x < 18446744073709551616) (hy : y < 18446744073709551616) (w : World) :
    Calls Tryz.prog 279 #[.int .u64 x, .int .u64 y] w fun e w' => e = .returned (.tuple #[.int .u64 ((x * y / 18446744073709551616 : Nat) : Int), .int .u64 ((x * y % 18446744073709551616 : Nat) : Int)]) ∧ w' = w := Any.bits_Mul64 Tryz.lays264 x y hx hy w
def Tryz.lays212_ren : Go.Shelf.Ren := ⟨fun | 212 => 253 | 263 => 278 | 264 => 279 | n => n, fun | 46 => 50 | 51 => 41 | 146 => 333 | 53 => 47 | 148 => 335 | n => n, fun | n => n⟩
theorem Tryz.lays212 : Go.Proofs.Lays.n212 Tryz.prog Tryz.lays212_ren := {
  mixed := by kernel_rfl
  f212 := Tryz.func253.trans (congrArg some (by kernel_rfl))
  f263 := Tryz.func278.trans (congrArg some (by kernel_rfl))
  f264 := Tryz.func279.trans (congrArg some (by kernel_rfl))
  t46 := Tryz.underlying50
  a46 := Tryz.isAgg50
  z46 := Tryz.sizeOf50
  v46 := Tryz.zeroValue50
  t51 := Tryz.underlying41
  a51 := Tryz.isAgg41
  z51 := Tryz.sizeOf41
  v51 := Tryz.zeroValue41
  t53 := Tryz.underlying47
  a53 := Tryz.isAgg47
  z53 := Tryz.sizeOf47
  v53 := Tryz.zeroValue47
  t146 := Tryz.underlying333
  a146 := Tryz.isAgg333
  z146 := Tryz.sizeOf333
  v146 := Tryz.zeroValue333
  t148 := Tryz.underlying335
  a148 := Tryz.isAgg335
  z148 := Tryz.sizeOf335
  v148 := Tryz.zeroValue335 }
open Go.RowKit Go.Lib in
/-- math/bits.Mul: "Mul returns the full-width product of x and y": on a machine of 64 bits: Mul64's. (LAID: no walk: one application.) -/
theorem Tryz.bits_Mul (x y : Nat) (hx : x < 18446744073709551616) (hy : y < 18446744073709551616) (w : World) :
    Calls Tryz.prog 253 #[.int .u64 x, .int .u64 y] w fun e w' => e = .returned (.tuple #[.int .u64 ((x * y / 18446744073709551616 : Nat) : Int), .int .u64 ((x * y % 18446744073709551616 : Nat) : Int)]) ∧ w' = w := Any.bits_Mul Tryz.lays212 x y hx hy w
def Tryz.lays260_ren : Go.Shelf.Ren := ⟨fun | 260 => 120 | n => n, fun | 9 => 9 | 21 => 21 | 3 => 3 | 4 => 4 | 5 => 5 | 119 => 254 | 0 => 0 | 46 => 50 | 139 => 257 | 138 => 256 | n => n, fun | 3 => 6 | 4 => 7 | n => n⟩
theorem Tryz.lays260 : Go.Proofs.Lays.n260 Tryz.prog Tryz.lays260_ren := {
  mixed := by kernel_rfl
  f260 := Tryz.func120.trans (congrArg some (by kernel_rfl))
  t0 := Tryz.underlying0
  a0 := Tryz.isAgg0
  z0 := Tryz.sizeOf0
  v0 := Tryz.zeroValue0
  t3 := Tryz.underlying3
  a3 := Tryz.isAgg3
  z3 := Tryz.sizeOf3
  v3 := Tryz.zeroValue3
  t4 := Tryz.underlying4
  a4 := Tryz.isAgg4
  z4 := Tryz.sizeOf4
  v4 := Tryz.zeroValue4
  t5 := Tryz.underlying5
  a5 := Tryz.isAgg5
  z5 := Tryz.sizeOf5
  v5 := Tryz.zeroValue5
  t9 := Tryz.underlying9
  a9 := Tryz.isAgg9
  z9 := Tryz.sizeOf9
  v9 := Tryz.zeroValue9
  t21 := Tryz.underlying21
  a21 := Tryz.isAgg21
  z21 := Tryz.sizeOf21
  v21 := Tryz.zeroValue21
  t46 := Tryz.underlying50
  a46 := Tryz.isAgg50
  z46 := Tryz.sizeOf50
  v46 := Tryz.zeroValue50
  t119 := Tryz.underlying254
  a119 := Tryz.isAgg254
  z119 := Tryz.sizeOf254
  t138 := Tryz.underlying256
  a138 := Tryz.isAgg256
  z138 := Tryz.sizeOf256
  v138 := Tryz.zeroValue256
  t139 := Tryz.underlying257
  a139 := Tryz.isAgg257
  z139 := Tryz.sizeOf257
  v139 := Tryz.zeroValue257
  g3 := by kernel_rfl
  g4 := by kernel_rfl }
open Go.RowKit Go.Lib in
theorem Tryz.utf8_decodeRuneInStringSlow (s : ByteArray) (w : World) (hT : Lib.Utf8Tabs 6 7 w) :
    Calls Tryz.prog 120 #[.string s] w fun e w' => e = .returned (.tuple #[.int .i32 (Lib.decodeGo s).1, .int .i64 (Lib.decodeGo s).2]) ∧ Below w.heap.size w w' := Any.utf8_decodeRuneInStringSlow Tryz.lays260 s w hT
def Tryz.lays197_ren : Go.Shelf.Ren := ⟨fun | 197 => 75 | 260 => 120 | n => n, fun | 9 => 9 | 21 => 21 | 3 => 3 | 4 => 4 | 5 => 5 | 105 => 144 | 119 => 254 | 0 => 0 | 46 => 50 | 139 => 257 | 138 => 256 | n => n, fun | 3 => 6 | 4 => 7 | n => n⟩
theorem Tryz.lays197 : Go.Proofs.Lays.n197 Tryz.prog Tryz.lays197_ren := {
  mixed := by kernel_rfl
  f197 := Tryz.func75.trans (congrArg some (by kernel_rfl))
  f260 := Tryz.func120.trans (congrArg some (by kernel_rfl))
  t0 := Tryz.underlying0
  a0 := Tryz.isAgg0
  z0 := Tryz.sizeOf0
  v0 := Tryz.zeroValue0
  t3 := Tryz.underlying3
  a3 := Tryz.isAgg3
  z3 := Tryz.sizeOf3
  v3 := Tryz.zeroValue3
  t4 := Tryz.underlying4
  a4 := Tryz.isAgg4
  z4 := Tryz.sizeOf4
  v4 := Tryz.zeroValue4
  t5 := Tryz.underlying5
  a5 := Tryz.isAgg5
  z5 := Tryz.sizeOf5
  v5 := Tryz.zeroValue5
  t9 := Tryz.underlying9
  a9 := Tryz.isAgg9
  z9 := Tryz.sizeOf9
  v9 := Tryz.zeroValue9
  t21 := Tryz.underlying21
  a21 := Tryz.isAgg21
  z21 := Tryz.sizeOf21
  v21 := Tryz.zeroValue21
  t46 := Tryz.underlying50
  a46 := Tryz.isAgg50
  z46 := Tryz.sizeOf50
  v46 := Tryz.zeroValue50
  t105 := Tryz.underlying144
  a105 := Tryz.isAgg144
  z105 := Tryz.sizeOf144
  v105 := Tryz.zeroValue144
  t119 := Tryz.underlying254
  a119 := Tryz.isAgg254
  z119 := Tryz.sizeOf254
  t138 := Tryz.underlying256
  a138 := Tryz.isAgg256
  z138 := Tryz.sizeOf256
  v138 := Tryz.zeroValue256
  t139 := Tryz.underlying257
  a139 := Tryz.isAgg257
  z139 := Tryz.sizeOf257
  v139 := Tryz.zeroValue257
  g3 := by kernel_rfl
  g4 := by kernel_rfl }
open Go.RowKit Go.Lib in
/-- **unicode/utf8.DecodeRuneInString AT EVERY STRING.** (LAID: no walk: one application.) -/
theorem Tryz.utf8_DecodeRuneInString (s : ByteArray) (w : World) (hT : Lib.Utf8Tabs 6 7 w) :
    Calls Tryz.prog 75 #[.string s] w fun e w' => e = .returned (.tuple #[.int .i32 (Lib.decodeGo s).1, .int .i64 (Lib.decodeGo s).2]) ∧ Below w.heap.size w w' := Any.utf8_DecodeRuneInString Tryz.lays197 s w hT
end Go.Proofs
