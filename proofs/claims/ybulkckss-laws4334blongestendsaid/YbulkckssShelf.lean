/-
  DERIVED: THE SHELF's CONTRACTS AT THIS DUMP, IN PLAIN WORDS (tools/lay-plain.mjs out of 'YbaShelf.lean', which tools/lay-shelf.mjs wrote): THE SAME DECLARATIONS UNDER THE SAME NAMES: 'import', 'namespace', 'open', 'def', 'theorem' AND NOTHING ELSE: no command of the shelf's: FOR A HAND-IN. Each laying: the table of numbers ('.._ren') and one theorem, a field a fact of the dump's own or the kernel's comparison; each contract: ONE APPLICATION.
-/
import Derived.Shelf.SlGeneric
import Derived.Shelf.Small.Bits
import Derived.Shelf.SlSortCmp.Whole1
import Derived.Ground.SlsfProg
import Derived.Shelf.Small.Strs
import Derived.Shelf.Strconv.Itoa0
import Derived.Test.YbulkckssProg
namespace Go.Proofs
open Go.Shelf
def Yba.sortF_ren : Go.Shelf.Ren := ⟨fun | 6 => 14 | 15 => 24 | 14 => 23 | 28 => 37 | 29 => 38 | 20 => 29 | 21 => 30 | 22 => 31 | 23 => 32 | 24 => 33 | 25 => 34 | 26 => 35 | 27 => 36 | 46 => 42 | 47 => 43 | 48 => 44 | 49 => 45 | 50 => 46 | 57 => 48 | n => n, fun | 22 => 33 | 24 => 21 | 25 => 51 | 3 => 3 | 39 => 45 | 0 => 0 | 53 => 26 | 55 => 23 | 4 => 4 | 46 => 69 | 45 => 68 | 50 => 73 | 5 => 5 | 9 => 9 | 66 => 79 | 70 => 83 | 76 => 85 | 77 => 86 | n => n, fun | n => n⟩
theorem Yba.sortF : Go.Proofs.SlLaysF.n6 Yba.prog Yba.sortF_ren := {
  mixed := by kernel_rfl
  f6 := ⟨Yba.f14.name, by decide, Yba.func14.trans (congrArg some (by kernel_rfl))⟩
  f14 := ⟨Yba.f23.name, by decide, Yba.func23.trans (congrArg some (by kernel_rfl))⟩
  f15 := Yba.func24.trans (congrArg some (by kernel_rfl))
  f20 := ⟨Yba.f29.name, by decide, Yba.func29.trans (congrArg some (by kernel_rfl))⟩
  f21 := ⟨Yba.f30.name, by decide, Yba.func30.trans (congrArg some (by kernel_rfl))⟩
  f22 := ⟨Yba.f31.name, by decide, Yba.func31.trans (congrArg some (by kernel_rfl))⟩
  f23 := ⟨Yba.f32.name, by decide, Yba.func32.trans (congrArg some (by kernel_rfl))⟩
  f24 := ⟨Yba.f33.name, by decide, Yba.func33.trans (congrArg some (by kernel_rfl))⟩
  f25 := ⟨Yba.f34.name, by decide, Yba.func34.trans (congrArg some (by kernel_rfl))⟩
  f26 := ⟨Yba.f35.name, by decide, Yba.func35.trans (congrArg some (by kernel_rfl))⟩
  f27 := ⟨Yba.f36.name, by decide, Yba.func36.trans (congrArg some (by kernel_rfl))⟩
  f28 := Yba.func37.trans (congrArg some (by kernel_rfl))
  f29 := Yba.func38.trans (congrArg some (by kernel_rfl))
  f46 := ⟨Yba.f42.name, by decide, Yba.func42.trans (congrArg some (by kernel_rfl))⟩
  f47 := Yba.func43.trans (congrArg some (by kernel_rfl))
  f48 := Yba.func44.trans (congrArg some (by kernel_rfl))
  f49 := ⟨Yba.f45.name, by decide, Yba.func45.trans (congrArg some (by kernel_rfl))⟩
  f50 := ⟨Yba.f46.name, by decide, Yba.func46.trans (congrArg some (by kernel_rfl))⟩
  f57 := ⟨Yba.f48.name, by decide, Yba.func48.trans (congrArg some (by kernel_rfl))⟩
  t0 := Yba.underlying0
  a0 := Yba.isAgg0
  z0 := Yba.sizeOf0
  v0 := Yba.zeroValue0
  t3 := Yba.underlying3
  a3 := Yba.isAgg3
  z3 := Yba.sizeOf3
  v3 := Yba.zeroValue3
  t4 := Yba.underlying4
  a4 := Yba.isAgg4
  z4 := Yba.sizeOf4
  v4 := Yba.zeroValue4
  t5 := Yba.underlying5
  a5 := Yba.isAgg5
  z5 := Yba.sizeOf5
  v5 := Yba.zeroValue5
  t9 := Yba.underlying9
  a9 := Yba.isAgg9
  z9 := Yba.sizeOf9
  v9 := Yba.zeroValue9
  t22 := Yba.underlying33
  a22 := Yba.isAgg33
  z22 := Yba.sizeOf33
  v22 := Yba.zeroValue33
  a24 := Yba.isAgg21
  z24 := Yba.sizeOf21
  t25 := Yba.underlying51
  a25 := Yba.isAgg51
  z25 := Yba.sizeOf51
  v25 := Yba.zeroValue51
  t39 := Yba.underlying45
  a39 := Yba.isAgg45
  z39 := Yba.sizeOf45
  v39 := Yba.zeroValue45
  t45 := Yba.underlying68
  a45 := Yba.isAgg68
  z45 := Yba.sizeOf68
  v45 := Yba.zeroValue68
  t46 := Yba.underlying69
  a46 := Yba.isAgg69
  z46 := Yba.sizeOf69
  v46 := Yba.zeroValue69
  t50 := Yba.underlying73
  a50 := Yba.isAgg73
  z50 := Yba.sizeOf73
  v50 := Yba.zeroValue73
  t53 := Yba.underlying26
  a53 := Yba.isAgg26
  z53 := Yba.sizeOf26
  v53 := Yba.zeroValue26
  t55 := Yba.underlying23
  a55 := Yba.isAgg23
  z55 := Yba.sizeOf23
  v55 := Yba.zeroValue23
  t66 := Yba.underlying79
  a66 := Yba.isAgg79
  z66 := Yba.sizeOf79
  v66 := Yba.zeroValue79
  t70 := Yba.underlying83
  a70 := Yba.isAgg83
  z70 := Yba.sizeOf83
  v70 := Yba.zeroValue83
  t76 := Yba.underlying85
  a76 := Yba.isAgg85
  z76 := Yba.sizeOf85
  v76 := Yba.zeroValue85
  t77 := Yba.underlying86
  a77 := Yba.isAgg86
  z77 := Yba.sizeOf86
  v77 := Yba.zeroValue86 }
def Yba.lays128_ren : Go.Shelf.Ren := ⟨fun | 128 => 37 | n => n, fun | 51 => 26 | 3 => 3 | 4 => 4 | 46 => 45 | 5 => 5 | 9 => 9 | n => n, fun | n => n⟩
theorem Yba.lays128 : Go.Proofs.Lays.n128 Yba.prog Yba.lays128_ren := {
  mixed := by kernel_rfl
  f128 := Yba.func37.trans (congrArg some (by kernel_rfl))
  t3 := Yba.underlying3
  a3 := Yba.isAgg3
  z3 := Yba.sizeOf3
  v3 := Yba.zeroValue3
  t4 := Yba.underlying4
  a4 := Yba.isAgg4
  z4 := Yba.sizeOf4
  v4 := Yba.zeroValue4
  t5 := Yba.underlying5
  a5 := Yba.isAgg5
  z5 := Yba.sizeOf5
  v5 := Yba.zeroValue5
  t9 := Yba.underlying9
  a9 := Yba.isAgg9
  z9 := Yba.sizeOf9
  v9 := Yba.zeroValue9
  t46 := Yba.underlying45
  a46 := Yba.isAgg45
  z46 := Yba.sizeOf45
  v46 := Yba.zeroValue45
  t51 := Yba.underlying26
  a51 := Yba.isAgg26
  z51 := Yba.sizeOf26
  v51 := Yba.zeroValue26 }
/-- bits.Len32: "Len32 returns the minimum number of bits required to represent x; the result is 0 for x == 0.": IT RETURNS 'Lib.bitLen x'; the world is as it was. ('h0', 'h1': x is a uint32.) (LAID: no walk: one application.) -/
theorem Yba.bits_Len32 (x : Int) (w : World) (h0 : 0 ≤ x) (h1 : x ≤ 4294967295) :
    Calls Yba.prog 37 #[.int .u32 x] w fun e w' => e = .returned (.int .i64 (Lib.bitLen x.toNat)) ∧ w' = w := Any.bits_Len32 Yba.lays128 x w h0 h1
def Yba.lays125_ren : Go.Shelf.Ren := ⟨fun | 125 => 24 | 128 => 37 | 129 => 38 | n => n, fun | 46 => 45 | 3 => 3 | 51 => 26 | 53 => 23 | 4 => 4 | 5 => 5 | 9 => 9 | n => n, fun | n => n⟩
theorem Yba.lays125 : Go.Proofs.Lays.n125 Yba.prog Yba.lays125_ren := {
  mixed := by kernel_rfl
  f125 := Yba.func24.trans (congrArg some (by kernel_rfl))
  f128 := Yba.func37.trans (congrArg some (by kernel_rfl))
  f129 := Yba.func38.trans (congrArg some (by kernel_rfl))
  t3 := Yba.underlying3
  a3 := Yba.isAgg3
  z3 := Yba.sizeOf3
  v3 := Yba.zeroValue3
  t4 := Yba.underlying4
  a4 := Yba.isAgg4
  z4 := Yba.sizeOf4
  v4 := Yba.zeroValue4
  t5 := Yba.underlying5
  a5 := Yba.isAgg5
  z5 := Yba.sizeOf5
  v5 := Yba.zeroValue5
  t9 := Yba.underlying9
  a9 := Yba.isAgg9
  z9 := Yba.sizeOf9
  v9 := Yba.zeroValue9
  t46 := Yba.underlying45
  a46 := Yba.isAgg45
  z46 := Yba.sizeOf45
  v46 := Yba.zeroValue45
  t51 := Yba.underlying26
  a51 := Yba.isAgg26
  z51 := Yba.sizeOf26
  v51 := Yba.zeroValue26
  t53 := Yba.underlying23
  a53 := Yba.isAgg23
  z53 := Yba.sizeOf23
  v53 := Yba.zeroValue23 }
/-- bits.Len: "Len returns the minimum number of bits required to represent x; the result is 0 for x == 0.": IT RETURNS 'Lib.bitLen x'; the world is as it was. (A uint has 64 bits in the model.) ITS CALLEE bits.Len64 IS MET BY ITS OWN CONTRACT OFF THE SHELF (lay that first). (LAID: no walk: one application.) -/
theorem Yba.bits_Len (x : Int) (w : World) (h0 : 0 ≤ x) (h1 : x ≤ 18446744073709551615) :
    Calls Yba.prog 24 #[.int .u64 x] w fun e w' => e = .returned (.int .i64 (Lib.bitLen x.toNat)) ∧ w' = w := Any.bits_Len Yba.lays125 x w h0 h1
def Yba.lays213_ren : Go.Shelf.Ren := ⟨fun | 213 => 25 | 265 => 39 | n => n, fun | 9 => 9 | 3 => 3 | n => n, fun | n => n⟩
theorem Yba.lays213 : Go.Proofs.Lays.n213 Yba.prog Yba.lays213_ren := {
  mixed := by kernel_rfl
  f213 := Yba.func25.trans (congrArg some (by kernel_rfl))
  f265 := Yba.func39.trans (congrArg some (by kernel_rfl))
  t3 := Yba.underlying3
  a3 := Yba.isAgg3
  z3 := Yba.sizeOf3
  v3 := Yba.zeroValue3
  t9 := Yba.underlying9
  a9 := Yba.isAgg9
  z9 := Yba.sizeOf9
  v9 := Yba.zeroValue9 }
open Go.RowKit in
/-- internal/bytealg.CompareString (what strings.Compare calls): IT RETURNS 'Lib.compareBytes a b'; the world is as it was. (LAID: no walk: one application.) -/
theorem Yba.bytealg_CompareString (a b : ByteArray) (w : World) :
    Calls Yba.prog 25 #[.string a, .string b] w fun e w' => e = .returned (.int .i64 (Lib.compareBytes a.data.toList b.data.toList)) ∧ w' = w := Any.bytealg_CompareString Yba.lays213 a b w
def Yba.lays106_ren : Go.Shelf.Ren := ⟨fun | 106 => 16 | 213 => 25 | 265 => 39 | n => n, fun | 9 => 9 | 3 => 3 | n => n, fun | n => n⟩
theorem Yba.lays106 : Go.Proofs.Lays.n106 Yba.prog Yba.lays106_ren := {
  mixed := by kernel_rfl
  f106 := Yba.func16.trans (congrArg some (by kernel_rfl))
  f213 := Yba.func25.trans (congrArg some (by kernel_rfl))
  f265 := Yba.func39.trans (congrArg some (by kernel_rfl))
  t3 := Yba.underlying3
  a3 := Yba.isAgg3
  z3 := Yba.sizeOf3
  v3 := Yba.zeroValue3
  t9 := Yba.underlying9
  a9 := Yba.isAgg9
  z9 := Yba.sizeOf9
  v9 := Yba.zeroValue9 }
open Go.RowKit in
/-- strings.Compare: "Compare returns an integer comparing two strings lexicographically. The result will be 0 if a == b, -1 if a < b, and +1 if a > b.": IT RETURNS 'Lib.compareBytes a b'; the world is as it was. (LAID: no walk: one application.) -/
theorem Yba.strings_Compare (a b : ByteArray) (w : World) :
    Calls Yba.prog 16 #[.string a, .string b] w fun e w' => e = .returned (.int .i64 (Lib.compareBytes a.data.toList b.data.toList)) ∧ w' = w := Any.strings_Compare Yba.lays106 a b w
def Yba.lays129_ren : Go.Shelf.Ren := ⟨fun | 129 => 38 | n => n, fun | 53 => 23 | 3 => 3 | 4 => 4 | 46 => 45 | 5 => 5 | 9 => 9 | n => n, fun | n => n⟩
theorem Yba.lays129 : Go.Proofs.Lays.n129 Yba.prog Yba.lays129_ren := {
  mixed := by kernel_rfl
  f129 := Yba.func38.trans (congrArg some (by kernel_rfl))
  t3 := Yba.underlying3
  a3 := Yba.isAgg3
  z3 := Yba.sizeOf3
  v3 := Yba.zeroValue3
  t4 := Yba.underlying4
  a4 := Yba.isAgg4
  z4 := Yba.sizeOf4
  v4 := Yba.zeroValue4
  t5 := Yba.underlying5
  a5 := Yba.isAgg5
  z5 := Yba.sizeOf5
  v5 := Yba.zeroValue5
  t9 := Yba.underlying9
  a9 := Yba.isAgg9
  z9 := Yba.sizeOf9
  v9 := Yba.zeroValue9
  t46 := Yba.underlying45
  a46 := Yba.isAgg45
  z46 := Yba.sizeOf45
  v46 := Yba.zeroValue45
  t53 := Yba.underlying23
  a53 := Yba.isAgg23
  z53 := Yba.sizeOf23
  v53 := Yba.zeroValue23 }
/-- bits.Len64: "Len64 returns the minimum number of bits required to represent x; the result is 0 for x == 0.": IT RETURNS 'Lib.bitLen x'; the world is as it was. ('h0', 'h1': x is a uint64.) (LAID: no walk: one application.) -/
theorem Yba.bits_Len64 (x : Int) (w : World) (h0 : 0 ≤ x) (h1 : x ≤ 18446744073709551615) :
    Calls Yba.prog 38 #[.int .u64 x] w fun e w' => e = .returned (.int .i64 (Lib.bitLen x.toNat)) ∧ w' = w := Any.bits_Len64 Yba.lays129 x w h0 h1
end Go.Proofs
