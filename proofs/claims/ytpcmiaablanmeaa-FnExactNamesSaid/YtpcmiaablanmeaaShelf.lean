/-
  DERIVED: THE SHELF's CONTRACTS AT THIS DUMP, IN PLAIN WORDS (tools/lay-plain.mjs out of 'TryShelf.lean', which tools/lay-shelf.mjs wrote): THE SAME DECLARATIONS UNDER THE SAME NAMES: 'import', 'namespace', 'open', 'def', 'theorem' AND NOTHING ELSE: no command of the shelf's: FOR A HAND-IN. Each laying: the table of numbers ('.._ren') and one theorem, a field a fact of the dump's own or the kernel's comparison; each contract: ONE APPLICATION.
-/
import Derived.Shelf.Small.Bits
import Derived.Shelf.Small.Strs
import Derived.Shelf.Small.Wraps
import Derived.Shelf.Strconv.Itoa0
import Derived.Shelf.Strconv.Itoa1
import Derived.Shelf.LaysM
import Derived.Shelf.Strconv.Itoa2
import Derived.Shelf.Strconv.Itoa3
import Derived.Shelf.Sort.Plain
import Derived.Shelf.Strings.Prefix
import Derived.Shelf.Slices.Equal
import Derived.Shelf.Slices.In.SortNone
import Derived.Shelf.Slices.Empties2
import Derived.Shelf.SlSortCmp.NoneTotal
import Derived.Ground.SlsfProg
import Derived.Test.YtpcmiaablanmeaaProg
namespace Go.Proofs
open Go.Shelf
def Try.sortF_ren : Go.Shelf.Ren := ⟨fun | 6 => 30 | 15 => 26 | 14 => 48 | 28 => 42 | 29 => 43 | 20 => 58 | 21 => 59 | 22 => 60 | 23 => 61 | 24 => 62 | 25 => 63 | 26 => 64 | 27 => 65 | 46 => 70 | 47 => 51 | 48 => 52 | 49 => 71 | 50 => 72 | 57 => 73 | n => n, fun | 22 => 62 | 24 => 33 | 25 => 72 | 3 => 3 | 39 => 66 | 0 => 0 | 53 => 83 | 55 => 85 | 4 => 4 | 46 => 75 | 45 => 74 | 50 => 80 | 5 => 5 | 9 => 9 | 66 => 94 | 70 => 57 | 76 => 107 | 77 => 108 | n => n, fun | n => n⟩
theorem Try.sortF : Go.Proofs.SlLaysF.n6 Try.prog Try.sortF_ren := {
  mixed := by kernel_rfl
  f6 := ⟨Try.f30.name, by decide, Try.func30.trans (congrArg some (by kernel_rfl))⟩
  f14 := ⟨Try.f48.name, by decide, Try.func48.trans (congrArg some (by kernel_rfl))⟩
  f15 := Try.func26.trans (congrArg some (by kernel_rfl))
  f20 := ⟨Try.f58.name, by decide, Try.func58.trans (congrArg some (by kernel_rfl))⟩
  f21 := ⟨Try.f59.name, by decide, Try.func59.trans (congrArg some (by kernel_rfl))⟩
  f22 := ⟨Try.f60.name, by decide, Try.func60.trans (congrArg some (by kernel_rfl))⟩
  f23 := ⟨Try.f61.name, by decide, Try.func61.trans (congrArg some (by kernel_rfl))⟩
  f24 := ⟨Try.f62.name, by decide, Try.func62.trans (congrArg some (by kernel_rfl))⟩
  f25 := ⟨Try.f63.name, by decide, Try.func63.trans (congrArg some (by kernel_rfl))⟩
  f26 := ⟨Try.f64.name, by decide, Try.func64.trans (congrArg some (by kernel_rfl))⟩
  f27 := ⟨Try.f65.name, by decide, Try.func65.trans (congrArg some (by kernel_rfl))⟩
  f28 := Try.func42.trans (congrArg some (by kernel_rfl))
  f29 := Try.func43.trans (congrArg some (by kernel_rfl))
  f46 := ⟨Try.f70.name, by decide, Try.func70.trans (congrArg some (by kernel_rfl))⟩
  f47 := Try.func51.trans (congrArg some (by kernel_rfl))
  f48 := Try.func52.trans (congrArg some (by kernel_rfl))
  f49 := ⟨Try.f71.name, by decide, Try.func71.trans (congrArg some (by kernel_rfl))⟩
  f50 := ⟨Try.f72.name, by decide, Try.func72.trans (congrArg some (by kernel_rfl))⟩
  f57 := ⟨Try.f73.name, by decide, Try.func73.trans (congrArg some (by kernel_rfl))⟩
  t0 := Try.underlying0
  a0 := Try.isAgg0
  z0 := Try.sizeOf0
  v0 := Try.zeroValue0
  t3 := Try.underlying3
  a3 := Try.isAgg3
  z3 := Try.sizeOf3
  v3 := Try.zeroValue3
  t4 := Try.underlying4
  a4 := Try.isAgg4
  z4 := Try.sizeOf4
  v4 := Try.zeroValue4
  t5 := Try.underlying5
  a5 := Try.isAgg5
  z5 := Try.sizeOf5
  v5 := Try.zeroValue5
  t9 := Try.underlying9
  a9 := Try.isAgg9
  z9 := Try.sizeOf9
  v9 := Try.zeroValue9
  t22 := Try.underlying62
  a22 := Try.isAgg62
  z22 := Try.sizeOf62
  v22 := Try.zeroValue62
  a24 := Try.isAgg33
  z24 := Try.sizeOf33
  t25 := Try.underlying72
  a25 := Try.isAgg72
  z25 := Try.sizeOf72
  v25 := Try.zeroValue72
  t39 := Try.underlying66
  a39 := Try.isAgg66
  z39 := Try.sizeOf66
  v39 := Try.zeroValue66
  t45 := Try.underlying74
  a45 := Try.isAgg74
  z45 := Try.sizeOf74
  v45 := Try.zeroValue74
  t46 := Try.underlying75
  a46 := Try.isAgg75
  z46 := Try.sizeOf75
  v46 := Try.zeroValue75
  t50 := Try.underlying80
  a50 := Try.isAgg80
  z50 := Try.sizeOf80
  v50 := Try.zeroValue80
  t53 := Try.underlying83
  a53 := Try.isAgg83
  z53 := Try.sizeOf83
  v53 := Try.zeroValue83
  t55 := Try.underlying85
  a55 := Try.isAgg85
  z55 := Try.sizeOf85
  v55 := Try.zeroValue85
  t66 := Try.underlying94
  a66 := Try.isAgg94
  z66 := Try.sizeOf94
  v66 := Try.zeroValue94
  t70 := Try.underlying57
  a70 := Try.isAgg57
  z70 := Try.sizeOf57
  v70 := Try.zeroValue57
  t76 := Try.underlying107
  a76 := Try.isAgg107
  z76 := Try.sizeOf107
  v76 := Try.zeroValue107
  t77 := Try.underlying108
  a77 := Try.isAgg108
  z77 := Try.sizeOf108
  v77 := Try.zeroValue108 }
def Try.lays128_ren : Go.Shelf.Ren := ⟨fun | 128 => 42 | n => n, fun | 51 => 83 | 3 => 3 | 4 => 4 | 46 => 66 | 5 => 5 | 9 => 9 | n => n, fun | n => n⟩
theorem Try.lays128 : Go.Proofs.Lays.n128 Try.prog Try.lays128_ren := {
  mixed := by kernel_rfl
  f128 := Try.func42.trans (congrArg some (by kernel_rfl))
  t3 := Try.underlying3
  a3 := Try.isAgg3
  z3 := Try.sizeOf3
  v3 := Try.zeroValue3
  t4 := Try.underlying4
  a4 := Try.isAgg4
  z4 := Try.sizeOf4
  v4 := Try.zeroValue4
  t5 := Try.underlying5
  a5 := Try.isAgg5
  z5 := Try.sizeOf5
  v5 := Try.zeroValue5
  t9 := Try.underlying9
  a9 := Try.isAgg9
  z9 := Try.sizeOf9
  v9 := Try.zeroValue9
  t46 := Try.underlying66
  a46 := Try.isAgg66
  z46 := Try.sizeOf66
  v46 := Try.zeroValue66
  t51 := Try.underlying83
  a51 := Try.isAgg83
  z51 := Try.sizeOf83
  v51 := Try.zeroValue83 }
/-- bits.Len32: "Len32 returns the minimum number of bits required to represent x; the result is 0 for x == 0.": IT RETURNS 'Lib.bitLen x'; the world is as it was. ('h0', 'h1': x is a uint32.) (LAID: no walk: one application.) -/
theorem Try.bits_Len32 (x : Int) (w : World) (h0 : 0 ≤ x) (h1 : x ≤ 4294967295) :
    Calls Try.prog 42 #[.int .u32 x] w fun e w' => e = .returned (.int .i64 (Lib.bitLen x.toNat)) ∧ w' = w := Any.bits_Len32 Try.lays128 x w h0 h1
def Try.lays125_ren : Go.Shelf.Ren := ⟨fun | 125 => 26 | 128 => 42 | 129 => 43 | n => n, fun | 46 => 66 | 3 => 3 | 51 => 83 | 53 => 85 | 4 => 4 | 5 => 5 | 9 => 9 | n => n, fun | n => n⟩
theorem Try.lays125 : Go.Proofs.Lays.n125 Try.prog Try.lays125_ren := {
  mixed := by kernel_rfl
  f125 := Try.func26.trans (congrArg some (by kernel_rfl))
  f128 := Try.func42.trans (congrArg some (by kernel_rfl))
  f129 := Try.func43.trans (congrArg some (by kernel_rfl))
  t3 := Try.underlying3
  a3 := Try.isAgg3
  z3 := Try.sizeOf3
  v3 := Try.zeroValue3
  t4 := Try.underlying4
  a4 := Try.isAgg4
  z4 := Try.sizeOf4
  v4 := Try.zeroValue4
  t5 := Try.underlying5
  a5 := Try.isAgg5
  z5 := Try.sizeOf5
  v5 := Try.zeroValue5
  t9 := Try.underlying9
  a9 := Try.isAgg9
  z9 := Try.sizeOf9
  v9 := Try.zeroValue9
  t46 := Try.underlying66
  a46 := Try.isAgg66
  z46 := Try.sizeOf66
  v46 := Try.zeroValue66
  t51 := Try.underlying83
  a51 := Try.isAgg83
  z51 := Try.sizeOf83
  v51 := Try.zeroValue83
  t53 := Try.underlying85
  a53 := Try.isAgg85
  z53 := Try.sizeOf85
  v53 := Try.zeroValue85 }
/-- bits.Len: "Len returns the minimum number of bits required to represent x; the result is 0 for x == 0.": IT RETURNS 'Lib.bitLen x'; the world is as it was. (A uint has 64 bits in the model.) ITS CALLEE bits.Len64 IS MET BY ITS OWN CONTRACT OFF THE SHELF (lay that first). (LAID: no walk: one application.) -/
theorem Try.bits_Len (x : Int) (w : World) (h0 : 0 ≤ x) (h1 : x ≤ 18446744073709551615) :
    Calls Try.prog 26 #[.int .u64 x] w fun e w' => e = .returned (.int .i64 (Lib.bitLen x.toNat)) ∧ w' = w := Any.bits_Len Try.lays125 x w h0 h1
def Try.lays213_ren : Go.Shelf.Ren := ⟨fun | 213 => 49 | 265 => 66 | n => n, fun | 9 => 9 | 3 => 3 | n => n, fun | n => n⟩
theorem Try.lays213 : Go.Proofs.Lays.n213 Try.prog Try.lays213_ren := {
  mixed := by kernel_rfl
  f213 := Try.func49.trans (congrArg some (by kernel_rfl))
  f265 := Try.func66.trans (congrArg some (by kernel_rfl))
  t3 := Try.underlying3
  a3 := Try.isAgg3
  z3 := Try.sizeOf3
  v3 := Try.zeroValue3
  t9 := Try.underlying9
  a9 := Try.isAgg9
  z9 := Try.sizeOf9
  v9 := Try.zeroValue9 }
open Go.RowKit in
/-- internal/bytealg.CompareString (what strings.Compare calls): IT RETURNS 'Lib.compareBytes a b'; the world is as it was. (LAID: no walk: one application.) -/
theorem Try.bytealg_CompareString (a b : ByteArray) (w : World) :
    Calls Try.prog 49 #[.string a, .string b] w fun e w' => e = .returned (.int .i64 (Lib.compareBytes a.data.toList b.data.toList)) ∧ w' = w := Any.bytealg_CompareString Try.lays213 a b w
def Try.lays106_ren : Go.Shelf.Ren := ⟨fun | 106 => 32 | 213 => 49 | 265 => 66 | n => n, fun | 9 => 9 | 3 => 3 | n => n, fun | n => n⟩
theorem Try.lays106 : Go.Proofs.Lays.n106 Try.prog Try.lays106_ren := {
  mixed := by kernel_rfl
  f106 := Try.func32.trans (congrArg some (by kernel_rfl))
  f213 := Try.func49.trans (congrArg some (by kernel_rfl))
  f265 := Try.func66.trans (congrArg some (by kernel_rfl))
  t3 := Try.underlying3
  a3 := Try.isAgg3
  z3 := Try.sizeOf3
  v3 := Try.zeroValue3
  t9 := Try.underlying9
  a9 := Try.isAgg9
  z9 := Try.sizeOf9
  v9 := Try.zeroValue9 }
open Go.RowKit in
/-- strings.Compare: "Compare returns an integer comparing two strings lexicographically. The result will be 0 if a == b, -1 if a < b, and +1 if a > b.": IT RETURNS 'Lib.compareBytes a b'; the world is as it was. (LAID: no walk: one application.) -/
theorem Try.strings_Compare (a b : ByteArray) (w : World) :
    Calls Try.prog 32 #[.string a, .string b] w fun e w' => e = .returned (.int .i64 (Lib.compareBytes a.data.toList b.data.toList)) ∧ w' = w := Any.strings_Compare Try.lays106 a b w
def Try.lays214_ren : Go.Shelf.Ren := ⟨fun | 214 => 95 | n => n, fun | 4 => 4 | 9 => 9 | n => n, fun | n => n⟩
theorem Try.lays214 : Go.Proofs.Lays.n214 Try.prog Try.lays214_ren := {
  mixed := by kernel_rfl
  f214 := Try.func95.trans (congrArg some (by kernel_rfl))
  t4 := Try.underlying4
  a4 := Try.isAgg4
  z4 := Try.sizeOf4
  v4 := Try.zeroValue4
  t9 := Try.underlying9
  a9 := Try.isAgg9
  z9 := Try.sizeOf9
  v9 := Try.zeroValue9 }
open Go.RowKit in
/-- internal/strconv.FormatBool (what strconv.FormatBool calls). (LAID: no walk: one application.) -/
theorem Try.internal_strconv_FormatBool (b : Bool) (w : World) :
    Calls Try.prog 95 #[.bool b] w fun e w' => e = .returned (.string ⟨(Lib.formatBool b).toArray⟩) ∧ w' = w := Any.internal_strconv_FormatBool Try.lays214 b w
def Try.lays121_ren : Go.Shelf.Ren := ⟨fun | 121 => 94 | 214 => 95 | n => n, fun | 4 => 4 | 9 => 9 | n => n, fun | n => n⟩
theorem Try.lays121 : Go.Proofs.Lays.n121 Try.prog Try.lays121_ren := {
  mixed := by kernel_rfl
  f121 := Try.func94.trans (congrArg some (by kernel_rfl))
  f214 := Try.func95.trans (congrArg some (by kernel_rfl))
  t4 := Try.underlying4
  a4 := Try.isAgg4
  z4 := Try.sizeOf4
  v4 := Try.zeroValue4
  t9 := Try.underlying9
  a9 := Try.isAgg9
  z9 := Try.sizeOf9
  v9 := Try.zeroValue9 }
open Go.RowKit in
/-- strconv.FormatBool: "FormatBool returns "true" or "false" according to the value of b.": IT RETURNS 'Lib.formatBool b'; the world is as it was. (LAID: no walk: one application.) -/
theorem Try.strconv_FormatBool (b : Bool) (w : World) :
    Calls Try.prog 94 #[.bool b] w fun e w' => e = .returned (.string ⟨(Lib.formatBool b).toArray⟩) ∧ w' = w := Any.strconv_FormatBool Try.lays121 b w
def Try.lays129_ren : Go.Shelf.Ren := ⟨fun | 129 => 43 | n => n, fun | 53 => 85 | 3 => 3 | 4 => 4 | 46 => 66 | 5 => 5 | 9 => 9 | n => n, fun | n => n⟩
theorem Try.lays129 : Go.Proofs.Lays.n129 Try.prog Try.lays129_ren := {
  mixed := by kernel_rfl
  f129 := Try.func43.trans (congrArg some (by kernel_rfl))
  t3 := Try.underlying3
  a3 := Try.isAgg3
  z3 := Try.sizeOf3
  v3 := Try.zeroValue3
  t4 := Try.underlying4
  a4 := Try.isAgg4
  z4 := Try.sizeOf4
  v4 := Try.zeroValue4
  t5 := Try.underlying5
  a5 := Try.isAgg5
  z5 := Try.sizeOf5
  v5 := Try.zeroValue5
  t9 := Try.underlying9
  a9 := Try.isAgg9
  z9 := Try.sizeOf9
  v9 := Try.zeroValue9
  t46 := Try.underlying66
  a46 := Try.isAgg66
  z46 := Try.sizeOf66
  v46 := Try.zeroValue66
  t53 := Try.underlying85
  a53 := Try.isAgg85
  z53 := Try.sizeOf85
  v53 := Try.zeroValue85 }
/-- bits.Len64: "Len64 returns the minimum number of bits required to represent x; the result is 0 for x == 0.": IT RETURNS 'Lib.bitLen x'; the world is as it was. ('h0', 'h1': x is a uint64.) (LAID: no walk: one application.) -/
theorem Try.bits_Len64 (x : Int) (w : World) (h0 : 0 ≤ x) (h1 : x ≤ 18446744073709551615) :
    Calls Try.prog 43 #[.int .u64 x] w fun e w' => e = .returned (.int .i64 (Lib.bitLen x.toNat)) ∧ w' = w := Any.bits_Len64 Try.lays129 x w h0 h1
def Try.lays317_ren : Go.Shelf.Ren := ⟨fun | 317 => 105 | n => n, fun | 3 => 3 | 46 => 66 | n => n, fun | n => n⟩
theorem Try.lays317 : Go.Proofs.Lays.n317 Try.prog Try.lays317_ren := {
  mixed := by kernel_rfl
  f317 := Try.func105.trans (congrArg some (by kernel_rfl))
  t3 := Try.underlying3
  a3 := Try.isAgg3
  z3 := Try.sizeOf3
  v3 := Try.zeroValue3
  t46 := Try.underlying66
  a46 := Try.isAgg66
  z46 := Try.sizeOf66
  v46 := Try.zeroValue66 }
open Go.Lib in
/-- internal/strconv.log10Pow2: "log10Pow2(x) returns ⌊log₁₀ 2**x⌋ = ⌊x * log₁₀ 2⌋.": '(x * 78913) >> 18', at an x up to 64 (a length in bits). The world is as it was. (LAID: no walk: one application.) -/
theorem Try.internal_strconv_log10Pow2 (x : Nat) (h : x ≤ 64) (w : World) :
    Calls Try.prog 105 #[.int .i64 x] w fun e w' => e = .returned (.int .i64 (Lib.l10 x)) ∧ w' = w := Any.internal_strconv_log10Pow2 Try.lays317 x h w
def Try.lays318_ren : Go.Shelf.Ren := ⟨fun | 318 => 106 | n => n, fun | 3 => 3 | 4 => 4 | n => n, fun | n => n⟩
theorem Try.lays318 : Go.Proofs.Lays.n318 Try.prog Try.lays318_ren := {
  mixed := by kernel_rfl
  f318 := Try.func106.trans (congrArg some (by kernel_rfl))
  t3 := Try.underlying3
  a3 := Try.isAgg3
  z3 := Try.sizeOf3
  v3 := Try.zeroValue3
  t4 := Try.underlying4
  a4 := Try.isAgg4
  z4 := Try.sizeOf4
  v4 := Try.zeroValue4 }
open Go.Lib in
/-- internal/strconv.bool2: "bool2 converts b to an integer: 1 for true, 0 for false." The world is as it was. (LAID: no walk: one application.) -/
theorem Try.internal_strconv_bool2_int (b : Bool) (w : World) :
    Calls Try.prog 106 #[.bool b] w fun e w' => e = .returned (.int .i64 (if b then 1 else 0)) ∧ w' = w := Any.internal_strconv_bool2_int Try.lays318 b w
def Try.lays283_ren : Go.Shelf.Ren := ⟨fun | 283 => 101 | n => n, fun | 3 => 3 | 9 => 9 | 4 => 4 | n => n, fun | n => n⟩
theorem Try.lays283 : Go.Proofs.Lays.n283 Try.prog Try.lays283_ren := {
  mixed := by kernel_rfl
  f283 := Try.func101.trans (congrArg some (by kernel_rfl))
  t3 := Try.underlying3
  a3 := Try.isAgg3
  z3 := Try.sizeOf3
  v3 := Try.zeroValue3
  t4 := Try.underlying4
  a4 := Try.isAgg4
  z4 := Try.sizeOf4
  v4 := Try.zeroValue4
  t9 := Try.underlying9
  a9 := Try.isAgg9
  z9 := Try.sizeOf9
  v9 := Try.zeroValue9 }
open Go.Lib in
/-- internal/strconv.small: "small returns the string for an i with 0 <= i < nSmalls.": i's decimal numeral. The world is as it was. (LAID: no walk: one application.) -/
theorem Try.internal_strconv_small (i : Nat) (h : i < 100) (w : World) :
    Calls Try.prog 101 #[.int .i64 i] w fun e w' => e = .returned (.string ⟨(Lib.decDigits i).toArray⟩) ∧ w' = w := Any.internal_strconv_small Try.lays283 i h w
def Try.laysM284_ren : Go.Shelf.Ren := ⟨fun | 284 => 102 | 129 => 43 | 317 => 105 | 318 => 106 | n => n, fun | 53 => 85 | 3 => 3 | 212 => 142 | 0 => 0 | 4 => 4 | 46 => 66 | 5 => 5 | 9 => 9 | n => n, fun | 17 => 1 | n => n⟩
theorem Try.laysM284 : Go.Proofs.LaysM.n284 Try.prog Try.laysM284_ren := {
  mixed := by kernel_rfl
  f129 := Try.func43.trans (congrArg some (by kernel_rfl))
  f284 := Try.func102.trans (congrArg some (by kernel_rfl))
  f317 := Try.func105.trans (congrArg some (by kernel_rfl))
  f318 := Try.func106.trans (congrArg some (by kernel_rfl))
  t0 := Try.underlying0
  a0 := Try.isAgg0
  z0 := Try.sizeOf0
  v0 := Try.zeroValue0
  t3 := Try.underlying3
  a3 := Try.isAgg3
  z3 := Try.sizeOf3
  v3 := Try.zeroValue3
  t4 := Try.underlying4
  a4 := Try.isAgg4
  z4 := Try.sizeOf4
  v4 := Try.zeroValue4
  t5 := Try.underlying5
  a5 := Try.isAgg5
  z5 := Try.sizeOf5
  v5 := Try.zeroValue5
  t9 := Try.underlying9
  a9 := Try.isAgg9
  z9 := Try.sizeOf9
  v9 := Try.zeroValue9
  t46 := Try.underlying66
  a46 := Try.isAgg66
  z46 := Try.sizeOf66
  v46 := Try.zeroValue66
  t53 := Try.underlying85
  a53 := Try.isAgg85
  z53 := Try.sizeOf85
  v53 := Try.zeroValue85
  t212 := Try.underlying142
  a212 := Try.isAgg142
  z212 := Try.sizeOf142
  v212 := Try.zeroValue142
  g17 := by kernel_rfl
  i0 := by kernel_rfl
  i3 := by kernel_rfl
  i4 := by kernel_rfl
  i5 := by kernel_rfl
  i9 := by kernel_rfl
  i46 := by kernel_rfl
  i53 := by kernel_rfl
  i212 := by kernel_rfl
  m17 := by kernel_rfl }
open Go.Lib in
/-- internal/strconv.numDigits, at a d that is not 0: THE NUMBER OF d's DECIMAL DIGITS. The world is as it was. (LAID: no walk: one application.) -/
theorem Try.internal_strconv_numDigits (u : Nat) (h1 : 1 ≤ u) (h2 : u < 18446744073709551616) (w : World) (htab : Lib.TabIs Try.prog w "internal/strconv.uint64pow10" .u64 Lib.pow10Tab) :
    Calls Try.prog 102 #[.int .u64 u] w fun e w' => e = .returned (.int .i64 (Lib.nDigits u)) ∧ w' = w := Any.internal_strconv_numDigits Try.laysM284 u h1 h2 w htab
def Try.lays285_ren : Go.Shelf.Ren := ⟨fun | 285 => 103 | n => n, fun | 37 => 137 | 53 => 85 | 3 => 3 | 4 => 4 | 51 => 83 | 9 => 9 | 5 => 5 | 0 => 0 | n => n, fun | n => n⟩
theorem Try.lays285 : Go.Proofs.Lays.n285 Try.prog Try.lays285_ren := {
  mixed := by kernel_rfl
  f285 := Try.func103.trans (congrArg some (by kernel_rfl))
  t0 := Try.underlying0
  a0 := Try.isAgg0
  z0 := Try.sizeOf0
  v0 := Try.zeroValue0
  t3 := Try.underlying3
  a3 := Try.isAgg3
  z3 := Try.sizeOf3
  v3 := Try.zeroValue3
  t4 := Try.underlying4
  a4 := Try.isAgg4
  z4 := Try.sizeOf4
  v4 := Try.zeroValue4
  t5 := Try.underlying5
  a5 := Try.isAgg5
  z5 := Try.sizeOf5
  v5 := Try.zeroValue5
  t9 := Try.underlying9
  a9 := Try.isAgg9
  z9 := Try.sizeOf9
  v9 := Try.zeroValue9
  t37 := Try.underlying137
  a37 := Try.isAgg137
  z37 := Try.sizeOf137
  v37 := Try.zeroValue137
  t51 := Try.underlying83
  a51 := Try.isAgg83
  z51 := Try.sizeOf83
  v51 := Try.zeroValue83
  t53 := Try.underlying85
  a53 := Try.isAgg85
  z53 := Try.sizeOf85
  v53 := Try.zeroValue85 }
open Go.RowKit Go.Sort Go.Lib in
/-- internal/strconv.formatBase10: "formatBase10 formats the decimal representation of u into a. The caller is responsible for ensuring that a is big enough to hold u. If a is too big, leading zeros will be filled in as needed.": THE ROW HOLDS u's DIGITS ('FmtInv .. 0 ..': every place t holds 'dg u (len - 1 - t)'); all else is as it was but for the count of draws. (LAID: no walk: one application.) -/
theorem Try.internal_strconv_formatBase10 (blk off cap : Nat) (u : Nat) (d : Array UInt8) (w : World) (hH : Holds (fun (b : UInt8) => Value.int .u8 (b.toNat : Int)) w blk off d) (hu : u < 10 ^ d.size) (hu64 : u < 18446744073709551616) (hsz : d.size < 4611686018427387904) :
    Calls Try.prog 103 #[.slice (some ⟨blk, off, none⟩) d.size cap, .int .u64 u] w fun e w' =>
      e = .returned (.tuple #[]) ∧ ∃ (n v' : Nat) (dk : Array UInt8), w' = (putRow (fun (b : UInt8) => Value.int .u8 (b.toNat : Int)) w blk off dk).drewN n ∧ FmtInv d.size u 0 v' dk := Any.internal_strconv_formatBase10 Try.lays285 blk off cap u d w hH hu hu64 hsz
def Try.laysM246_ren : Go.Shelf.Ren := ⟨fun | 246 => 100 | 283 => 101 | 284 => 102 | 285 => 103 | 286 => 104 | 129 => 43 | 317 => 105 | 318 => 106 | 319 => 107 | 320 => 108 | 337 => 109 | 338 => 110 | n => n, fun | 2 => 2 | 3 => 3 | 9 => 9 | 4 => 4 | 171 => 135 | 0 => 0 | 53 => 85 | 37 => 137 | 5 => 5 | 173 => 138 | 212 => 142 | 51 => 83 | 20 => 20 | 213 => 143 | 46 => 66 | 232 => 145 | 233 => 146 | n => n, fun | 17 => 1 | 18 => 2 | 19 => 3 | n => n⟩
theorem Try.laysM246 : Go.Proofs.LaysM.n246 Try.prog Try.laysM246_ren := {
  mixed := by kernel_rfl
  f129 := Try.func43.trans (congrArg some (by kernel_rfl))
  f246 := Try.func100.trans (congrArg some (by kernel_rfl))
  f283 := Try.func101.trans (congrArg some (by kernel_rfl))
  f284 := Try.func102.trans (congrArg some (by kernel_rfl))
  f285 := Try.func103.trans (congrArg some (by kernel_rfl))
  f286 := Try.func104.trans (congrArg some (by kernel_rfl))
  f317 := Try.func105.trans (congrArg some (by kernel_rfl))
  f318 := Try.func106.trans (congrArg some (by kernel_rfl))
  f319 := Try.func107.trans (congrArg some (by kernel_rfl))
  f320 := Try.func108.trans (congrArg some (by kernel_rfl))
  f337 := Try.func109.trans (congrArg some (by kernel_rfl))
  f338 := Try.func110.trans (congrArg some (by kernel_rfl))
  t0 := Try.underlying0
  a0 := Try.isAgg0
  z0 := Try.sizeOf0
  v0 := Try.zeroValue0
  t2 := Try.underlying2
  a2 := Try.isAgg2
  z2 := Try.sizeOf2
  v2 := Try.zeroValue2
  t3 := Try.underlying3
  a3 := Try.isAgg3
  z3 := Try.sizeOf3
  v3 := Try.zeroValue3
  t4 := Try.underlying4
  a4 := Try.isAgg4
  z4 := Try.sizeOf4
  v4 := Try.zeroValue4
  t5 := Try.underlying5
  a5 := Try.isAgg5
  z5 := Try.sizeOf5
  v5 := Try.zeroValue5
  t9 := Try.underlying9
  a9 := Try.isAgg9
  z9 := Try.sizeOf9
  v9 := Try.zeroValue9
  t20 := Try.underlying20
  a20 := Try.isAgg20
  z20 := Try.sizeOf20
  v20 := Try.zeroValue20
  t37 := Try.underlying137
  a37 := Try.isAgg137
  z37 := Try.sizeOf137
  v37 := Try.zeroValue137
  t46 := Try.underlying66
  a46 := Try.isAgg66
  z46 := Try.sizeOf66
  v46 := Try.zeroValue66
  t51 := Try.underlying83
  a51 := Try.isAgg83
  z51 := Try.sizeOf83
  v51 := Try.zeroValue83
  t53 := Try.underlying85
  a53 := Try.isAgg85
  z53 := Try.sizeOf85
  v53 := Try.zeroValue85
  t171 := Try.underlying135
  a171 := Try.isAgg135
  z171 := Try.sizeOf135
  v171 := Try.zeroValue135
  t173 := Try.underlying138
  a173 := Try.isAgg138
  z173 := Try.sizeOf138
  v173 := Try.zeroValue138
  t212 := Try.underlying142
  a212 := Try.isAgg142
  z212 := Try.sizeOf142
  v212 := Try.zeroValue142
  t213 := Try.underlying143
  a213 := Try.isAgg143
  z213 := Try.sizeOf143
  t232 := Try.underlying145
  a232 := Try.isAgg145
  z232 := Try.sizeOf145
  v232 := Try.zeroValue145
  t233 := Try.underlying146
  a233 := Try.isAgg146
  z233 := Try.sizeOf146
  v233 := Try.zeroValue146
  g17 := by kernel_rfl
  g18 := by kernel_rfl
  g19 := by kernel_rfl
  i0 := by kernel_rfl
  i2 := by kernel_rfl
  i3 := by kernel_rfl
  i4 := by kernel_rfl
  i5 := by kernel_rfl
  i9 := by kernel_rfl
  i20 := by kernel_rfl
  i37 := by kernel_rfl
  i46 := by kernel_rfl
  i51 := by kernel_rfl
  i53 := by kernel_rfl
  i171 := by kernel_rfl
  i173 := by kernel_rfl
  i212 := by kernel_rfl
  i232 := by kernel_rfl
  i233 := by kernel_rfl
  m17 := by kernel_rfl
  m18 := by kernel_rfl
  m19 := by kernel_rfl }
open Go.RowKit Go.Sort Go.Lib in
/-- internal/strconv.FormatInt: "FormatInt returns the string representation of i in the given base": AT BASE 10: i's decimal numeral, for every int64. The world behind the call: the world before it, new blocks behind the heap, draws. (LAID: no walk: one application.) -/
theorem Try.internal_strconv_FormatInt_10 (n : Int) (h0 : -9223372036854775808 ≤ n) (h1 : n ≤ 9223372036854775807) (w : World) (htab : Lib.TabIs Try.prog w "internal/strconv.uint64pow10" .u64 Lib.pow10Tab) :
    Calls Try.prog 100 #[.int .i64 n, .int .i64 10] w fun e w' => e = .returned (.string ⟨(Lib.itoa n).toArray⟩) ∧ ∃ k os, w' = grow (w.drewN k) os := Any.internal_strconv_FormatInt_10 Try.laysM246 n h0 h1 w htab
def Try.lays246_ren : Go.Shelf.Ren := ⟨fun | 246 => 100 | 283 => 101 | 284 => 102 | 285 => 103 | 286 => 104 | 129 => 43 | 317 => 105 | 318 => 106 | 319 => 107 | 320 => 108 | 337 => 109 | 338 => 110 | n => n, fun | 2 => 2 | 3 => 3 | 9 => 9 | 4 => 4 | 171 => 135 | 0 => 0 | 53 => 85 | 37 => 137 | 5 => 5 | 173 => 138 | 212 => 142 | 51 => 83 | 20 => 20 | 213 => 143 | 46 => 66 | 232 => 145 | 233 => 146 | n => n, fun | 17 => 1 | 18 => 2 | 19 => 3 | n => n⟩
theorem Try.lays246 : Go.Proofs.Lays.n246 Try.prog Try.lays246_ren := {
  mixed := by kernel_rfl
  f129 := Try.func43.trans (congrArg some (by kernel_rfl))
  f246 := Try.func100.trans (congrArg some (by kernel_rfl))
  f283 := Try.func101.trans (congrArg some (by kernel_rfl))
  f284 := Try.func102.trans (congrArg some (by kernel_rfl))
  f285 := Try.func103.trans (congrArg some (by kernel_rfl))
  f286 := Try.func104.trans (congrArg some (by kernel_rfl))
  f317 := Try.func105.trans (congrArg some (by kernel_rfl))
  f318 := Try.func106.trans (congrArg some (by kernel_rfl))
  f319 := Try.func107.trans (congrArg some (by kernel_rfl))
  f320 := Try.func108.trans (congrArg some (by kernel_rfl))
  f337 := Try.func109.trans (congrArg some (by kernel_rfl))
  f338 := Try.func110.trans (congrArg some (by kernel_rfl))
  t0 := Try.underlying0
  a0 := Try.isAgg0
  z0 := Try.sizeOf0
  v0 := Try.zeroValue0
  t2 := Try.underlying2
  a2 := Try.isAgg2
  z2 := Try.sizeOf2
  v2 := Try.zeroValue2
  t3 := Try.underlying3
  a3 := Try.isAgg3
  z3 := Try.sizeOf3
  v3 := Try.zeroValue3
  t4 := Try.underlying4
  a4 := Try.isAgg4
  z4 := Try.sizeOf4
  v4 := Try.zeroValue4
  t5 := Try.underlying5
  a5 := Try.isAgg5
  z5 := Try.sizeOf5
  v5 := Try.zeroValue5
  t9 := Try.underlying9
  a9 := Try.isAgg9
  z9 := Try.sizeOf9
  v9 := Try.zeroValue9
  t20 := Try.underlying20
  a20 := Try.isAgg20
  z20 := Try.sizeOf20
  v20 := Try.zeroValue20
  t37 := Try.underlying137
  a37 := Try.isAgg137
  z37 := Try.sizeOf137
  v37 := Try.zeroValue137
  t46 := Try.underlying66
  a46 := Try.isAgg66
  z46 := Try.sizeOf66
  v46 := Try.zeroValue66
  t51 := Try.underlying83
  a51 := Try.isAgg83
  z51 := Try.sizeOf83
  v51 := Try.zeroValue83
  t53 := Try.underlying85
  a53 := Try.isAgg85
  z53 := Try.sizeOf85
  v53 := Try.zeroValue85
  t171 := Try.underlying135
  a171 := Try.isAgg135
  z171 := Try.sizeOf135
  v171 := Try.zeroValue135
  t173 := Try.underlying138
  a173 := Try.isAgg138
  z173 := Try.sizeOf138
  v173 := Try.zeroValue138
  t212 := Try.underlying142
  a212 := Try.isAgg142
  z212 := Try.sizeOf142
  v212 := Try.zeroValue142
  t213 := Try.underlying143
  a213 := Try.isAgg143
  z213 := Try.sizeOf143
  t232 := Try.underlying145
  a232 := Try.isAgg145
  z232 := Try.sizeOf145
  v232 := Try.zeroValue145
  t233 := Try.underlying146
  a233 := Try.isAgg146
  z233 := Try.sizeOf146
  v233 := Try.zeroValue146
  g17 := by kernel_rfl
  g18 := by kernel_rfl
  g19 := by kernel_rfl }
open Go.RowKit Go.Sort Go.Lib in
/-- THE ROAD WITHOUT THE TABLE: 0 <= i < 100: two constants are read, nothing is laid: no premise on the world, and the world is as it was. (LAID: no walk: one application.) -/
theorem Try.internal_strconv_FormatInt_10_small (i : Nat) (hi : i < 100) (w : World) :
    Calls Try.prog 100 #[.int .i64 i, .int .i64 10] w fun e w' => e = .returned (.string ⟨(Lib.decDigits i).toArray⟩) ∧ w' = w := Any.internal_strconv_FormatInt_10_small Try.lays246 i hi w
def Try.laysM243_ren : Go.Shelf.Ren := ⟨fun | 243 => 99 | 246 => 100 | 283 => 101 | 284 => 102 | 285 => 103 | 286 => 104 | 129 => 43 | 317 => 105 | 318 => 106 | 319 => 107 | 320 => 108 | 337 => 109 | 338 => 110 | n => n, fun | 3 => 3 | 9 => 9 | 2 => 2 | 4 => 4 | 171 => 135 | 0 => 0 | 53 => 85 | 37 => 137 | 5 => 5 | 173 => 138 | 212 => 142 | 51 => 83 | 20 => 20 | 213 => 143 | 46 => 66 | 232 => 145 | 233 => 146 | n => n, fun | 17 => 1 | 18 => 2 | 19 => 3 | n => n⟩
theorem Try.laysM243 : Go.Proofs.LaysM.n243 Try.prog Try.laysM243_ren := {
  mixed := by kernel_rfl
  f129 := Try.func43.trans (congrArg some (by kernel_rfl))
  f243 := Try.func99.trans (congrArg some (by kernel_rfl))
  f246 := Try.func100.trans (congrArg some (by kernel_rfl))
  f283 := Try.func101.trans (congrArg some (by kernel_rfl))
  f284 := Try.func102.trans (congrArg some (by kernel_rfl))
  f285 := Try.func103.trans (congrArg some (by kernel_rfl))
  f286 := Try.func104.trans (congrArg some (by kernel_rfl))
  f317 := Try.func105.trans (congrArg some (by kernel_rfl))
  f318 := Try.func106.trans (congrArg some (by kernel_rfl))
  f319 := Try.func107.trans (congrArg some (by kernel_rfl))
  f320 := Try.func108.trans (congrArg some (by kernel_rfl))
  f337 := Try.func109.trans (congrArg some (by kernel_rfl))
  f338 := Try.func110.trans (congrArg some (by kernel_rfl))
  t0 := Try.underlying0
  a0 := Try.isAgg0
  z0 := Try.sizeOf0
  v0 := Try.zeroValue0
  t2 := Try.underlying2
  a2 := Try.isAgg2
  z2 := Try.sizeOf2
  v2 := Try.zeroValue2
  t3 := Try.underlying3
  a3 := Try.isAgg3
  z3 := Try.sizeOf3
  v3 := Try.zeroValue3
  t4 := Try.underlying4
  a4 := Try.isAgg4
  z4 := Try.sizeOf4
  v4 := Try.zeroValue4
  t5 := Try.underlying5
  a5 := Try.isAgg5
  z5 := Try.sizeOf5
  v5 := Try.zeroValue5
  t9 := Try.underlying9
  a9 := Try.isAgg9
  z9 := Try.sizeOf9
  v9 := Try.zeroValue9
  t20 := Try.underlying20
  a20 := Try.isAgg20
  z20 := Try.sizeOf20
  v20 := Try.zeroValue20
  t37 := Try.underlying137
  a37 := Try.isAgg137
  z37 := Try.sizeOf137
  v37 := Try.zeroValue137
  t46 := Try.underlying66
  a46 := Try.isAgg66
  z46 := Try.sizeOf66
  v46 := Try.zeroValue66
  t51 := Try.underlying83
  a51 := Try.isAgg83
  z51 := Try.sizeOf83
  v51 := Try.zeroValue83
  t53 := Try.underlying85
  a53 := Try.isAgg85
  z53 := Try.sizeOf85
  v53 := Try.zeroValue85
  t171 := Try.underlying135
  a171 := Try.isAgg135
  z171 := Try.sizeOf135
  v171 := Try.zeroValue135
  t173 := Try.underlying138
  a173 := Try.isAgg138
  z173 := Try.sizeOf138
  v173 := Try.zeroValue138
  t212 := Try.underlying142
  a212 := Try.isAgg142
  z212 := Try.sizeOf142
  v212 := Try.zeroValue142
  t213 := Try.underlying143
  a213 := Try.isAgg143
  z213 := Try.sizeOf143
  t232 := Try.underlying145
  a232 := Try.isAgg145
  z232 := Try.sizeOf145
  v232 := Try.zeroValue145
  t233 := Try.underlying146
  a233 := Try.isAgg146
  z233 := Try.sizeOf146
  v233 := Try.zeroValue146
  g17 := by kernel_rfl
  g18 := by kernel_rfl
  g19 := by kernel_rfl
  i0 := by kernel_rfl
  i2 := by kernel_rfl
  i3 := by kernel_rfl
  i4 := by kernel_rfl
  i5 := by kernel_rfl
  i9 := by kernel_rfl
  i20 := by kernel_rfl
  i37 := by kernel_rfl
  i46 := by kernel_rfl
  i51 := by kernel_rfl
  i53 := by kernel_rfl
  i171 := by kernel_rfl
  i173 := by kernel_rfl
  i212 := by kernel_rfl
  i232 := by kernel_rfl
  i233 := by kernel_rfl
  m17 := by kernel_rfl
  m18 := by kernel_rfl
  m19 := by kernel_rfl }
open Go.RowKit Go.Sort Go.Lib in
/-- internal/strconv.Itoa: "Itoa is equivalent to FormatInt(int64(i), 10).": i's decimal numeral, for every int. (LAID: no walk: one application.) -/
theorem Try.internal_strconv_Itoa (n : Int) (h0 : -9223372036854775808 ≤ n) (h1 : n ≤ 9223372036854775807) (w : World) (htab : Lib.TabIs Try.prog w "internal/strconv.uint64pow10" .u64 Lib.pow10Tab) :
    Calls Try.prog 99 #[.int .i64 n] w fun e w' => e = .returned (.string ⟨(Lib.itoa n).toArray⟩) ∧ ∃ k os, w' = grow (w.drewN k) os := Any.internal_strconv_Itoa Try.laysM243 n h0 h1 w htab
def Try.lays243_ren : Go.Shelf.Ren := ⟨fun | 243 => 99 | 246 => 100 | 283 => 101 | 284 => 102 | 285 => 103 | 286 => 104 | 129 => 43 | 317 => 105 | 318 => 106 | 319 => 107 | 320 => 108 | 337 => 109 | 338 => 110 | n => n, fun | 3 => 3 | 9 => 9 | 2 => 2 | 4 => 4 | 171 => 135 | 0 => 0 | 53 => 85 | 37 => 137 | 5 => 5 | 173 => 138 | 212 => 142 | 51 => 83 | 20 => 20 | 213 => 143 | 46 => 66 | 232 => 145 | 233 => 146 | n => n, fun | 17 => 1 | 18 => 2 | 19 => 3 | n => n⟩
theorem Try.lays243 : Go.Proofs.Lays.n243 Try.prog Try.lays243_ren := {
  mixed := by kernel_rfl
  f129 := Try.func43.trans (congrArg some (by kernel_rfl))
  f243 := Try.func99.trans (congrArg some (by kernel_rfl))
  f246 := Try.func100.trans (congrArg some (by kernel_rfl))
  f283 := Try.func101.trans (congrArg some (by kernel_rfl))
  f284 := Try.func102.trans (congrArg some (by kernel_rfl))
  f285 := Try.func103.trans (congrArg some (by kernel_rfl))
  f286 := Try.func104.trans (congrArg some (by kernel_rfl))
  f317 := Try.func105.trans (congrArg some (by kernel_rfl))
  f318 := Try.func106.trans (congrArg some (by kernel_rfl))
  f319 := Try.func107.trans (congrArg some (by kernel_rfl))
  f320 := Try.func108.trans (congrArg some (by kernel_rfl))
  f337 := Try.func109.trans (congrArg some (by kernel_rfl))
  f338 := Try.func110.trans (congrArg some (by kernel_rfl))
  t0 := Try.underlying0
  a0 := Try.isAgg0
  z0 := Try.sizeOf0
  v0 := Try.zeroValue0
  t2 := Try.underlying2
  a2 := Try.isAgg2
  z2 := Try.sizeOf2
  v2 := Try.zeroValue2
  t3 := Try.underlying3
  a3 := Try.isAgg3
  z3 := Try.sizeOf3
  v3 := Try.zeroValue3
  t4 := Try.underlying4
  a4 := Try.isAgg4
  z4 := Try.sizeOf4
  v4 := Try.zeroValue4
  t5 := Try.underlying5
  a5 := Try.isAgg5
  z5 := Try.sizeOf5
  v5 := Try.zeroValue5
  t9 := Try.underlying9
  a9 := Try.isAgg9
  z9 := Try.sizeOf9
  v9 := Try.zeroValue9
  t20 := Try.underlying20
  a20 := Try.isAgg20
  z20 := Try.sizeOf20
  v20 := Try.zeroValue20
  t37 := Try.underlying137
  a37 := Try.isAgg137
  z37 := Try.sizeOf137
  v37 := Try.zeroValue137
  t46 := Try.underlying66
  a46 := Try.isAgg66
  z46 := Try.sizeOf66
  v46 := Try.zeroValue66
  t51 := Try.underlying83
  a51 := Try.isAgg83
  z51 := Try.sizeOf83
  v51 := Try.zeroValue83
  t53 := Try.underlying85
  a53 := Try.isAgg85
  z53 := Try.sizeOf85
  v53 := Try.zeroValue85
  t171 := Try.underlying135
  a171 := Try.isAgg135
  z171 := Try.sizeOf135
  v171 := Try.zeroValue135
  t173 := Try.underlying138
  a173 := Try.isAgg138
  z173 := Try.sizeOf138
  v173 := Try.zeroValue138
  t212 := Try.underlying142
  a212 := Try.isAgg142
  z212 := Try.sizeOf142
  v212 := Try.zeroValue142
  t213 := Try.underlying143
  a213 := Try.isAgg143
  z213 := Try.sizeOf143
  t232 := Try.underlying145
  a232 := Try.isAgg145
  z232 := Try.sizeOf145
  v232 := Try.zeroValue145
  t233 := Try.underlying146
  a233 := Try.isAgg146
  z233 := Try.sizeOf146
  v233 := Try.zeroValue146
  g17 := by kernel_rfl
  g18 := by kernel_rfl
  g19 := by kernel_rfl }
open Go.RowKit Go.Sort Go.Lib in
/-- THE ROAD WITHOUT THE TABLE: 0 <= i < 100. (LAID: no walk: one application.) -/
theorem Try.internal_strconv_Itoa_small (i : Nat) (hi : i < 100) (w : World) :
    Calls Try.prog 99 #[.int .i64 i] w fun e w' => e = .returned (.string ⟨(Lib.decDigits i).toArray⟩) ∧ w' = w := Any.internal_strconv_Itoa_small Try.lays243 i hi w
def Try.laysM171_ren : Go.Shelf.Ren := ⟨fun | 171 => 98 | 243 => 99 | 246 => 100 | 283 => 101 | 284 => 102 | 285 => 103 | 286 => 104 | 129 => 43 | 317 => 105 | 318 => 106 | 319 => 107 | 320 => 108 | 337 => 109 | 338 => 110 | n => n, fun | 3 => 3 | 9 => 9 | 2 => 2 | 4 => 4 | 171 => 135 | 0 => 0 | 53 => 85 | 37 => 137 | 5 => 5 | 173 => 138 | 212 => 142 | 51 => 83 | 20 => 20 | 213 => 143 | 46 => 66 | 232 => 145 | 233 => 146 | n => n, fun | 17 => 1 | 18 => 2 | 19 => 3 | n => n⟩
theorem Try.laysM171 : Go.Proofs.LaysM.n171 Try.prog Try.laysM171_ren := {
  mixed := by kernel_rfl
  f129 := Try.func43.trans (congrArg some (by kernel_rfl))
  f171 := Try.func98.trans (congrArg some (by kernel_rfl))
  f243 := Try.func99.trans (congrArg some (by kernel_rfl))
  f246 := Try.func100.trans (congrArg some (by kernel_rfl))
  f283 := Try.func101.trans (congrArg some (by kernel_rfl))
  f284 := Try.func102.trans (congrArg some (by kernel_rfl))
  f285 := Try.func103.trans (congrArg some (by kernel_rfl))
  f286 := Try.func104.trans (congrArg some (by kernel_rfl))
  f317 := Try.func105.trans (congrArg some (by kernel_rfl))
  f318 := Try.func106.trans (congrArg some (by kernel_rfl))
  f319 := Try.func107.trans (congrArg some (by kernel_rfl))
  f320 := Try.func108.trans (congrArg some (by kernel_rfl))
  f337 := Try.func109.trans (congrArg some (by kernel_rfl))
  f338 := Try.func110.trans (congrArg some (by kernel_rfl))
  t0 := Try.underlying0
  a0 := Try.isAgg0
  z0 := Try.sizeOf0
  v0 := Try.zeroValue0
  t2 := Try.underlying2
  a2 := Try.isAgg2
  z2 := Try.sizeOf2
  v2 := Try.zeroValue2
  t3 := Try.underlying3
  a3 := Try.isAgg3
  z3 := Try.sizeOf3
  v3 := Try.zeroValue3
  t4 := Try.underlying4
  a4 := Try.isAgg4
  z4 := Try.sizeOf4
  v4 := Try.zeroValue4
  t5 := Try.underlying5
  a5 := Try.isAgg5
  z5 := Try.sizeOf5
  v5 := Try.zeroValue5
  t9 := Try.underlying9
  a9 := Try.isAgg9
  z9 := Try.sizeOf9
  v9 := Try.zeroValue9
  t20 := Try.underlying20
  a20 := Try.isAgg20
  z20 := Try.sizeOf20
  v20 := Try.zeroValue20
  t37 := Try.underlying137
  a37 := Try.isAgg137
  z37 := Try.sizeOf137
  v37 := Try.zeroValue137
  t46 := Try.underlying66
  a46 := Try.isAgg66
  z46 := Try.sizeOf66
  v46 := Try.zeroValue66
  t51 := Try.underlying83
  a51 := Try.isAgg83
  z51 := Try.sizeOf83
  v51 := Try.zeroValue83
  t53 := Try.underlying85
  a53 := Try.isAgg85
  z53 := Try.sizeOf85
  v53 := Try.zeroValue85
  t171 := Try.underlying135
  a171 := Try.isAgg135
  z171 := Try.sizeOf135
  v171 := Try.zeroValue135
  t173 := Try.underlying138
  a173 := Try.isAgg138
  z173 := Try.sizeOf138
  v173 := Try.zeroValue138
  t212 := Try.underlying142
  a212 := Try.isAgg142
  z212 := Try.sizeOf142
  v212 := Try.zeroValue142
  t213 := Try.underlying143
  a213 := Try.isAgg143
  z213 := Try.sizeOf143
  t232 := Try.underlying145
  a232 := Try.isAgg145
  z232 := Try.sizeOf145
  v232 := Try.zeroValue145
  t233 := Try.underlying146
  a233 := Try.isAgg146
  z233 := Try.sizeOf146
  v233 := Try.zeroValue146
  g17 := by kernel_rfl
  g18 := by kernel_rfl
  g19 := by kernel_rfl
  i0 := by kernel_rfl
  i2 := by kernel_rfl
  i3 := by kernel_rfl
  i4 := by kernel_rfl
  i5 := by kernel_rfl
  i9 := by kernel_rfl
  i20 := by kernel_rfl
  i37 := by kernel_rfl
  i46 := by kernel_rfl
  i51 := by kernel_rfl
  i53 := by kernel_rfl
  i171 := by kernel_rfl
  i173 := by kernel_rfl
  i212 := by kernel_rfl
  i232 := by kernel_rfl
  i233 := by kernel_rfl
  m17 := by kernel_rfl
  m18 := by kernel_rfl
  m19 := by kernel_rfl }
open Go.RowKit Go.Sort Go.Lib in
/-- strconv.Itoa: "Itoa is equivalent to FormatInt(int64(i), 10).": i's DECIMAL NUMERAL ('Lib.itoa': a '-' where i is negative, then the digits), FOR EVERY int. The world behind the call: the world before it, new blocks behind the heap (the library's 'var a [24]byte'), draws. (LAID: no walk: one application.) -/
theorem Try.strconv_Itoa (n : Int) (h0 : -9223372036854775808 ≤ n) (h1 : n ≤ 9223372036854775807) (w : World) (htab : Lib.TabIs Try.prog w "internal/strconv.uint64pow10" .u64 Lib.pow10Tab) :
    Calls Try.prog 98 #[.int .i64 n] w fun e w' => e = .returned (.string ⟨(Lib.itoa n).toArray⟩) ∧ ∃ k os, w' = grow (w.drewN k) os := Any.strconv_Itoa Try.laysM171 n h0 h1 w htab
def Try.lays171_ren : Go.Shelf.Ren := ⟨fun | 171 => 98 | 243 => 99 | 246 => 100 | 283 => 101 | 284 => 102 | 285 => 103 | 286 => 104 | 129 => 43 | 317 => 105 | 318 => 106 | 319 => 107 | 320 => 108 | 337 => 109 | 338 => 110 | n => n, fun | 3 => 3 | 9 => 9 | 2 => 2 | 4 => 4 | 171 => 135 | 0 => 0 | 53 => 85 | 37 => 137 | 5 => 5 | 173 => 138 | 212 => 142 | 51 => 83 | 20 => 20 | 213 => 143 | 46 => 66 | 232 => 145 | 233 => 146 | n => n, fun | 17 => 1 | 18 => 2 | 19 => 3 | n => n⟩
theorem Try.lays171 : Go.Proofs.Lays.n171 Try.prog Try.lays171_ren := {
  mixed := by kernel_rfl
  f129 := Try.func43.trans (congrArg some (by kernel_rfl))
  f171 := Try.func98.trans (congrArg some (by kernel_rfl))
  f243 := Try.func99.trans (congrArg some (by kernel_rfl))
  f246 := Try.func100.trans (congrArg some (by kernel_rfl))
  f283 := Try.func101.trans (congrArg some (by kernel_rfl))
  f284 := Try.func102.trans (congrArg some (by kernel_rfl))
  f285 := Try.func103.trans (congrArg some (by kernel_rfl))
  f286 := Try.func104.trans (congrArg some (by kernel_rfl))
  f317 := Try.func105.trans (congrArg some (by kernel_rfl))
  f318 := Try.func106.trans (congrArg some (by kernel_rfl))
  f319 := Try.func107.trans (congrArg some (by kernel_rfl))
  f320 := Try.func108.trans (congrArg some (by kernel_rfl))
  f337 := Try.func109.trans (congrArg some (by kernel_rfl))
  f338 := Try.func110.trans (congrArg some (by kernel_rfl))
  t0 := Try.underlying0
  a0 := Try.isAgg0
  z0 := Try.sizeOf0
  v0 := Try.zeroValue0
  t2 := Try.underlying2
  a2 := Try.isAgg2
  z2 := Try.sizeOf2
  v2 := Try.zeroValue2
  t3 := Try.underlying3
  a3 := Try.isAgg3
  z3 := Try.sizeOf3
  v3 := Try.zeroValue3
  t4 := Try.underlying4
  a4 := Try.isAgg4
  z4 := Try.sizeOf4
  v4 := Try.zeroValue4
  t5 := Try.underlying5
  a5 := Try.isAgg5
  z5 := Try.sizeOf5
  v5 := Try.zeroValue5
  t9 := Try.underlying9
  a9 := Try.isAgg9
  z9 := Try.sizeOf9
  v9 := Try.zeroValue9
  t20 := Try.underlying20
  a20 := Try.isAgg20
  z20 := Try.sizeOf20
  v20 := Try.zeroValue20
  t37 := Try.underlying137
  a37 := Try.isAgg137
  z37 := Try.sizeOf137
  v37 := Try.zeroValue137
  t46 := Try.underlying66
  a46 := Try.isAgg66
  z46 := Try.sizeOf66
  v46 := Try.zeroValue66
  t51 := Try.underlying83
  a51 := Try.isAgg83
  z51 := Try.sizeOf83
  v51 := Try.zeroValue83
  t53 := Try.underlying85
  a53 := Try.isAgg85
  z53 := Try.sizeOf85
  v53 := Try.zeroValue85
  t171 := Try.underlying135
  a171 := Try.isAgg135
  z171 := Try.sizeOf135
  v171 := Try.zeroValue135
  t173 := Try.underlying138
  a173 := Try.isAgg138
  z173 := Try.sizeOf138
  v173 := Try.zeroValue138
  t212 := Try.underlying142
  a212 := Try.isAgg142
  z212 := Try.sizeOf142
  v212 := Try.zeroValue142
  t213 := Try.underlying143
  a213 := Try.isAgg143
  z213 := Try.sizeOf143
  t232 := Try.underlying145
  a232 := Try.isAgg145
  z232 := Try.sizeOf145
  v232 := Try.zeroValue145
  t233 := Try.underlying146
  a233 := Try.isAgg146
  z233 := Try.sizeOf146
  v233 := Try.zeroValue146
  g17 := by kernel_rfl
  g18 := by kernel_rfl
  g19 := by kernel_rfl }
open Go.RowKit Go.Sort Go.Lib in
/-- THE ROAD WITHOUT THE TABLE: 0 <= i < 100: NO PREMISE ON THE WORLD, AND THE WORLD IS AS IT WAS: a row that keeps its argument in that range need list no table ('laid = []'). (LAID: no walk: one application.) -/
theorem Try.strconv_Itoa_small (i : Nat) (hi : i < 100) (w : World) :
    Calls Try.prog 98 #[.int .i64 i] w fun e w' => e = .returned (.string ⟨(Lib.decDigits i).toArray⟩) ∧ w' = w := Any.strconv_Itoa_small Try.lays171 i hi w
def Try.lays190_ren : Go.Shelf.Ren := ⟨fun | 190 => 18 | 125 => 26 | 258 => 25 | 128 => 42 | 129 => 43 | 302 => 33 | 303 => 34 | 304 => 35 | 305 => 36 | 306 => 37 | 307 => 38 | 308 => 39 | 309 => 40 | 310 => 41 | 333 => 50 | 329 => 51 | 330 => 52 | 334 => 53 | 335 => 54 | 336 => 55 | 344 => 67 | n => n, fun | 31 => 27 | 9 => 9 | 3 => 3 | 46 => 66 | 0 => 0 | 51 => 83 | 53 => 85 | 4 => 4 | 183 => 75 | 182 => 74 | 131 => 80 | 5 => 5 | 218 => 94 | 222 => 57 | 228 => 107 | 229 => 108 | n => n, fun | n => n⟩
theorem Try.lays190 : Go.Proofs.Lays.n190 Try.prog Try.lays190_ren := {
  mixed := by kernel_rfl
  f125 := Try.func26.trans (congrArg some (by kernel_rfl))
  f128 := Try.func42.trans (congrArg some (by kernel_rfl))
  f129 := Try.func43.trans (congrArg some (by kernel_rfl))
  f190 := Try.func18.trans (congrArg some (by kernel_rfl))
  f258 := Try.func25.trans (congrArg some (by kernel_rfl))
  f302 := Try.func33.trans (congrArg some (by kernel_rfl))
  f303 := Try.func34.trans (congrArg some (by kernel_rfl))
  f304 := Try.func35.trans (congrArg some (by kernel_rfl))
  f305 := Try.func36.trans (congrArg some (by kernel_rfl))
  f306 := Try.func37.trans (congrArg some (by kernel_rfl))
  f307 := Try.func38.trans (congrArg some (by kernel_rfl))
  f308 := Try.func39.trans (congrArg some (by kernel_rfl))
  f309 := Try.func40.trans (congrArg some (by kernel_rfl))
  f310 := Try.func41.trans (congrArg some (by kernel_rfl))
  f329 := Try.func51.trans (congrArg some (by kernel_rfl))
  f330 := Try.func52.trans (congrArg some (by kernel_rfl))
  f333 := Try.func50.trans (congrArg some (by kernel_rfl))
  f334 := Try.func53.trans (congrArg some (by kernel_rfl))
  f335 := Try.func54.trans (congrArg some (by kernel_rfl))
  f336 := Try.func55.trans (congrArg some (by kernel_rfl))
  f344 := Try.func67.trans (congrArg some (by kernel_rfl))
  t0 := Try.underlying0
  a0 := Try.isAgg0
  z0 := Try.sizeOf0
  v0 := Try.zeroValue0
  t3 := Try.underlying3
  a3 := Try.isAgg3
  z3 := Try.sizeOf3
  v3 := Try.zeroValue3
  t4 := Try.underlying4
  a4 := Try.isAgg4
  z4 := Try.sizeOf4
  v4 := Try.zeroValue4
  t5 := Try.underlying5
  a5 := Try.isAgg5
  z5 := Try.sizeOf5
  v5 := Try.zeroValue5
  t9 := Try.underlying9
  a9 := Try.isAgg9
  z9 := Try.sizeOf9
  v9 := Try.zeroValue9
  t31 := Try.underlying27
  a31 := Try.isAgg27
  z31 := Try.sizeOf27
  v31 := Try.zeroValue27
  t46 := Try.underlying66
  a46 := Try.isAgg66
  z46 := Try.sizeOf66
  v46 := Try.zeroValue66
  t51 := Try.underlying83
  a51 := Try.isAgg83
  z51 := Try.sizeOf83
  v51 := Try.zeroValue83
  t53 := Try.underlying85
  a53 := Try.isAgg85
  z53 := Try.sizeOf85
  v53 := Try.zeroValue85
  t131 := Try.underlying80
  a131 := Try.isAgg80
  z131 := Try.sizeOf80
  v131 := Try.zeroValue80
  t182 := Try.underlying74
  a182 := Try.isAgg74
  z182 := Try.sizeOf74
  v182 := Try.zeroValue74
  t183 := Try.underlying75
  a183 := Try.isAgg75
  z183 := Try.sizeOf75
  v183 := Try.zeroValue75
  t218 := Try.underlying94
  a218 := Try.isAgg94
  z218 := Try.sizeOf94
  v218 := Try.zeroValue94
  t222 := Try.underlying57
  a222 := Try.isAgg57
  z222 := Try.sizeOf57
  v222 := Try.zeroValue57
  t228 := Try.underlying107
  a228 := Try.isAgg107
  z228 := Try.sizeOf107
  v228 := Try.zeroValue107
  t229 := Try.underlying108
  a229 := Try.isAgg108
  z229 := Try.sizeOf108
  v229 := Try.zeroValue108 }
open Go.Sort Go.RowKit in
theorem Try.slices_Sort_string (blk off cap : Nat) (ss : List (List UInt8)) (w : World) (hH : Holds encStr w blk off ss.toArray) (hblk : blk < w.heap.size) (hsz : ss.length < 4611686018427387904) :
    Calls Try.prog 18 #[.slice (some ⟨blk, off, none⟩) ss.length cap] w fun e w' =>
      e = .returned (.tuple #[]) ∧ ∃ n os, w' = grow (putRow encStr (Sort.ahead w n) blk off (ss.mergeSort fun x y => decide (x ≤ y)).toArray) os := Any.slices_Sort_string Try.lays190 blk off cap ss w hH hblk hsz
def Try.lays206_ren : Go.Shelf.Ren := ⟨fun | 206 => 68 | n => n, fun | 9 => 9 | 4 => 4 | 3 => 3 | n => n, fun | n => n⟩
theorem Try.lays206 : Go.Proofs.Lays.n206 Try.prog Try.lays206_ren := {
  mixed := by kernel_rfl
  f206 := Try.func68.trans (congrArg some (by kernel_rfl))
  t3 := Try.underlying3
  a3 := Try.isAgg3
  z3 := Try.sizeOf3
  v3 := Try.zeroValue3
  t4 := Try.underlying4
  a4 := Try.isAgg4
  z4 := Try.sizeOf4
  v4 := Try.zeroValue4
  t9 := Try.underlying9
  a9 := Try.isAgg9
  z9 := Try.sizeOf9
  v9 := Try.zeroValue9 }
open Go.RowKit Go.Lib in
/-- internal/stringslite.HasPrefix (what strings.HasPrefix calls). (LAID: no walk: one application.) -/
theorem Try.stringslite_HasPrefix (s p : ByteArray) (w : World) :
    Calls Try.prog 68 #[.string s, .string p] w fun e w' => e = .returned (.bool (Lib.hasPrefix s.data.toList p.data.toList)) ∧ w' = w := Any.stringslite_HasPrefix Try.lays206 s p w
def Try.lays99_ren : Go.Shelf.Ren := ⟨fun | 99 => 56 | 206 => 68 | n => n, fun | 9 => 9 | 4 => 4 | 3 => 3 | n => n, fun | n => n⟩
theorem Try.lays99 : Go.Proofs.Lays.n99 Try.prog Try.lays99_ren := {
  mixed := by kernel_rfl
  f99 := Try.func56.trans (congrArg some (by kernel_rfl))
  f206 := Try.func68.trans (congrArg some (by kernel_rfl))
  t3 := Try.underlying3
  a3 := Try.isAgg3
  z3 := Try.sizeOf3
  v3 := Try.zeroValue3
  t4 := Try.underlying4
  a4 := Try.isAgg4
  z4 := Try.sizeOf4
  v4 := Try.zeroValue4
  t9 := Try.underlying9
  a9 := Try.isAgg9
  z9 := Try.sizeOf9
  v9 := Try.zeroValue9 }
open Go.RowKit Go.Lib in
/-- strings.HasPrefix: "HasPrefix reports whether the string s begins with prefix.": IT RETURNS 'Lib.hasPrefix s prefix'; the world is as it was. (LAID: no walk: one application.) -/
theorem Try.strings_HasPrefix (s p : ByteArray) (w : World) :
    Calls Try.prog 56 #[.string s, .string p] w fun e w' => e = .returned (.bool (Lib.hasPrefix s.data.toList p.data.toList)) ∧ w' = w := Any.strings_HasPrefix Try.lays99 s p w
def Try.lays193_ren : Go.Shelf.Ren := ⟨fun | 193 => 9 | n => n, fun | 31 => 27 | 9 => 9 | 4 => 4 | 3 => 3 | 0 => 0 | n => n, fun | n => n⟩
theorem Try.lays193 : Go.Proofs.Lays.n193 Try.prog Try.lays193_ren := {
  mixed := by kernel_rfl
  f193 := Try.func9.trans (congrArg some (by kernel_rfl))
  t0 := Try.underlying0
  a0 := Try.isAgg0
  z0 := Try.sizeOf0
  v0 := Try.zeroValue0
  t3 := Try.underlying3
  a3 := Try.isAgg3
  z3 := Try.sizeOf3
  v3 := Try.zeroValue3
  t4 := Try.underlying4
  a4 := Try.isAgg4
  z4 := Try.sizeOf4
  v4 := Try.zeroValue4
  t9 := Try.underlying9
  a9 := Try.isAgg9
  z9 := Try.sizeOf9
  v9 := Try.zeroValue9
  t31 := Try.underlying27
  a31 := Try.isAgg27
  z31 := Try.sizeOf27
  v31 := Try.zeroValue27 }
open Go.RowKit Go.Lib in
/-- slices.Equal at []string: "Equal reports whether two slices are equal: the same length and all elements equal. If the lengths are different, Equal returns false. Otherwise, the elements are compared in increasing index order, and the comparison stops at the first unequal pair. Empty and nil slices are considered equal.": IT RETURNS WHETHER THE TWO LISTS OF ELEMENTS ARE ONE; the world is as it was but for the count of draws (the test 's1[i] != s2[i]' has two reads, whose order the model draws, once a round). 'xs', 'ys': what the cells behind the two addresses hold (the spare capacity too, if you have it); 'xs.take n', 'ys.take m': the elements. THE TWO SLICES MAY OVERLAP. (LAID: no walk: one application.) -/
theorem Try.slices_Equal_string (b1 o1 n c b2 o2 m d : Nat) (xs ys : List ByteArray) (w : World) (hx : n ≤ xs.length) (hy : m ≤ ys.length) (hbig : n ≤ 9223372036854775807) (hbig2 : m ≤ 9223372036854775807) (hc1 : ∀ j, j < xs.length → w.cell? ⟨b1, o1 + j, none⟩ = some (.string (xs.getD j ByteArray.empty))) (hc2 : ∀ j, j < ys.length → w.cell? ⟨b2, o2 + j, none⟩ = some (.string (ys.getD j ByteArray.empty))) :
    Calls Try.prog 9 #[.slice (some ⟨b1, o1, none⟩) n c, .slice (some ⟨b2, o2, none⟩) m d] w fun e w' => e = .returned (.bool (decide (xs.take n = ys.take m))) ∧ ∃ q, w' = w.drewN q := Any.slices_Equal_string Try.lays193 b1 o1 n c b2 o2 m d xs ys w hx hy hbig hbig2 hc1 hc2
open Go.RowKit Go.Lib in
/-- The same where the first is of length 0 (a nil one too): no cell is asked for. (LAID: no walk: one application.) -/
theorem Try.slices_Equal_string_empty (a1 a2 : Option Addr) (c m d : Nat) (w : World) (hbig2 : m ≤ 9223372036854775807) :
    Calls Try.prog 9 #[.slice a1 0 c, .slice a2 m d] w fun e w' => e = .returned (.bool (decide (m = 0))) ∧ w' = w := Any.slices_Equal_string_empty Try.lays193 a1 a2 c m d w hbig2
open Go.RowKit Go.Sort in
/-- .. and plain. (LAID: no walk: one application.) -/
theorem Try.slices_Sort_string_none (p : Option Addr) (cap : Nat) (w : World) :
    Calls Try.prog 18 #[.slice p 0 cap] w fun e w' => e = .returned (.tuple #[]) ∧ w' = w := Any.slices_Sort_string_none Try.lays190 p cap w
open Go.RowKit Go.Lib in
theorem Try.slices_Equal_string_lens (a1 a2 : Option Addr) (n c m d : Nat) (w : World) (hnm : n ≠ m) :
    Calls Try.prog 9 #[.slice a1 n c, .slice a2 m d] w fun e w' => e = .returned (.bool false) ∧ w' = w := Any.slices_Equal_string_lens Try.lays193 a1 a2 n c m d w hnm
end Go.Proofs
