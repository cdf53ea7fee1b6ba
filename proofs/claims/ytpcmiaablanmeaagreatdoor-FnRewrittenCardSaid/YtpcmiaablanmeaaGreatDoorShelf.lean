/-
  DERIVED: THE SHELF's CONTRACTS AT THIS DUMP, IN PLAIN WORDS (tools/lay-plain.mjs out of 'TryzShelf.lean', which tools/lay-shelf.mjs wrote): THE SAME DECLARATIONS UNDER THE SAME NAMES: 'import', 'namespace', 'open', 'def', 'theorem' AND NOTHING ELSE: no command of the shelf's: FOR A HAND-IN. Each laying: the table of numbers ('.._ren') and one theorem, a field a fact of the dump's own or the kernel's comparison; each contract: ONE APPLICATION.
-/
import Derived.Shelf.Small.Bits
import Derived.Shelf.Small.Strs
import Derived.Shelf.Small.Wraps
import Derived.Shelf.Strconv.ParseBool
import Derived.Shelf.Strconv.Itoa0
import Derived.Shelf.Strconv.Itoa1
import Derived.Shelf.LaysM
import Derived.Shelf.Strconv.Itoa2
import Derived.Shelf.Strconv.Itoa3
import Derived.Shelf.Strconv.ParseIntEmpty
import Derived.Shelf.Strconv.Clone
import Derived.Shelf.Strconv.ParseBoolErrInner
import Derived.Shelf.Strconv.Lower
import Derived.Shelf.Strconv.ParseUint10Empty
import Derived.Shelf.Strconv.ParseUintEmpty
import Derived.Shelf.Sort.Plain
import Derived.Shelf.Strings.Prefix
import Derived.Shelf.Slices.Equal
import Derived.Ground.Names2Prog
import Derived.Shelf.Slices.ReverseS
import Derived.Shelf.Slices.CompactS
import Derived.Shelf.Slices.Cells
import Derived.Shelf.Slices.In.SortNone
import Derived.Shelf.Slices.Empties2
import Derived.Shelf.SlSortCmp.NoneTotal
import Derived.Ground.SlsfProg
import Derived.Shelf.Spec.SearchS
import Derived.Ground.Names2Prog
import Derived.Shelf.SlGeneric
import Derived.Shelf.Spec.SlicesInsert
import Derived.Shelf.Spec.SlicesInsertGrow
import Derived.Ground.Names2Prog
import Derived.Shelf.SlGeneric
import Derived.Shelf.Strconv.ParseBool
import Derived.Ground.NamesProg
import Derived.Test.YtpcmiaablanmeaaGreatDoorProg
namespace Go.Proofs
open Go.Shelf
def Tryz.sortF_ren : Go.Shelf.Ren := ⟨fun | 6 => 86 | 15 => 59 | 14 => 98 | 28 => 80 | 29 => 81 | 20 => 104 | 21 => 105 | 22 => 106 | 23 => 107 | 24 => 108 | 25 => 109 | 26 => 110 | 27 => 111 | 46 => 113 | 47 => 92 | 48 => 93 | 49 => 114 | 50 => 115 | 57 => 116 | n => n, fun | 22 => 118 | 24 => 90 | 25 => 150 | 3 => 3 | 39 => 112 | 0 => 0 | 53 => 135 | 55 => 137 | 4 => 4 | 46 => 129 | 45 => 128 | 50 => 105 | 5 => 5 | 9 => 9 | 66 => 152 | 70 => 84 | 76 => 159 | 77 => 160 | n => n, fun | n => n⟩
theorem Tryz.sortF : Go.Proofs.SlLaysF.n6 Tryz.prog Tryz.sortF_ren := {
  mixed := by kernel_rfl
  f6 := ⟨Tryz.f86.name, by decide, Tryz.func86.trans (congrArg some (by kernel_rfl))⟩
  f14 := ⟨Tryz.f98.name, by decide, Tryz.func98.trans (congrArg some (by kernel_rfl))⟩
  f15 := Tryz.func59.trans (congrArg some (by kernel_rfl))
  f20 := ⟨Tryz.f104.name, by decide, Tryz.func104.trans (congrArg some (by kernel_rfl))⟩
  f21 := ⟨Tryz.f105.name, by decide, Tryz.func105.trans (congrArg some (by kernel_rfl))⟩
  f22 := ⟨Tryz.f106.name, by decide, Tryz.func106.trans (congrArg some (by kernel_rfl))⟩
  f23 := ⟨Tryz.f107.name, by decide, Tryz.func107.trans (congrArg some (by kernel_rfl))⟩
  f24 := ⟨Tryz.f108.name, by decide, Tryz.func108.trans (congrArg some (by kernel_rfl))⟩
  f25 := ⟨Tryz.f109.name, by decide, Tryz.func109.trans (congrArg some (by kernel_rfl))⟩
  f26 := ⟨Tryz.f110.name, by decide, Tryz.func110.trans (congrArg some (by kernel_rfl))⟩
  f27 := ⟨Tryz.f111.name, by decide, Tryz.func111.trans (congrArg some (by kernel_rfl))⟩
  f28 := Tryz.func80.trans (congrArg some (by kernel_rfl))
  f29 := Tryz.func81.trans (congrArg some (by kernel_rfl))
  f46 := ⟨Tryz.f113.name, by decide, Tryz.func113.trans (congrArg some (by kernel_rfl))⟩
  f47 := Tryz.func92.trans (congrArg some (by kernel_rfl))
  f48 := Tryz.func93.trans (congrArg some (by kernel_rfl))
  f49 := ⟨Tryz.f114.name, by decide, Tryz.func114.trans (congrArg some (by kernel_rfl))⟩
  f50 := ⟨Tryz.f115.name, by decide, Tryz.func115.trans (congrArg some (by kernel_rfl))⟩
  f57 := ⟨Tryz.f116.name, by decide, Tryz.func116.trans (congrArg some (by kernel_rfl))⟩
  t0 := Tryz.underlying0
  a0 := Tryz.isAgg0
  z0 := Tryz.sizeOf0
  v0 := Tryz.zeroValue0
  t3 := Tryz.underlying3
  a3 := Tryz.isAgg3
  z3 := Tryz.sizeOf3
  v3 := Tryz.zeroValue3
  t4 := Tryz.underlying4
  a4 := Tryz.isAgg4
  z4 := Tryz.sizeOf4
  v4 := Tryz.zeroValue4
  t5 := Tryz.underlying5
  a5 := Tryz.isAgg5
  z5 := Tryz.sizeOf5
  v5 := Tryz.zeroValue5
  t9 := Tryz.underlying9
  a9 := Tryz.isAgg9
  z9 := Tryz.sizeOf9
  v9 := Tryz.zeroValue9
  t22 := Tryz.underlying118
  a22 := Tryz.isAgg118
  z22 := Tryz.sizeOf118
  v22 := Tryz.zeroValue118
  a24 := Tryz.isAgg90
  z24 := Tryz.sizeOf90
  t25 := Tryz.underlying150
  a25 := Tryz.isAgg150
  z25 := Tryz.sizeOf150
  v25 := Tryz.zeroValue150
  t39 := Tryz.underlying112
  a39 := Tryz.isAgg112
  z39 := Tryz.sizeOf112
  v39 := Tryz.zeroValue112
  t45 := Tryz.underlying128
  a45 := Tryz.isAgg128
  z45 := Tryz.sizeOf128
  v45 := Tryz.zeroValue128
  t46 := Tryz.underlying129
  a46 := Tryz.isAgg129
  z46 := Tryz.sizeOf129
  v46 := Tryz.zeroValue129
  t50 := Tryz.underlying105
  a50 := Tryz.isAgg105
  z50 := Tryz.sizeOf105
  v50 := Tryz.zeroValue105
  t53 := Tryz.underlying135
  a53 := Tryz.isAgg135
  z53 := Tryz.sizeOf135
  v53 := Tryz.zeroValue135
  t55 := Tryz.underlying137
  a55 := Tryz.isAgg137
  z55 := Tryz.sizeOf137
  v55 := Tryz.zeroValue137
  t66 := Tryz.underlying152
  a66 := Tryz.isAgg152
  z66 := Tryz.sizeOf152
  v66 := Tryz.zeroValue152
  t70 := Tryz.underlying84
  a70 := Tryz.isAgg84
  z70 := Tryz.sizeOf84
  v70 := Tryz.zeroValue84
  t76 := Tryz.underlying159
  a76 := Tryz.isAgg159
  z76 := Tryz.sizeOf159
  v76 := Tryz.zeroValue159
  t77 := Tryz.underlying160
  a77 := Tryz.isAgg160
  z77 := Tryz.sizeOf160
  v77 := Tryz.zeroValue160 }
def Tryz.bsL_ren : Go.Shelf.Ren := ⟨fun | 26 => 55 | 33 => 68 | 34 => 69 | 38 => 89 | n => n, fun | 24 => 26 | 9 => 9 | 3 => 3 | 4 => 4 | 40 => 112 | 0 => 0 | n => n, fun | n => n⟩
theorem Tryz.bsL : Go.Proofs.Lays2.n26 Tryz.prog Tryz.bsL_ren := {
  mixed := by kernel_rfl
  f26 := Tryz.func55.trans (congrArg some (by kernel_rfl))
  f33 := Tryz.func68.trans (congrArg some (by kernel_rfl))
  f34 := Tryz.func69.trans (congrArg some (by kernel_rfl))
  f38 := Tryz.func89.trans (congrArg some (by kernel_rfl))
  t0 := Tryz.underlying0
  a0 := Tryz.isAgg0
  z0 := Tryz.sizeOf0
  v0 := Tryz.zeroValue0
  t3 := Tryz.underlying3
  a3 := Tryz.isAgg3
  z3 := Tryz.sizeOf3
  v3 := Tryz.zeroValue3
  t4 := Tryz.underlying4
  a4 := Tryz.isAgg4
  z4 := Tryz.sizeOf4
  v4 := Tryz.zeroValue4
  t9 := Tryz.underlying9
  a9 := Tryz.isAgg9
  z9 := Tryz.sizeOf9
  v9 := Tryz.zeroValue9
  t24 := Tryz.underlying26
  a24 := Tryz.isAgg26
  z24 := Tryz.sizeOf26
  v24 := Tryz.zeroValue26
  t40 := Tryz.underlying112
  a40 := Tryz.isAgg112
  z40 := Tryz.sizeOf112
  v40 := Tryz.zeroValue112 }
def Tryz.insL_ren : Go.Shelf.Ren := ⟨fun | 22 => 56 | 29 => 70 | 30 => 71 | 36 => 90 | 17 => 100 | n => n, fun | 24 => 26 | 9 => 9 | 3 => 3 | 4 => 4 | 0 => 0 | n => n, fun | n => n⟩
theorem Tryz.insL : Go.Proofs.Lays2.n22 Tryz.prog Tryz.insL_ren := {
  mixed := by kernel_rfl
  f17 := Tryz.func100.trans (congrArg some (by kernel_rfl))
  f22 := Tryz.func56.trans (congrArg some (by kernel_rfl))
  f29 := Tryz.func70.trans (congrArg some (by kernel_rfl))
  f30 := Tryz.func71.trans (congrArg some (by kernel_rfl))
  f36 := Tryz.func90.trans (congrArg some (by kernel_rfl))
  t0 := Tryz.underlying0
  a0 := Tryz.isAgg0
  z0 := Tryz.sizeOf0
  v0 := Tryz.zeroValue0
  t3 := Tryz.underlying3
  a3 := Tryz.isAgg3
  z3 := Tryz.sizeOf3
  v3 := Tryz.zeroValue3
  t4 := Tryz.underlying4
  a4 := Tryz.isAgg4
  z4 := Tryz.sizeOf4
  v4 := Tryz.zeroValue4
  t9 := Tryz.underlying9
  a9 := Tryz.isAgg9
  z9 := Tryz.sizeOf9
  v9 := Tryz.zeroValue9
  t24 := Tryz.underlying26
  a24 := Tryz.isAgg26
  z24 := Tryz.sizeOf26
  v24 := Tryz.zeroValue26
  i9 := by kernel_rfl }
def Tryz.pbL_ren : Go.Shelf.Ren := ⟨fun | 175 => 135 | 248 => 137 | 245 => 138 | 279 => 140 | 280 => 141 | 281 => 142 | 282 => 143 | 316 => 144 | 171 => 145 | 205 => 63 | 243 => 146 | 246 => 147 | 283 => 148 | 284 => 149 | 285 => 150 | 286 => 151 | 129 => 81 | 317 => 152 | 318 => 153 | 319 => 154 | 320 => 155 | 337 => 156 | 338 => 157 | n => n, fun | 9 => 9 | 4 => 4 | 75 => 60 | 87 => 97 | 3 => 3 | 167 => 188 | 168 => 189 | 210 => 194 | 37 => 196 | 0 => 0 | 127 => 179 | 145 => 147 | 143 => 145 | 2 => 2 | 171 => 198 | 53 => 137 | 5 => 5 | 173 => 200 | 212 => 204 | 51 => 135 | 20 => 20 | 213 => 205 | 46 => 112 | 232 => 207 | 233 => 208 | 80 => 157 | n => n, fun | 15 => 3 | 16 => 4 | 17 => 5 | 18 => 6 | 19 => 7 | n => n⟩
theorem Tryz.pbL : Go.Proofs.Lays.n175 Tryz.prog Tryz.pbL_ren := {
  mixed := by kernel_rfl
  f129 := Tryz.func81.trans (congrArg some (by kernel_rfl))
  f171 := Tryz.func145.trans (congrArg some (by kernel_rfl))
  f175 := Tryz.func135.trans (congrArg some (by kernel_rfl))
  f205 := Tryz.func63.trans (congrArg some (by kernel_rfl))
  f243 := Tryz.func146.trans (congrArg some (by kernel_rfl))
  f245 := Tryz.func138.trans (congrArg some (by kernel_rfl))
  f246 := Tryz.func147.trans (congrArg some (by kernel_rfl))
  f248 := Tryz.func137.trans (congrArg some (by kernel_rfl))
  f279 := Tryz.func140.trans (congrArg some (by kernel_rfl))
  f280 := Tryz.func141.trans (congrArg some (by kernel_rfl))
  f281 := Tryz.func142.trans (congrArg some (by kernel_rfl))
  f282 := Tryz.func143.trans (congrArg some (by kernel_rfl))
  f283 := Tryz.func148.trans (congrArg some (by kernel_rfl))
  f284 := Tryz.func149.trans (congrArg some (by kernel_rfl))
  f285 := Tryz.func150.trans (congrArg some (by kernel_rfl))
  f286 := Tryz.func151.trans (congrArg some (by kernel_rfl))
  f316 := Tryz.func144.trans (congrArg some (by kernel_rfl))
  f317 := Tryz.func152.trans (congrArg some (by kernel_rfl))
  f318 := Tryz.func153.trans (congrArg some (by kernel_rfl))
  f319 := Tryz.func154.trans (congrArg some (by kernel_rfl))
  f320 := Tryz.func155.trans (congrArg some (by kernel_rfl))
  f337 := Tryz.func156.trans (congrArg some (by kernel_rfl))
  f338 := Tryz.func157.trans (congrArg some (by kernel_rfl))
  t0 := Tryz.underlying0
  a0 := Tryz.isAgg0
  z0 := Tryz.sizeOf0
  v0 := Tryz.zeroValue0
  t2 := Tryz.underlying2
  a2 := Tryz.isAgg2
  z2 := Tryz.sizeOf2
  v2 := Tryz.zeroValue2
  t3 := Tryz.underlying3
  a3 := Tryz.isAgg3
  z3 := Tryz.sizeOf3
  v3 := Tryz.zeroValue3
  t4 := Tryz.underlying4
  a4 := Tryz.isAgg4
  z4 := Tryz.sizeOf4
  v4 := Tryz.zeroValue4
  t5 := Tryz.underlying5
  a5 := Tryz.isAgg5
  z5 := Tryz.sizeOf5
  v5 := Tryz.zeroValue5
  t9 := Tryz.underlying9
  a9 := Tryz.isAgg9
  z9 := Tryz.sizeOf9
  v9 := Tryz.zeroValue9
  t20 := Tryz.underlying20
  a20 := Tryz.isAgg20
  z20 := Tryz.sizeOf20
  v20 := Tryz.zeroValue20
  t37 := Tryz.underlying196
  a37 := Tryz.isAgg196
  z37 := Tryz.sizeOf196
  v37 := Tryz.zeroValue196
  t46 := Tryz.underlying112
  a46 := Tryz.isAgg112
  z46 := Tryz.sizeOf112
  v46 := Tryz.zeroValue112
  t51 := Tryz.underlying135
  a51 := Tryz.isAgg135
  z51 := Tryz.sizeOf135
  v51 := Tryz.zeroValue135
  t53 := Tryz.underlying137
  a53 := Tryz.isAgg137
  z53 := Tryz.sizeOf137
  v53 := Tryz.zeroValue137
  t75 := Tryz.underlying60
  a75 := Tryz.isAgg60
  z75 := Tryz.sizeOf60
  v75 := Tryz.zeroValue60
  t87 := Tryz.underlying97
  a87 := Tryz.isAgg97
  z87 := Tryz.sizeOf97
  v87 := Tryz.zeroValue97
  t127 := Tryz.underlying179
  a127 := Tryz.isAgg179
  z127 := Tryz.sizeOf179
  v127 := Tryz.zeroValue179
  t143 := Tryz.underlying145
  a143 := Tryz.isAgg145
  z143 := Tryz.sizeOf145
  v143 := Tryz.zeroValue145
  t145 := Tryz.underlying147
  a145 := Tryz.isAgg147
  z145 := Tryz.sizeOf147
  v145 := Tryz.zeroValue147
  t167 := Tryz.underlying188
  a167 := Tryz.isAgg188
  z167 := Tryz.sizeOf188
  v167 := Tryz.zeroValue188
  t168 := Tryz.underlying189
  a168 := Tryz.isAgg189
  z168 := Tryz.sizeOf189
  v168 := Tryz.zeroValue189
  t171 := Tryz.underlying198
  a171 := Tryz.isAgg198
  z171 := Tryz.sizeOf198
  v171 := Tryz.zeroValue198
  t173 := Tryz.underlying200
  a173 := Tryz.isAgg200
  z173 := Tryz.sizeOf200
  v173 := Tryz.zeroValue200
  t210 := Tryz.underlying194
  a210 := Tryz.isAgg194
  z210 := Tryz.sizeOf194
  v210 := Tryz.zeroValue194
  t212 := Tryz.underlying204
  a212 := Tryz.isAgg204
  z212 := Tryz.sizeOf204
  v212 := Tryz.zeroValue204
  t213 := Tryz.underlying205
  a213 := Tryz.isAgg205
  z213 := Tryz.sizeOf205
  t232 := Tryz.underlying207
  a232 := Tryz.isAgg207
  z232 := Tryz.sizeOf207
  v232 := Tryz.zeroValue207
  t233 := Tryz.underlying208
  a233 := Tryz.isAgg208
  z233 := Tryz.sizeOf208
  v233 := Tryz.zeroValue208
  g15 := by kernel_rfl
  g16 := by kernel_rfl
  g17 := by kernel_rfl
  g18 := by kernel_rfl
  g19 := by kernel_rfl }
def Tryz.lays128_ren : Go.Shelf.Ren := ⟨fun | 128 => 80 | n => n, fun | 51 => 135 | 3 => 3 | 4 => 4 | 46 => 112 | 5 => 5 | 9 => 9 | n => n, fun | n => n⟩
theorem Tryz.lays128 : Go.Proofs.Lays.n128 Tryz.prog Tryz.lays128_ren := {
  mixed := by kernel_rfl
  f128 := Tryz.func80.trans (congrArg some (by kernel_rfl))
  t3 := Tryz.underlying3
  a3 := Tryz.isAgg3
  z3 := Tryz.sizeOf3
  v3 := Tryz.zeroValue3
  t4 := Tryz.underlying4
  a4 := Tryz.isAgg4
  z4 := Tryz.sizeOf4
  v4 := Tryz.zeroValue4
  t5 := Tryz.underlying5
  a5 := Tryz.isAgg5
  z5 := Tryz.sizeOf5
  v5 := Tryz.zeroValue5
  t9 := Tryz.underlying9
  a9 := Tryz.isAgg9
  z9 := Tryz.sizeOf9
  v9 := Tryz.zeroValue9
  t46 := Tryz.underlying112
  a46 := Tryz.isAgg112
  z46 := Tryz.sizeOf112
  v46 := Tryz.zeroValue112
  t51 := Tryz.underlying135
  a51 := Tryz.isAgg135
  z51 := Tryz.sizeOf135
  v51 := Tryz.zeroValue135 }
/-- bits.Len32: "Len32 returns the minimum number of bits required to represent x; the result is 0 for x == 0.": IT RETURNS 'Lib.bitLen x'; the world is as it was. ('h0', 'h1': x is a uint32.) (LAID: no walk: one application.) -/
theorem Tryz.bits_Len32 (x : Int) (w : World) (h0 : 0 ≤ x) (h1 : x ≤ 4294967295) :
    Calls Tryz.prog 80 #[.int .u32 x] w fun e w' => e = .returned (.int .i64 (Lib.bitLen x.toNat)) ∧ w' = w := Any.bits_Len32 Tryz.lays128 x w h0 h1
def Tryz.lays125_ren : Go.Shelf.Ren := ⟨fun | 125 => 59 | 128 => 80 | 129 => 81 | n => n, fun | 46 => 112 | 3 => 3 | 51 => 135 | 53 => 137 | 4 => 4 | 5 => 5 | 9 => 9 | n => n, fun | n => n⟩
theorem Tryz.lays125 : Go.Proofs.Lays.n125 Tryz.prog Tryz.lays125_ren := {
  mixed := by kernel_rfl
  f125 := Tryz.func59.trans (congrArg some (by kernel_rfl))
  f128 := Tryz.func80.trans (congrArg some (by kernel_rfl))
  f129 := Tryz.func81.trans (congrArg some (by kernel_rfl))
  t3 := Tryz.underlying3
  a3 := Tryz.isAgg3
  z3 := Tryz.sizeOf3
  v3 := Tryz.zeroValue3
  t4 := Tryz.underlying4
  a4 := Tryz.isAgg4
  z4 := Tryz.sizeOf4
  v4 := Tryz.zeroValue4
  t5 := Tryz.underlying5
  a5 := Tryz.isAgg5
  z5 := Tryz.sizeOf5
  v5 := Tryz.zeroValue5
  t9 := Tryz.underlying9
  a9 := Tryz.isAgg9
  z9 := Tryz.sizeOf9
  v9 := Tryz.zeroValue9
  t46 := Tryz.underlying112
  a46 := Tryz.isAgg112
  z46 := Tryz.sizeOf112
  v46 := Tryz.zeroValue112
  t51 := Tryz.underlying135
  a51 := Tryz.isAgg135
  z51 := Tryz.sizeOf135
  v51 := Tryz.zeroValue135
  t53 := Tryz.underlying137
  a53 := Tryz.isAgg137
  z53 := Tryz.sizeOf137
  v53 := Tryz.zeroValue137 }
/-- bits.Len: "Len returns the minimum number of bits required to represent x; the result is 0 for x == 0.": IT RETURNS 'Lib.bitLen x'; the world is as it was. (A uint has 64 bits in the model.) ITS CALLEE bits.Len64 IS MET BY ITS OWN CONTRACT OFF THE SHELF (lay that first). (LAID: no walk: one application.) -/
theorem Tryz.bits_Len (x : Int) (w : World) (h0 : 0 ≤ x) (h1 : x ≤ 18446744073709551615) :
    Calls Tryz.prog 59 #[.int .u64 x] w fun e w' => e = .returned (.int .i64 (Lib.bitLen x.toNat)) ∧ w' = w := Any.bits_Len Tryz.lays125 x w h0 h1
def Tryz.lays213_ren : Go.Shelf.Ren := ⟨fun | 213 => 99 | 265 => 112 | n => n, fun | 9 => 9 | 3 => 3 | n => n, fun | n => n⟩
theorem Tryz.lays213 : Go.Proofs.Lays.n213 Tryz.prog Tryz.lays213_ren := {
  mixed := by kernel_rfl
  f213 := Tryz.func99.trans (congrArg some (by kernel_rfl))
  f265 := Tryz.func112.trans (congrArg some (by kernel_rfl))
  t3 := Tryz.underlying3
  a3 := Tryz.isAgg3
  z3 := Tryz.sizeOf3
  v3 := Tryz.zeroValue3
  t9 := Tryz.underlying9
  a9 := Tryz.isAgg9
  z9 := Tryz.sizeOf9
  v9 := Tryz.zeroValue9 }
open Go.RowKit in
/-- internal/bytealg.CompareString (what strings.Compare calls): IT RETURNS 'Lib.compareBytes a b'; the world is as it was. (LAID: no walk: one application.) -/
theorem Tryz.bytealg_CompareString (a b : ByteArray) (w : World) :
    Calls Tryz.prog 99 #[.string a, .string b] w fun e w' => e = .returned (.int .i64 (Lib.compareBytes a.data.toList b.data.toList)) ∧ w' = w := Any.bytealg_CompareString Tryz.lays213 a b w
def Tryz.lays106_ren : Go.Shelf.Ren := ⟨fun | 106 => 88 | 213 => 99 | 265 => 112 | n => n, fun | 9 => 9 | 3 => 3 | n => n, fun | n => n⟩
theorem Tryz.lays106 : Go.Proofs.Lays.n106 Tryz.prog Tryz.lays106_ren := {
  mixed := by kernel_rfl
  f106 := Tryz.func88.trans (congrArg some (by kernel_rfl))
  f213 := Tryz.func99.trans (congrArg some (by kernel_rfl))
  f265 := Tryz.func112.trans (congrArg some (by kernel_rfl))
  t3 := Tryz.underlying3
  a3 := Tryz.isAgg3
  z3 := Tryz.sizeOf3
  v3 := Tryz.zeroValue3
  t9 := Tryz.underlying9
  a9 := Tryz.isAgg9
  z9 := Tryz.sizeOf9
  v9 := Tryz.zeroValue9 }
open Go.RowKit in
/-- strings.Compare: "Compare returns an integer comparing two strings lexicographically. The result will be 0 if a == b, -1 if a < b, and +1 if a > b.": IT RETURNS 'Lib.compareBytes a b'; the world is as it was. (LAID: no walk: one application.) -/
theorem Tryz.strings_Compare (a b : ByteArray) (w : World) :
    Calls Tryz.prog 88 #[.string a, .string b] w fun e w' => e = .returned (.int .i64 (Lib.compareBytes a.data.toList b.data.toList)) ∧ w' = w := Any.strings_Compare Tryz.lays106 a b w
def Tryz.lays214_ren : Go.Shelf.Ren := ⟨fun | 214 => 139 | n => n, fun | 4 => 4 | 9 => 9 | n => n, fun | n => n⟩
theorem Tryz.lays214 : Go.Proofs.Lays.n214 Tryz.prog Tryz.lays214_ren := {
  mixed := by kernel_rfl
  f214 := Tryz.func139.trans (congrArg some (by kernel_rfl))
  t4 := Tryz.underlying4
  a4 := Tryz.isAgg4
  z4 := Tryz.sizeOf4
  v4 := Tryz.zeroValue4
  t9 := Tryz.underlying9
  a9 := Tryz.isAgg9
  z9 := Tryz.sizeOf9
  v9 := Tryz.zeroValue9 }
open Go.RowKit in
/-- internal/strconv.FormatBool (what strconv.FormatBool calls). (LAID: no walk: one application.) -/
theorem Tryz.internal_strconv_FormatBool (b : Bool) (w : World) :
    Calls Tryz.prog 139 #[.bool b] w fun e w' => e = .returned (.string ⟨(Lib.formatBool b).toArray⟩) ∧ w' = w := Any.internal_strconv_FormatBool Tryz.lays214 b w
def Tryz.lays121_ren : Go.Shelf.Ren := ⟨fun | 121 => 136 | 214 => 139 | n => n, fun | 4 => 4 | 9 => 9 | n => n, fun | n => n⟩
theorem Tryz.lays121 : Go.Proofs.Lays.n121 Tryz.prog Tryz.lays121_ren := {
  mixed := by kernel_rfl
  f121 := Tryz.func136.trans (congrArg some (by kernel_rfl))
  f214 := Tryz.func139.trans (congrArg some (by kernel_rfl))
  t4 := Tryz.underlying4
  a4 := Tryz.isAgg4
  z4 := Tryz.sizeOf4
  v4 := Tryz.zeroValue4
  t9 := Tryz.underlying9
  a9 := Tryz.isAgg9
  z9 := Tryz.sizeOf9
  v9 := Tryz.zeroValue9 }
open Go.RowKit in
/-- strconv.FormatBool: "FormatBool returns "true" or "false" according to the value of b.": IT RETURNS 'Lib.formatBool b'; the world is as it was. (LAID: no walk: one application.) -/
theorem Tryz.strconv_FormatBool (b : Bool) (w : World) :
    Calls Tryz.prog 136 #[.bool b] w fun e w' => e = .returned (.string ⟨(Lib.formatBool b).toArray⟩) ∧ w' = w := Any.strconv_FormatBool Tryz.lays121 b w
def Tryz.lays248_ren : Go.Shelf.Ren := ⟨fun | 248 => 137 | n => n, fun | 9 => 9 | 4 => 4 | 75 => 60 | 167 => 188 | 80 => 157 | n => n, fun | n => n⟩
theorem Tryz.lays248 : Go.Proofs.Lays.n248 Tryz.prog Tryz.lays248_ren := {
  mixed := by kernel_rfl
  f248 := Tryz.func137.trans (congrArg some (by kernel_rfl))
  t4 := Tryz.underlying4
  a4 := Tryz.isAgg4
  z4 := Tryz.sizeOf4
  v4 := Tryz.zeroValue4
  t9 := Tryz.underlying9
  a9 := Tryz.isAgg9
  z9 := Tryz.sizeOf9
  v9 := Tryz.zeroValue9
  t75 := Tryz.underlying60
  a75 := Tryz.isAgg60
  z75 := Tryz.sizeOf60
  v75 := Tryz.zeroValue60
  t167 := Tryz.underlying188
  a167 := Tryz.isAgg188
  z167 := Tryz.sizeOf188
  v167 := Tryz.zeroValue188 }
/-- internal/strconv.ParseBool, at a string that it accepts: the value, and no error. The world is as it was. (LAID: no walk: one application.) -/
theorem Tryz.internal_strconv_ParseBool (s : ByteArray) (b : Bool) (h : Lib.parseBool s.data.toList = some b) (w : World) :
    Calls Tryz.prog 137 #[.string s] w fun e w' => e = .returned (.tuple #[.bool b, .nilIface]) ∧ w' = w := Any.internal_strconv_ParseBool Tryz.lays248 s b h w
def Tryz.lays175_ren : Go.Shelf.Ren := ⟨fun | 175 => 135 | 248 => 137 | 245 => 138 | 279 => 140 | 280 => 141 | 281 => 142 | 282 => 143 | 316 => 144 | 171 => 145 | 205 => 63 | 243 => 146 | 246 => 147 | 283 => 148 | 284 => 149 | 285 => 150 | 286 => 151 | 129 => 81 | 317 => 152 | 318 => 153 | 319 => 154 | 320 => 155 | 337 => 156 | 338 => 157 | n => n, fun | 9 => 9 | 4 => 4 | 75 => 60 | 87 => 97 | 3 => 3 | 167 => 188 | 168 => 189 | 210 => 194 | 37 => 196 | 0 => 0 | 127 => 179 | 145 => 147 | 143 => 145 | 2 => 2 | 171 => 198 | 53 => 137 | 5 => 5 | 173 => 200 | 212 => 204 | 51 => 135 | 20 => 20 | 213 => 205 | 46 => 112 | 232 => 207 | 233 => 208 | 80 => 157 | n => n, fun | 15 => 3 | 16 => 4 | 17 => 5 | 18 => 6 | 19 => 7 | n => n⟩
theorem Tryz.lays175 : Go.Proofs.Lays.n175 Tryz.prog Tryz.lays175_ren := {
  mixed := by kernel_rfl
  f129 := Tryz.func81.trans (congrArg some (by kernel_rfl))
  f171 := Tryz.func145.trans (congrArg some (by kernel_rfl))
  f175 := Tryz.func135.trans (congrArg some (by kernel_rfl))
  f205 := Tryz.func63.trans (congrArg some (by kernel_rfl))
  f243 := Tryz.func146.trans (congrArg some (by kernel_rfl))
  f245 := Tryz.func138.trans (congrArg some (by kernel_rfl))
  f246 := Tryz.func147.trans (congrArg some (by kernel_rfl))
  f248 := Tryz.func137.trans (congrArg some (by kernel_rfl))
  f279 := Tryz.func140.trans (congrArg some (by kernel_rfl))
  f280 := Tryz.func141.trans (congrArg some (by kernel_rfl))
  f281 := Tryz.func142.trans (congrArg some (by kernel_rfl))
  f282 := Tryz.func143.trans (congrArg some (by kernel_rfl))
  f283 := Tryz.func148.trans (congrArg some (by kernel_rfl))
  f284 := Tryz.func149.trans (congrArg some (by kernel_rfl))
  f285 := Tryz.func150.trans (congrArg some (by kernel_rfl))
  f286 := Tryz.func151.trans (congrArg some (by kernel_rfl))
  f316 := Tryz.func144.trans (congrArg some (by kernel_rfl))
  f317 := Tryz.func152.trans (congrArg some (by kernel_rfl))
  f318 := Tryz.func153.trans (congrArg some (by kernel_rfl))
  f319 := Tryz.func154.trans (congrArg some (by kernel_rfl))
  f320 := Tryz.func155.trans (congrArg some (by kernel_rfl))
  f337 := Tryz.func156.trans (congrArg some (by kernel_rfl))
  f338 := Tryz.func157.trans (congrArg some (by kernel_rfl))
  t0 := Tryz.underlying0
  a0 := Tryz.isAgg0
  z0 := Tryz.sizeOf0
  v0 := Tryz.zeroValue0
  t2 := Tryz.underlying2
  a2 := Tryz.isAgg2
  z2 := Tryz.sizeOf2
  v2 := Tryz.zeroValue2
  t3 := Tryz.underlying3
  a3 := Tryz.isAgg3
  z3 := Tryz.sizeOf3
  v3 := Tryz.zeroValue3
  t4 := Tryz.underlying4
  a4 := Tryz.isAgg4
  z4 := Tryz.sizeOf4
  v4 := Tryz.zeroValue4
  t5 := Tryz.underlying5
  a5 := Tryz.isAgg5
  z5 := Tryz.sizeOf5
  v5 := Tryz.zeroValue5
  t9 := Tryz.underlying9
  a9 := Tryz.isAgg9
  z9 := Tryz.sizeOf9
  v9 := Tryz.zeroValue9
  t20 := Tryz.underlying20
  a20 := Tryz.isAgg20
  z20 := Tryz.sizeOf20
  v20 := Tryz.zeroValue20
  t37 := Tryz.underlying196
  a37 := Tryz.isAgg196
  z37 := Tryz.sizeOf196
  v37 := Tryz.zeroValue196
  t46 := Tryz.underlying112
  a46 := Tryz.isAgg112
  z46 := Tryz.sizeOf112
  v46 := Tryz.zeroValue112
  t51 := Tryz.underlying135
  a51 := Tryz.isAgg135
  z51 := Tryz.sizeOf135
  v51 := Tryz.zeroValue135
  t53 := Tryz.underlying137
  a53 := Tryz.isAgg137
  z53 := Tryz.sizeOf137
  v53 := Tryz.zeroValue137
  t75 := Tryz.underlying60
  a75 := Tryz.isAgg60
  z75 := Tryz.sizeOf60
  v75 := Tryz.zeroValue60
  t87 := Tryz.underlying97
  a87 := Tryz.isAgg97
  z87 := Tryz.sizeOf97
  v87 := Tryz.zeroValue97
  t127 := Tryz.underlying179
  a127 := Tryz.isAgg179
  z127 := Tryz.sizeOf179
  v127 := Tryz.zeroValue179
  t143 := Tryz.underlying145
  a143 := Tryz.isAgg145
  z143 := Tryz.sizeOf145
  v143 := Tryz.zeroValue145
  t145 := Tryz.underlying147
  a145 := Tryz.isAgg147
  z145 := Tryz.sizeOf147
  v145 := Tryz.zeroValue147
  t167 := Tryz.underlying188
  a167 := Tryz.isAgg188
  z167 := Tryz.sizeOf188
  v167 := Tryz.zeroValue188
  t168 := Tryz.underlying189
  a168 := Tryz.isAgg189
  z168 := Tryz.sizeOf189
  v168 := Tryz.zeroValue189
  t171 := Tryz.underlying198
  a171 := Tryz.isAgg198
  z171 := Tryz.sizeOf198
  v171 := Tryz.zeroValue198
  t173 := Tryz.underlying200
  a173 := Tryz.isAgg200
  z173 := Tryz.sizeOf200
  v173 := Tryz.zeroValue200
  t210 := Tryz.underlying194
  a210 := Tryz.isAgg194
  z210 := Tryz.sizeOf194
  v210 := Tryz.zeroValue194
  t212 := Tryz.underlying204
  a212 := Tryz.isAgg204
  z212 := Tryz.sizeOf204
  v212 := Tryz.zeroValue204
  t213 := Tryz.underlying205
  a213 := Tryz.isAgg205
  z213 := Tryz.sizeOf205
  t232 := Tryz.underlying207
  a232 := Tryz.isAgg207
  z232 := Tryz.sizeOf207
  v232 := Tryz.zeroValue207
  t233 := Tryz.underlying208
  a233 := Tryz.isAgg208
  z233 := Tryz.sizeOf208
  v233 := Tryz.zeroValue208
  g15 := by kernel_rfl
  g16 := by kernel_rfl
  g17 := by kernel_rfl
  g18 := by kernel_rfl
  g19 := by kernel_rfl }
/-- strconv.ParseBool: "ParseBool returns the boolean value represented by the string. It accepts 1, t, T, TRUE, true, True, 0, f, F, FALSE, false, False. Any other value returns an error.": AT ONE OF THE TWELVE. The world is as it was. (LAID: no walk: one application.) -/
theorem Tryz.strconv_ParseBool (s : ByteArray) (b : Bool) (h : Lib.parseBool s.data.toList = some b) (w : World) :
    Calls Tryz.prog 135 #[.string s] w fun e w' => e = .returned (.tuple #[.bool b, .nilIface]) ∧ w' = w := Any.strconv_ParseBool Tryz.lays175 s b h w
def Tryz.lays129_ren : Go.Shelf.Ren := ⟨fun | 129 => 81 | n => n, fun | 53 => 137 | 3 => 3 | 4 => 4 | 46 => 112 | 5 => 5 | 9 => 9 | n => n, fun | n => n⟩
theorem Tryz.lays129 : Go.Proofs.Lays.n129 Tryz.prog Tryz.lays129_ren := {
  mixed := by kernel_rfl
  f129 := Tryz.func81.trans (congrArg some (by kernel_rfl))
  t3 := Tryz.underlying3
  a3 := Tryz.isAgg3
  z3 := Tryz.sizeOf3
  v3 := Tryz.zeroValue3
  t4 := Tryz.underlying4
  a4 := Tryz.isAgg4
  z4 := Tryz.sizeOf4
  v4 := Tryz.zeroValue4
  t5 := Tryz.underlying5
  a5 := Tryz.isAgg5
  z5 := Tryz.sizeOf5
  v5 := Tryz.zeroValue5
  t9 := Tryz.underlying9
  a9 := Tryz.isAgg9
  z9 := Tryz.sizeOf9
  v9 := Tryz.zeroValue9
  t46 := Tryz.underlying112
  a46 := Tryz.isAgg112
  z46 := Tryz.sizeOf112
  v46 := Tryz.zeroValue112
  t53 := Tryz.underlying137
  a53 := Tryz.isAgg137
  z53 := Tryz.sizeOf137
  v53 := Tryz.zeroValue137 }
/-- bits.Len64: "Len64 returns the minimum number of bits required to represent x; the result is 0 for x == 0.": IT RETURNS 'Lib.bitLen x'; the world is as it was. ('h0', 'h1': x is a uint64.) (LAID: no walk: one application.) -/
theorem Tryz.bits_Len64 (x : Int) (w : World) (h0 : 0 ≤ x) (h1 : x ≤ 18446744073709551615) :
    Calls Tryz.prog 81 #[.int .u64 x] w fun e w' => e = .returned (.int .i64 (Lib.bitLen x.toNat)) ∧ w' = w := Any.bits_Len64 Tryz.lays129 x w h0 h1
def Tryz.lays317_ren : Go.Shelf.Ren := ⟨fun | 317 => 152 | n => n, fun | 3 => 3 | 46 => 112 | n => n, fun | n => n⟩
theorem Tryz.lays317 : Go.Proofs.Lays.n317 Tryz.prog Tryz.lays317_ren := {
  mixed := by kernel_rfl
  f317 := Tryz.func152.trans (congrArg some (by kernel_rfl))
  t3 := Tryz.underlying3
  a3 := Tryz.isAgg3
  z3 := Tryz.sizeOf3
  v3 := Tryz.zeroValue3
  t46 := Tryz.underlying112
  a46 := Tryz.isAgg112
  z46 := Tryz.sizeOf112
  v46 := Tryz.zeroValue112 }
open Go.Lib in
/-- internal/strconv.log10Pow2: "log10Pow2(x) returns ⌊log₁₀ 2**x⌋ = ⌊x * log₁₀ 2⌋.": '(x * 78913) >> 18', at an x up to 64 (a length in bits). The world is as it was. (LAID: no walk: one application.) -/
theorem Tryz.internal_strconv_log10Pow2 (x : Nat) (h : x ≤ 64) (w : World) :
    Calls Tryz.prog 152 #[.int .i64 x] w fun e w' => e = .returned (.int .i64 (Lib.l10 x)) ∧ w' = w := Any.internal_strconv_log10Pow2 Tryz.lays317 x h w
def Tryz.lays318_ren : Go.Shelf.Ren := ⟨fun | 318 => 153 | n => n, fun | 3 => 3 | 4 => 4 | n => n, fun | n => n⟩
theorem Tryz.lays318 : Go.Proofs.Lays.n318 Tryz.prog Tryz.lays318_ren := {
  mixed := by kernel_rfl
  f318 := Tryz.func153.trans (congrArg some (by kernel_rfl))
  t3 := Tryz.underlying3
  a3 := Tryz.isAgg3
  z3 := Tryz.sizeOf3
  v3 := Tryz.zeroValue3
  t4 := Tryz.underlying4
  a4 := Tryz.isAgg4
  z4 := Tryz.sizeOf4
  v4 := Tryz.zeroValue4 }
open Go.Lib in
/-- internal/strconv.bool2: "bool2 converts b to an integer: 1 for true, 0 for false." The world is as it was. (LAID: no walk: one application.) -/
theorem Tryz.internal_strconv_bool2_int (b : Bool) (w : World) :
    Calls Tryz.prog 153 #[.bool b] w fun e w' => e = .returned (.int .i64 (if b then 1 else 0)) ∧ w' = w := Any.internal_strconv_bool2_int Tryz.lays318 b w
def Tryz.lays283_ren : Go.Shelf.Ren := ⟨fun | 283 => 148 | n => n, fun | 3 => 3 | 9 => 9 | 4 => 4 | n => n, fun | n => n⟩
theorem Tryz.lays283 : Go.Proofs.Lays.n283 Tryz.prog Tryz.lays283_ren := {
  mixed := by kernel_rfl
  f283 := Tryz.func148.trans (congrArg some (by kernel_rfl))
  t3 := Tryz.underlying3
  a3 := Tryz.isAgg3
  z3 := Tryz.sizeOf3
  v3 := Tryz.zeroValue3
  t4 := Tryz.underlying4
  a4 := Tryz.isAgg4
  z4 := Tryz.sizeOf4
  v4 := Tryz.zeroValue4
  t9 := Tryz.underlying9
  a9 := Tryz.isAgg9
  z9 := Tryz.sizeOf9
  v9 := Tryz.zeroValue9 }
open Go.Lib in
/-- internal/strconv.small: "small returns the string for an i with 0 <= i < nSmalls.": i's decimal numeral. The world is as it was. (LAID: no walk: one application.) -/
theorem Tryz.internal_strconv_small (i : Nat) (h : i < 100) (w : World) :
    Calls Tryz.prog 148 #[.int .i64 i] w fun e w' => e = .returned (.string ⟨(Lib.decDigits i).toArray⟩) ∧ w' = w := Any.internal_strconv_small Tryz.lays283 i h w
def Tryz.laysM284_ren : Go.Shelf.Ren := ⟨fun | 284 => 149 | 129 => 81 | 317 => 152 | 318 => 153 | n => n, fun | 53 => 137 | 3 => 3 | 212 => 204 | 0 => 0 | 4 => 4 | 46 => 112 | 5 => 5 | 9 => 9 | n => n, fun | 17 => 5 | n => n⟩
theorem Tryz.laysM284 : Go.Proofs.LaysM.n284 Tryz.prog Tryz.laysM284_ren := {
  mixed := by kernel_rfl
  f129 := Tryz.func81.trans (congrArg some (by kernel_rfl))
  f284 := Tryz.func149.trans (congrArg some (by kernel_rfl))
  f317 := Tryz.func152.trans (congrArg some (by kernel_rfl))
  f318 := Tryz.func153.trans (congrArg some (by kernel_rfl))
  t0 := Tryz.underlying0
  a0 := Tryz.isAgg0
  z0 := Tryz.sizeOf0
  v0 := Tryz.zeroValue0
  t3 := Tryz.underlying3
  a3 := Tryz.isAgg3
  z3 := Tryz.sizeOf3
  v3 := Tryz.zeroValue3
  t4 := Tryz.underlying4
  a4 := Tryz.isAgg4
  z4 := Tryz.sizeOf4
  v4 := Tryz.zeroValue4
  t5 := Tryz.underlying5
  a5 := Tryz.isAgg5
  z5 := Tryz.sizeOf5
  v5 := Tryz.zeroValue5
  t9 := Tryz.underlying9
  a9 := Tryz.isAgg9
  z9 := Tryz.sizeOf9
  v9 := Tryz.zeroValue9
  t46 := Tryz.underlying112
  a46 := Tryz.isAgg112
  z46 := Tryz.sizeOf112
  v46 := Tryz.zeroValue112
  t53 := Tryz.underlying137
  a53 := Tryz.isAgg137
  z53 := Tryz.sizeOf137
  v53 := Tryz.zeroValue137
  t212 := Tryz.underlying204
  a212 := Tryz.isAgg204
  z212 := Tryz.sizeOf204
  v212 := Tryz.zeroValue204
  g17 := by kernel_rfl
  i0 := by kernel_rfl
  i3 := by kernel_rfl
  i4 := by kernel_rfl
  i5 := by kernel_rfl
  i9 := by kernel_rfl
  i46 := by kernel_rfl
  i53 := by kernel_rfl
  i212 := by kernel_rfl
  m17 := by kernel_rfl }
open Go.Lib in
/-- internal/strconv.numDigits, at a d that is not 0: THE NUMBER OF d's DECIMAL DIGITS. The world is as it was. (LAID: no walk: one application.) -/
theorem Tryz.internal_strconv_numDigits (u : Nat) (h1 : 1 ≤ u) (h2 : u < 18446744073709551616) (w : World) (htab : Lib.TabIs Tryz.prog w "internal/strconv.uint64pow10" .u64 Lib.pow10Tab) :
    Calls Tryz.prog 149 #[.int .u64 u] w fun e w' => e = .returned (.int .i64 (Lib.nDigits u)) ∧ w' = w := Any.internal_strconv_numDigits Tryz.laysM284 u h1 h2 w htab
def Tryz.lays285_ren : Go.Shelf.Ren := ⟨fun | 285 => 150 | n => n, fun | 37 => 196 | 53 => 137 | 3 => 3 | 4 => 4 | 51 => 135 | 9 => 9 | 5 => 5 | 0 => 0 | n => n, fun | n => n⟩
theorem Tryz.lays285 : Go.Proofs.Lays.n285 Tryz.prog Tryz.lays285_ren := {
  mixed := by kernel_rfl
  f285 := Tryz.func150.trans (congrArg some (by kernel_rfl))
  t0 := Tryz.underlying0
  a0 := Tryz.isAgg0
  z0 := Tryz.sizeOf0
  v0 := Tryz.zeroValue0
  t3 := Tryz.underlying3
  a3 := Tryz.isAgg3
  z3 := Tryz.sizeOf3
  v3 := Tryz.zeroValue3
  t4 := Tryz.underlying4
  a4 := Tryz.isAgg4
  z4 := Tryz.sizeOf4
  v4 := Tryz.zeroValue4
  t5 := Tryz.underlying5
  a5 := Tryz.isAgg5
  z5 := Tryz.sizeOf5
  v5 := Tryz.zeroValue5
  t9 := Tryz.underlying9
  a9 := Tryz.isAgg9
  z9 := Tryz.sizeOf9
  v9 := Tryz.zeroValue9
  t37 := Tryz.underlying196
  a37 := Tryz.isAgg196
  z37 := Tryz.sizeOf196
  v37 := Tryz.zeroValue196
  t51 := Tryz.underlying135
  a51 := Tryz.isAgg135
  z51 := Tryz.sizeOf135
  v51 := Tryz.zeroValue135
  t53 := Tryz.underlying137
  a53 := Tryz.isAgg137
  z53 := Tryz.sizeOf137
  v53 := Tryz.zeroValue137 }
open Go.RowKit Go.Sort Go.Lib in
/-- internal/strconv.formatBase10: "formatBase10 formats the decimal representation of u into a. The caller is responsible for ensuring that a is big enough to hold u. If a is too big, leading zeros will be filled in as needed.": THE ROW HOLDS u's DIGITS ('FmtInv .. 0 ..': every place t holds 'dg u (len - 1 - t)'); all else is as it was but for the count of draws. (LAID: no walk: one application.) -/
theorem Tryz.internal_strconv_formatBase10 (blk off cap : Nat) (u : Nat) (d : Array UInt8) (w : World) (hH : Holds (fun (b : UInt8) => Value.int .u8 (b.toNat : Int)) w blk off d) (hu : u < 10 ^ d.size) (hu64 : u < 18446744073709551616) (hsz : d.size < 4611686018427387904) :
    Calls Tryz.prog 150 #[.slice (some ⟨blk, off, none⟩) d.size cap, .int .u64 u] w fun e w' =>
      e = .returned (.tuple #[]) ∧ ∃ (n v' : Nat) (dk : Array UInt8), w' = (putRow (fun (b : UInt8) => Value.int .u8 (b.toNat : Int)) w blk off dk).drewN n ∧ FmtInv d.size u 0 v' dk := Any.internal_strconv_formatBase10 Tryz.lays285 blk off cap u d w hH hu hu64 hsz
def Tryz.laysM246_ren : Go.Shelf.Ren := ⟨fun | 246 => 147 | 283 => 148 | 284 => 149 | 285 => 150 | 286 => 151 | 129 => 81 | 317 => 152 | 318 => 153 | 319 => 154 | 320 => 155 | 337 => 156 | 338 => 157 | n => n, fun | 2 => 2 | 3 => 3 | 9 => 9 | 4 => 4 | 171 => 198 | 0 => 0 | 53 => 137 | 37 => 196 | 5 => 5 | 173 => 200 | 212 => 204 | 51 => 135 | 20 => 20 | 213 => 205 | 46 => 112 | 232 => 207 | 233 => 208 | n => n, fun | 17 => 5 | 18 => 6 | 19 => 7 | n => n⟩
theorem Tryz.laysM246 : Go.Proofs.LaysM.n246 Tryz.prog Tryz.laysM246_ren := {
  mixed := by kernel_rfl
  f129 := Tryz.func81.trans (congrArg some (by kernel_rfl))
  f246 := Tryz.func147.trans (congrArg some (by kernel_rfl))
  f283 := Tryz.func148.trans (congrArg some (by kernel_rfl))
  f284 := Tryz.func149.trans (congrArg some (by kernel_rfl))
  f285 := Tryz.func150.trans (congrArg some (by kernel_rfl))
  f286 := Tryz.func151.trans (congrArg some (by kernel_rfl))
  f317 := Tryz.func152.trans (congrArg some (by kernel_rfl))
  f318 := Tryz.func153.trans (congrArg some (by kernel_rfl))
  f319 := Tryz.func154.trans (congrArg some (by kernel_rfl))
  f320 := Tryz.func155.trans (congrArg some (by kernel_rfl))
  f337 := Tryz.func156.trans (congrArg some (by kernel_rfl))
  f338 := Tryz.func157.trans (congrArg some (by kernel_rfl))
  t0 := Tryz.underlying0
  a0 := Tryz.isAgg0
  z0 := Tryz.sizeOf0
  v0 := Tryz.zeroValue0
  t2 := Tryz.underlying2
  a2 := Tryz.isAgg2
  z2 := Tryz.sizeOf2
  v2 := Tryz.zeroValue2
  t3 := Tryz.underlying3
  a3 := Tryz.isAgg3
  z3 := Tryz.sizeOf3
  v3 := Tryz.zeroValue3
  t4 := Tryz.underlying4
  a4 := Tryz.isAgg4
  z4 := Tryz.sizeOf4
  v4 := Tryz.zeroValue4
  t5 := Tryz.underlying5
  a5 := Tryz.isAgg5
  z5 := Tryz.sizeOf5
  v5 := Tryz.zeroValue5
  t9 := Tryz.underlying9
  a9 := Tryz.isAgg9
  z9 := Tryz.sizeOf9
  v9 := Tryz.zeroValue9
  t20 := Tryz.underlying20
  a20 := Tryz.isAgg20
  z20 := Tryz.sizeOf20
  v20 := Tryz.zeroValue20
  t37 := Tryz.underlying196
  a37 := Tryz.isAgg196
  z37 := Tryz.sizeOf196
  v37 := Tryz.zeroValue196
  t46 := Tryz.underlying112
  a46 := Tryz.isAgg112
  z46 := Tryz.sizeOf112
  v46 := Tryz.zeroValue112
  t51 := Tryz.underlying135
  a51 := Tryz.isAgg135
  z51 := Tryz.sizeOf135
  v51 := Tryz.zeroValue135
  t53 := Tryz.underlying137
  a53 := Tryz.isAgg137
  z53 := Tryz.sizeOf137
  v53 := Tryz.zeroValue137
  t171 := Tryz.underlying198
  a171 := Tryz.isAgg198
  z171 := Tryz.sizeOf198
  v171 := Tryz.zeroValue198
  t173 := Tryz.underlying200
  a173 := Tryz.isAgg200
  z173 := Tryz.sizeOf200
  v173 := Tryz.zeroValue200
  t212 := Tryz.underlying204
  a212 := Tryz.isAgg204
  z212 := Tryz.sizeOf204
  v212 := Tryz.zeroValue204
  t213 := Tryz.underlying205
  a213 := Tryz.isAgg205
  z213 := Tryz.sizeOf205
  t232 := Tryz.underlying207
  a232 := Tryz.isAgg207
  z232 := Tryz.sizeOf207
  v232 := Tryz.zeroValue207
  t233 := Tryz.underlying208
  a233 := Tryz.isAgg208
  z233 := Tryz.sizeOf208
  v233 := Tryz.zeroValue208
  g17 := by kernel_rfl
  g18 := by kernel_rfl
  g19 := by kernel_rfl
  i0 := by kernel_rfl
  i2 := by kernel_rfl
  i3 := by kernel_rfl
  i4 := by kernel_rfl
  i5 := by kernel_rfl
  i9 := by kernel_rfl
  i20 := by kernel_rfl
  i37 := by kernel_rfl
  i46 := by kernel_rfl
  i51 := by kernel_rfl
  i53 := by kernel_rfl
  i171 := by kernel_rfl
  i173 := by kernel_rfl
  i212 := by kernel_rfl
  i232 := by kernel_rfl
  i233 := by kernel_rfl
  m17 := by kernel_rfl
  m18 := by kernel_rfl
  m19 := by kernel_rfl }
open Go.RowKit Go.Sort Go.Lib in
/-- internal/strconv.FormatInt: "FormatInt returns the string representation of i in the given base": AT BASE 10: i's decimal numeral, for every int64. The world behind the call: the world before it, new blocks behind the heap, draws. (LAID: no walk: one application.) -/
theorem Tryz.internal_strconv_FormatInt_10 (n : Int) (h0 : -9223372036854775808 ≤ n) (h1 : n ≤ 9223372036854775807) (w : World) (htab : Lib.TabIs Tryz.prog w "internal/strconv.uint64pow10" .u64 Lib.pow10Tab) :
    Calls Tryz.prog 147 #[.int .i64 n, .int .i64 10] w fun e w' => e = .returned (.string ⟨(Lib.itoa n).toArray⟩) ∧ ∃ k os, w' = grow (w.drewN k) os := Any.internal_strconv_FormatInt_10 Tryz.laysM246 n h0 h1 w htab
def Tryz.lays246_ren : Go.Shelf.Ren := ⟨fun | 246 => 147 | 283 => 148 | 284 => 149 | 285 => 150 | 286 => 151 | 129 => 81 | 317 => 152 | 318 => 153 | 319 => 154 | 320 => 155 | 337 => 156 | 338 => 157 | n => n, fun | 2 => 2 | 3 => 3 | 9 => 9 | 4 => 4 | 171 => 198 | 0 => 0 | 53 => 137 | 37 => 196 | 5 => 5 | 173 => 200 | 212 => 204 | 51 => 135 | 20 => 20 | 213 => 205 | 46 => 112 | 232 => 207 | 233 => 208 | n => n, fun | 17 => 5 | 18 => 6 | 19 => 7 | n => n⟩
theorem Tryz.lays246 : Go.Proofs.Lays.n246 Tryz.prog Tryz.lays246_ren := {
  mixed := by kernel_rfl
  f129 := Tryz.func81.trans (congrArg some (by kernel_rfl))
  f246 := Tryz.func147.trans (congrArg some (by kernel_rfl))
  f283 := Tryz.func148.trans (congrArg some (by kernel_rfl))
  f284 := Tryz.func149.trans (congrArg some (by kernel_rfl))
  f285 := Tryz.func150.trans (congrArg some (by kernel_rfl))
  f286 := Tryz.func151.trans (congrArg some (by kernel_rfl))
  f317 := Tryz.func152.trans (congrArg some (by kernel_rfl))
  f318 := Tryz.func153.trans (congrArg some (by kernel_rfl))
  f319 := Tryz.func154.trans (congrArg some (by kernel_rfl))
  f320 := Tryz.func155.trans (congrArg some (by kernel_rfl))
  f337 := Tryz.func156.trans (congrArg some (by kernel_rfl))
  f338 := Tryz.func157.trans (congrArg some (by kernel_rfl))
  t0 := Tryz.underlying0
  a0 := Tryz.isAgg0
  z0 := Tryz.sizeOf0
  v0 := Tryz.zeroValue0
  t2 := Tryz.underlying2
  a2 := Tryz.isAgg2
  z2 := Tryz.sizeOf2
  v2 := Tryz.zeroValue2
  t3 := Tryz.underlying3
  a3 := Tryz.isAgg3
  z3 := Tryz.sizeOf3
  v3 := Tryz.zeroValue3
  t4 := Tryz.underlying4
  a4 := Tryz.isAgg4
  z4 := Tryz.sizeOf4
  v4 := Tryz.zeroValue4
  t5 := Tryz.underlying5
  a5 := Tryz.isAgg5
  z5 := Tryz.sizeOf5
  v5 := Tryz.zeroValue5
  t9 := Tryz.underlying9
  a9 := Tryz.isAgg9
  z9 := Tryz.sizeOf9
  v9 := Tryz.zeroValue9
  t20 := Tryz.underlying20
  a20 := Tryz.isAgg20
  z20 := Tryz.sizeOf20
  v20 := Tryz.zeroValue20
  t37 := Tryz.underlying196
  a37 := Tryz.isAgg196
  z37 := Tryz.sizeOf196
  v37 := Tryz.zeroValue196
  t46 := Tryz.underlying112
  a46 := Tryz.isAgg112
  z46 := Tryz.sizeOf112
  v46 := Tryz.zeroValue112
  t51 := Tryz.underlying135
  a51 := Tryz.isAgg135
  z51 := Tryz.sizeOf135
  v51 := Tryz.zeroValue135
  t53 := Tryz.underlying137
  a53 := Tryz.isAgg137
  z53 := Tryz.sizeOf137
  v53 := Tryz.zeroValue137
  t171 := Tryz.underlying198
  a171 := Tryz.isAgg198
  z171 := Tryz.sizeOf198
  v171 := Tryz.zeroValue198
  t173 := Tryz.underlying200
  a173 := Tryz.isAgg200
  z173 := Tryz.sizeOf200
  v173 := Tryz.zeroValue200
  t212 := Tryz.underlying204
  a212 := Tryz.isAgg204
  z212 := Tryz.sizeOf204
  v212 := Tryz.zeroValue204
  t213 := Tryz.underlying205
  a213 := Tryz.isAgg205
  z213 := Tryz.sizeOf205
  t232 := Tryz.underlying207
  a232 := Tryz.isAgg207
  z232 := Tryz.sizeOf207
  v232 := Tryz.zeroValue207
  t233 := Tryz.underlying208
  a233 := Tryz.isAgg208
  z233 := Tryz.sizeOf208
  v233 := Tryz.zeroValue208
  g17 := by kernel_rfl
  g18 := by kernel_rfl
  g19 := by kernel_rfl }
open Go.RowKit Go.Sort Go.Lib in
/-- THE ROAD WITHOUT THE TABLE: 0 <= i < 100: two constants are read, nothing is laid: no premise on the world, and the world is as it was. (LAID: no walk: one application.) -/
theorem Tryz.internal_strconv_FormatInt_10_small (i : Nat) (hi : i < 100) (w : World) :
    Calls Tryz.prog 147 #[.int .i64 i, .int .i64 10] w fun e w' => e = .returned (.string ⟨(Lib.decDigits i).toArray⟩) ∧ w' = w := Any.internal_strconv_FormatInt_10_small Tryz.lays246 i hi w
def Tryz.laysM243_ren : Go.Shelf.Ren := ⟨fun | 243 => 146 | 246 => 147 | 283 => 148 | 284 => 149 | 285 => 150 | 286 => 151 | 129 => 81 | 317 => 152 | 318 => 153 | 319 => 154 | 320 => 155 | 337 => 156 | 338 => 157 | n => n, fun | 3 => 3 | 9 => 9 | 2 => 2 | 4 => 4 | 171 => 198 | 0 => 0 | 53 => 137 | 37 => 196 | 5 => 5 | 173 => 200 | 212 => 204 | 51 => 135 | 20 => 20 | 213 => 205 | 46 => 112 | 232 => 207 | 233 => 208 | n => n, fun | 17 => 5 | 18 => 6 | 19 => 7 | n => n⟩
theorem Tryz.laysM243 : Go.Proofs.LaysM.n243 Tryz.prog Tryz.laysM243_ren := {
  mixed := by kernel_rfl
  f129 := Tryz.func81.trans (congrArg some (by kernel_rfl))
  f243 := Tryz.func146.trans (congrArg some (by kernel_rfl))
  f246 := Tryz.func147.trans (congrArg some (by kernel_rfl))
  f283 := Tryz.func148.trans (congrArg some (by kernel_rfl))
  f284 := Tryz.func149.trans (congrArg some (by kernel_rfl))
  f285 := Tryz.func150.trans (congrArg some (by kernel_rfl))
  f286 := Tryz.func151.trans (congrArg some (by kernel_rfl))
  f317 := Tryz.func152.trans (congrArg some (by kernel_rfl))
  f318 := Tryz.func153.trans (congrArg some (by kernel_rfl))
  f319 := Tryz.func154.trans (congrArg some (by kernel_rfl))
  f320 := Tryz.func155.trans (congrArg some (by kernel_rfl))
  f337 := Tryz.func156.trans (congrArg some (by kernel_rfl))
  f338 := Tryz.func157.trans (congrArg some (by kernel_rfl))
  t0 := Tryz.underlying0
  a0 := Tryz.isAgg0
  z0 := Tryz.sizeOf0
  v0 := Tryz.zeroValue0
  t2 := Tryz.underlying2
  a2 := Tryz.isAgg2
  z2 := Tryz.sizeOf2
  v2 := Tryz.zeroValue2
  t3 := Tryz.underlying3
  a3 := Tryz.isAgg3
  z3 := Tryz.sizeOf3
  v3 := Tryz.zeroValue3
  t4 := Tryz.underlying4
  a4 := Tryz.isAgg4
  z4 := Tryz.sizeOf4
  v4 := Tryz.zeroValue4
  t5 := Tryz.underlying5
  a5 := Tryz.isAgg5
  z5 := Tryz.sizeOf5
  v5 := Tryz.zeroValue5
  t9 := Tryz.underlying9
  a9 := Tryz.isAgg9
  z9 := Tryz.sizeOf9
  v9 := Tryz.zeroValue9
  t20 := Tryz.underlying20
  a20 := Tryz.isAgg20
  z20 := Tryz.sizeOf20
  v20 := Tryz.zeroValue20
  t37 := Tryz.underlying196
  a37 := Tryz.isAgg196
  z37 := Tryz.sizeOf196
  v37 := Tryz.zeroValue196
  t46 := Tryz.underlying112
  a46 := Tryz.isAgg112
  z46 := Tryz.sizeOf112
  v46 := Tryz.zeroValue112
  t51 := Tryz.underlying135
  a51 := Tryz.isAgg135
  z51 := Tryz.sizeOf135
  v51 := Tryz.zeroValue135
  t53 := Tryz.underlying137
  a53 := Tryz.isAgg137
  z53 := Tryz.sizeOf137
  v53 := Tryz.zeroValue137
  t171 := Tryz.underlying198
  a171 := Tryz.isAgg198
  z171 := Tryz.sizeOf198
  v171 := Tryz.zeroValue198
  t173 := Tryz.underlying200
  a173 := Tryz.isAgg200
  z173 := Tryz.sizeOf200
  v173 := Tryz.zeroValue200
  t212 := Tryz.underlying204
  a212 := Tryz.isAgg204
  z212 := Tryz.sizeOf204
  v212 := Tryz.zeroValue204
  t213 := Tryz.underlying205
  a213 := Tryz.isAgg205
  z213 := Tryz.sizeOf205
  t232 := Tryz.underlying207
  a232 := Tryz.isAgg207
  z232 := Tryz.sizeOf207
  v232 := Tryz.zeroValue207
  t233 := Tryz.underlying208
  a233 := Tryz.isAgg208
  z233 := Tryz.sizeOf208
  v233 := Tryz.zeroValue208
  g17 := by kernel_rfl
  g18 := by kernel_rfl
  g19 := by kernel_rfl
  i0 := by kernel_rfl
  i2 := by kernel_rfl
  i3 := by kernel_rfl
  i4 := by kernel_rfl
  i5 := by kernel_rfl
  i9 := by kernel_rfl
  i20 := by kernel_rfl
  i37 := by kernel_rfl
  i46 := by kernel_rfl
  i51 := by kernel_rfl
  i53 := by kernel_rfl
  i171 := by kernel_rfl
  i173 := by kernel_rfl
  i212 := by kernel_rfl
  i232 := by kernel_rfl
  i233 := by kernel_rfl
  m17 := by kernel_rfl
  m18 := by kernel_rfl
  m19 := by kernel_rfl }
open Go.RowKit Go.Sort Go.Lib in
/-- internal/strconv.Itoa: "Itoa is equivalent to FormatInt(int64(i), 10).": i's decimal numeral, for every int. (LAID: no walk: one application.) -/
theorem Tryz.internal_strconv_Itoa (n : Int) (h0 : -9223372036854775808 ≤ n) (h1 : n ≤ 9223372036854775807) (w : World) (htab : Lib.TabIs Tryz.prog w "internal/strconv.uint64pow10" .u64 Lib.pow10Tab) :
    Calls Tryz.prog 146 #[.int .i64 n] w fun e w' => e = .returned (.string ⟨(Lib.itoa n).toArray⟩) ∧ ∃ k os, w' = grow (w.drewN k) os := Any.internal_strconv_Itoa Tryz.laysM243 n h0 h1 w htab
def Tryz.lays243_ren : Go.Shelf.Ren := ⟨fun | 243 => 146 | 246 => 147 | 283 => 148 | 284 => 149 | 285 => 150 | 286 => 151 | 129 => 81 | 317 => 152 | 318 => 153 | 319 => 154 | 320 => 155 | 337 => 156 | 338 => 157 | n => n, fun | 3 => 3 | 9 => 9 | 2 => 2 | 4 => 4 | 171 => 198 | 0 => 0 | 53 => 137 | 37 => 196 | 5 => 5 | 173 => 200 | 212 => 204 | 51 => 135 | 20 => 20 | 213 => 205 | 46 => 112 | 232 => 207 | 233 => 208 | n => n, fun | 17 => 5 | 18 => 6 | 19 => 7 | n => n⟩
theorem Tryz.lays243 : Go.Proofs.Lays.n243 Tryz.prog Tryz.lays243_ren := {
  mixed := by kernel_rfl
  f129 := Tryz.func81.trans (congrArg some (by kernel_rfl))
  f243 := Tryz.func146.trans (congrArg some (by kernel_rfl))
  f246 := Tryz.func147.trans (congrArg some (by kernel_rfl))
  f283 := Tryz.func148.trans (congrArg some (by kernel_rfl))
  f284 := Tryz.func149.trans (congrArg some (by kernel_rfl))
  f285 := Tryz.func150.trans (congrArg some (by kernel_rfl))
  f286 := Tryz.func151.trans (congrArg some (by kernel_rfl))
  f317 := Tryz.func152.trans (congrArg some (by kernel_rfl))
  f318 := Tryz.func153.trans (congrArg some (by kernel_rfl))
  f319 := Tryz.func154.trans (congrArg some (by kernel_rfl))
  f320 := Tryz.func155.trans (congrArg some (by kernel_rfl))
  f337 := Tryz.func156.trans (congrArg some (by kernel_rfl))
  f338 := Tryz.func157.trans (congrArg some (by kernel_rfl))
  t0 := Tryz.underlying0
  a0 := Tryz.isAgg0
  z0 := Tryz.sizeOf0
  v0 := Tryz.zeroValue0
  t2 := Tryz.underlying2
  a2 := Tryz.isAgg2
  z2 := Tryz.sizeOf2
  v2 := Tryz.zeroValue2
  t3 := Tryz.underlying3
  a3 := Tryz.isAgg3
  z3 := Tryz.sizeOf3
  v3 := Tryz.zeroValue3
  t4 := Tryz.underlying4
  a4 := Tryz.isAgg4
  z4 := Tryz.sizeOf4
  v4 := Tryz.zeroValue4
  t5 := Tryz.underlying5
  a5 := Tryz.isAgg5
  z5 := Tryz.sizeOf5
  v5 := Tryz.zeroValue5
  t9 := Tryz.underlying9
  a9 := Tryz.isAgg9
  z9 := Tryz.sizeOf9
  v9 := Tryz.zeroValue9
  t20 := Tryz.underlying20
  a20 := Tryz.isAgg20
  z20 := Tryz.sizeOf20
  v20 := Tryz.zeroValue20
  t37 := Tryz.underlying196
  a37 := Tryz.isAgg196
  z37 := Tryz.sizeOf196
  v37 := Tryz.zeroValue196
  t46 := Tryz.underlying112
  a46 := Tryz.isAgg112
  z46 := Tryz.sizeOf112
  v46 := Tryz.zeroValue112
  t51 := Tryz.underlying135
  a51 := Tryz.isAgg135
  z51 := Tryz.sizeOf135
  v51 := Tryz.zeroValue135
  t53 := Tryz.underlying137
  a53 := Tryz.isAgg137
  z53 := Tryz.sizeOf137
  v53 := Tryz.zeroValue137
  t171 := Tryz.underlying198
  a171 := Tryz.isAgg198
  z171 := Tryz.sizeOf198
  v171 := Tryz.zeroValue198
  t173 := Tryz.underlying200
  a173 := Tryz.isAgg200
  z173 := Tryz.sizeOf200
  v173 := Tryz.zeroValue200
  t212 := Tryz.underlying204
  a212 := Tryz.isAgg204
  z212 := Tryz.sizeOf204
  v212 := Tryz.zeroValue204
  t213 := Tryz.underlying205
  a213 := Tryz.isAgg205
  z213 := Tryz.sizeOf205
  t232 := Tryz.underlying207
  a232 := Tryz.isAgg207
  z232 := Tryz.sizeOf207
  v232 := Tryz.zeroValue207
  t233 := Tryz.underlying208
  a233 := Tryz.isAgg208
  z233 := Tryz.sizeOf208
  v233 := Tryz.zeroValue208
  g17 := by kernel_rfl
  g18 := by kernel_rfl
  g19 := by kernel_rfl }
open Go.RowKit Go.Sort Go.Lib in
/-- THE ROAD WITHOUT THE TABLE: 0 <= i < 100. (LAID: no walk: one application.) -/
theorem Tryz.internal_strconv_Itoa_small (i : Nat) (hi : i < 100) (w : World) :
    Calls Tryz.prog 146 #[.int .i64 i] w fun e w' => e = .returned (.string ⟨(Lib.decDigits i).toArray⟩) ∧ w' = w := Any.internal_strconv_Itoa_small Tryz.lays243 i hi w
def Tryz.laysM171_ren : Go.Shelf.Ren := ⟨fun | 171 => 145 | 243 => 146 | 246 => 147 | 283 => 148 | 284 => 149 | 285 => 150 | 286 => 151 | 129 => 81 | 317 => 152 | 318 => 153 | 319 => 154 | 320 => 155 | 337 => 156 | 338 => 157 | n => n, fun | 3 => 3 | 9 => 9 | 2 => 2 | 4 => 4 | 171 => 198 | 0 => 0 | 53 => 137 | 37 => 196 | 5 => 5 | 173 => 200 | 212 => 204 | 51 => 135 | 20 => 20 | 213 => 205 | 46 => 112 | 232 => 207 | 233 => 208 | n => n, fun | 17 => 5 | 18 => 6 | 19 => 7 | n => n⟩
theorem Tryz.laysM171 : Go.Proofs.LaysM.n171 Tryz.prog Tryz.laysM171_ren := {
  mixed := by kernel_rfl
  f129 := Tryz.func81.trans (congrArg some (by kernel_rfl))
  f171 := Tryz.func145.trans (congrArg some (by kernel_rfl))
  f243 := Tryz.func146.trans (congrArg some (by kernel_rfl))
  f246 := Tryz.func147.trans (congrArg some (by kernel_rfl))
  f283 := Tryz.func148.trans (congrArg some (by kernel_rfl))
  f284 := Tryz.func149.trans (congrArg some (by kernel_rfl))
  f285 := Tryz.func150.trans (congrArg some (by kernel_rfl))
  f286 := Tryz.func151.trans (congrArg some (by kernel_rfl))
  f317 := Tryz.func152.trans (congrArg some (by kernel_rfl))
  f318 := Tryz.func153.trans (congrArg some (by kernel_rfl))
  f319 := Tryz.func154.trans (congrArg some (by kernel_rfl))
  f320 := Tryz.func155.trans (congrArg some (by kernel_rfl))
  f337 := Tryz.func156.trans (congrArg some (by kernel_rfl))
  f338 := Tryz.func157.trans (congrArg some (by kernel_rfl))
  t0 := Tryz.underlying0
  a0 := Tryz.isAgg0
  z0 := Tryz.sizeOf0
  v0 := Tryz.zeroValue0
  t2 := Tryz.underlying2
  a2 := Tryz.isAgg2
  z2 := Tryz.sizeOf2
  v2 := Tryz.zeroValue2
  t3 := Tryz.underlying3
  a3 := Tryz.isAgg3
  z3 := Tryz.sizeOf3
  v3 := Tryz.zeroValue3
  t4 := Tryz.underlying4
  a4 := Tryz.isAgg4
  z4 := Tryz.sizeOf4
  v4 := Tryz.zeroValue4
  t5 := Tryz.underlying5
  a5 := Tryz.isAgg5
  z5 := Tryz.sizeOf5
  v5 := Tryz.zeroValue5
  t9 := Tryz.underlying9
  a9 := Tryz.isAgg9
  z9 := Tryz.sizeOf9
  v9 := Tryz.zeroValue9
  t20 := Tryz.underlying20
  a20 := Tryz.isAgg20
  z20 := Tryz.sizeOf20
  v20 := Tryz.zeroValue20
  t37 := Tryz.underlying196
  a37 := Tryz.isAgg196
  z37 := Tryz.sizeOf196
  v37 := Tryz.zeroValue196
  t46 := Tryz.underlying112
  a46 := Tryz.isAgg112
  z46 := Tryz.sizeOf112
  v46 := Tryz.zeroValue112
  t51 := Tryz.underlying135
  a51 := Tryz.isAgg135
  z51 := Tryz.sizeOf135
  v51 := Tryz.zeroValue135
  t53 := Tryz.underlying137
  a53 := Tryz.isAgg137
  z53 := Tryz.sizeOf137
  v53 := Tryz.zeroValue137
  t171 := Tryz.underlying198
  a171 := Tryz.isAgg198
  z171 := Tryz.sizeOf198
  v171 := Tryz.zeroValue198
  t173 := Tryz.underlying200
  a173 := Tryz.isAgg200
  z173 := Tryz.sizeOf200
  v173 := Tryz.zeroValue200
  t212 := Tryz.underlying204
  a212 := Tryz.isAgg204
  z212 := Tryz.sizeOf204
  v212 := Tryz.zeroValue204
  t213 := Tryz.underlying205
  a213 := Tryz.isAgg205
  z213 := Tryz.sizeOf205
  t232 := Tryz.underlying207
  a232 := Tryz.isAgg207
  z232 := Tryz.sizeOf207
  v232 := Tryz.zeroValue207
  t233 := Tryz.underlying208
  a233 := Tryz.isAgg208
  z233 := Tryz.sizeOf208
  v233 := Tryz.zeroValue208
  g17 := by kernel_rfl
  g18 := by kernel_rfl
  g19 := by kernel_rfl
  i0 := by kernel_rfl
  i2 := by kernel_rfl
  i3 := by kernel_rfl
  i4 := by kernel_rfl
  i5 := by kernel_rfl
  i9 := by kernel_rfl
  i20 := by kernel_rfl
  i37 := by kernel_rfl
  i46 := by kernel_rfl
  i51 := by kernel_rfl
  i53 := by kernel_rfl
  i171 := by kernel_rfl
  i173 := by kernel_rfl
  i212 := by kernel_rfl
  i232 := by kernel_rfl
  i233 := by kernel_rfl
  m17 := by kernel_rfl
  m18 := by kernel_rfl
  m19 := by kernel_rfl }
open Go.RowKit Go.Sort Go.Lib in
/-- strconv.Itoa: "Itoa is equivalent to FormatInt(int64(i), 10).": i's DECIMAL NUMERAL ('Lib.itoa': a '-' where i is negative, then the digits), FOR EVERY int. The world behind the call: the world before it, new blocks behind the heap (the library's 'var a [24]byte'), draws. (LAID: no walk: one application.) -/
theorem Tryz.strconv_Itoa (n : Int) (h0 : -9223372036854775808 ≤ n) (h1 : n ≤ 9223372036854775807) (w : World) (htab : Lib.TabIs Tryz.prog w "internal/strconv.uint64pow10" .u64 Lib.pow10Tab) :
    Calls Tryz.prog 145 #[.int .i64 n] w fun e w' => e = .returned (.string ⟨(Lib.itoa n).toArray⟩) ∧ ∃ k os, w' = grow (w.drewN k) os := Any.strconv_Itoa Tryz.laysM171 n h0 h1 w htab
def Tryz.lays171_ren : Go.Shelf.Ren := ⟨fun | 171 => 145 | 243 => 146 | 246 => 147 | 283 => 148 | 284 => 149 | 285 => 150 | 286 => 151 | 129 => 81 | 317 => 152 | 318 => 153 | 319 => 154 | 320 => 155 | 337 => 156 | 338 => 157 | n => n, fun | 3 => 3 | 9 => 9 | 2 => 2 | 4 => 4 | 171 => 198 | 0 => 0 | 53 => 137 | 37 => 196 | 5 => 5 | 173 => 200 | 212 => 204 | 51 => 135 | 20 => 20 | 213 => 205 | 46 => 112 | 232 => 207 | 233 => 208 | n => n, fun | 17 => 5 | 18 => 6 | 19 => 7 | n => n⟩
theorem Tryz.lays171 : Go.Proofs.Lays.n171 Tryz.prog Tryz.lays171_ren := {
  mixed := by kernel_rfl
  f129 := Tryz.func81.trans (congrArg some (by kernel_rfl))
  f171 := Tryz.func145.trans (congrArg some (by kernel_rfl))
  f243 := Tryz.func146.trans (congrArg some (by kernel_rfl))
  f246 := Tryz.func147.trans (congrArg some (by kernel_rfl))
  f283 := Tryz.func148.trans (congrArg some (by kernel_rfl))
  f284 := Tryz.func149.trans (congrArg some (by kernel_rfl))
  f285 := Tryz.func150.trans (congrArg some (by kernel_rfl))
  f286 := Tryz.func151.trans (congrArg some (by kernel_rfl))
  f317 := Tryz.func152.trans (congrArg some (by kernel_rfl))
  f318 := Tryz.func153.trans (congrArg some (by kernel_rfl))
  f319 := Tryz.func154.trans (congrArg some (by kernel_rfl))
  f320 := Tryz.func155.trans (congrArg some (by kernel_rfl))
  f337 := Tryz.func156.trans (congrArg some (by kernel_rfl))
  f338 := Tryz.func157.trans (congrArg some (by kernel_rfl))
  t0 := Tryz.underlying0
  a0 := Tryz.isAgg0
  z0 := Tryz.sizeOf0
  v0 := Tryz.zeroValue0
  t2 := Tryz.underlying2
  a2 := Tryz.isAgg2
  z2 := Tryz.sizeOf2
  v2 := Tryz.zeroValue2
  t3 := Tryz.underlying3
  a3 := Tryz.isAgg3
  z3 := Tryz.sizeOf3
  v3 := Tryz.zeroValue3
  t4 := Tryz.underlying4
  a4 := Tryz.isAgg4
  z4 := Tryz.sizeOf4
  v4 := Tryz.zeroValue4
  t5 := Tryz.underlying5
  a5 := Tryz.isAgg5
  z5 := Tryz.sizeOf5
  v5 := Tryz.zeroValue5
  t9 := Tryz.underlying9
  a9 := Tryz.isAgg9
  z9 := Tryz.sizeOf9
  v9 := Tryz.zeroValue9
  t20 := Tryz.underlying20
  a20 := Tryz.isAgg20
  z20 := Tryz.sizeOf20
  v20 := Tryz.zeroValue20
  t37 := Tryz.underlying196
  a37 := Tryz.isAgg196
  z37 := Tryz.sizeOf196
  v37 := Tryz.zeroValue196
  t46 := Tryz.underlying112
  a46 := Tryz.isAgg112
  z46 := Tryz.sizeOf112
  v46 := Tryz.zeroValue112
  t51 := Tryz.underlying135
  a51 := Tryz.isAgg135
  z51 := Tryz.sizeOf135
  v51 := Tryz.zeroValue135
  t53 := Tryz.underlying137
  a53 := Tryz.isAgg137
  z53 := Tryz.sizeOf137
  v53 := Tryz.zeroValue137
  t171 := Tryz.underlying198
  a171 := Tryz.isAgg198
  z171 := Tryz.sizeOf198
  v171 := Tryz.zeroValue198
  t173 := Tryz.underlying200
  a173 := Tryz.isAgg200
  z173 := Tryz.sizeOf200
  v173 := Tryz.zeroValue200
  t212 := Tryz.underlying204
  a212 := Tryz.isAgg204
  z212 := Tryz.sizeOf204
  v212 := Tryz.zeroValue204
  t213 := Tryz.underlying205
  a213 := Tryz.isAgg205
  z213 := Tryz.sizeOf205
  t232 := Tryz.underlying207
  a232 := Tryz.isAgg207
  z232 := Tryz.sizeOf207
  v232 := Tryz.zeroValue207
  t233 := Tryz.underlying208
  a233 := Tryz.isAgg208
  z233 := Tryz.sizeOf208
  v233 := Tryz.zeroValue208
  g17 := by kernel_rfl
  g18 := by kernel_rfl
  g19 := by kernel_rfl }
open Go.RowKit Go.Sort Go.Lib in
/-- THE ROAD WITHOUT THE TABLE: 0 <= i < 100: NO PREMISE ON THE WORLD, AND THE WORLD IS AS IT WAS: a row that keeps its argument in that range need list no table ('laid = []'). (LAID: no walk: one application.) -/
theorem Tryz.strconv_Itoa_small (i : Nat) (hi : i < 100) (w : World) :
    Calls Tryz.prog 145 #[.int .i64 i] w fun e w' => e = .returned (.string ⟨(Lib.decDigits i).toArray⟩) ∧ w' = w := Any.strconv_Itoa_small Tryz.lays171 i hi w
def Tryz.lays247_ren : Go.Shelf.Ren := ⟨fun | 247 => 162 | 287 => 163 | 321 => 164 | 322 => 165 | n => n, fun | 9 => 9 | 3 => 3 | 2 => 2 | 75 => 60 | 4 => 4 | 167 => 188 | 5 => 5 | 53 => 137 | 175 => 214 | 46 => 112 | 37 => 196 | 0 => 0 | 21 => 21 | 80 => 157 | n => n, fun | n => n⟩
theorem Tryz.lays247 : Go.Proofs.Lays.n247 Tryz.prog Tryz.lays247_ren := {
  mixed := by kernel_rfl
  f247 := Tryz.func162.trans (congrArg some (by kernel_rfl))
  f287 := Tryz.func163.trans (congrArg some (by kernel_rfl))
  f321 := Tryz.func164.trans (congrArg some (by kernel_rfl))
  f322 := Tryz.func165.trans (congrArg some (by kernel_rfl))
  t0 := Tryz.underlying0
  a0 := Tryz.isAgg0
  z0 := Tryz.sizeOf0
  v0 := Tryz.zeroValue0
  t2 := Tryz.underlying2
  a2 := Tryz.isAgg2
  z2 := Tryz.sizeOf2
  v2 := Tryz.zeroValue2
  t3 := Tryz.underlying3
  a3 := Tryz.isAgg3
  z3 := Tryz.sizeOf3
  v3 := Tryz.zeroValue3
  t4 := Tryz.underlying4
  a4 := Tryz.isAgg4
  z4 := Tryz.sizeOf4
  v4 := Tryz.zeroValue4
  t5 := Tryz.underlying5
  a5 := Tryz.isAgg5
  z5 := Tryz.sizeOf5
  v5 := Tryz.zeroValue5
  t9 := Tryz.underlying9
  a9 := Tryz.isAgg9
  z9 := Tryz.sizeOf9
  v9 := Tryz.zeroValue9
  t21 := Tryz.underlying21
  a21 := Tryz.isAgg21
  z21 := Tryz.sizeOf21
  v21 := Tryz.zeroValue21
  t37 := Tryz.underlying196
  a37 := Tryz.isAgg196
  z37 := Tryz.sizeOf196
  v37 := Tryz.zeroValue196
  t46 := Tryz.underlying112
  a46 := Tryz.isAgg112
  z46 := Tryz.sizeOf112
  v46 := Tryz.zeroValue112
  t53 := Tryz.underlying137
  a53 := Tryz.isAgg137
  z53 := Tryz.sizeOf137
  v53 := Tryz.zeroValue137
  t75 := Tryz.underlying60
  a75 := Tryz.isAgg60
  z75 := Tryz.sizeOf60
  v75 := Tryz.zeroValue60
  t167 := Tryz.underlying188
  a167 := Tryz.isAgg188
  z167 := Tryz.sizeOf188
  v167 := Tryz.zeroValue188
  t175 := Tryz.underlying214
  a175 := Tryz.isAgg214
  z175 := Tryz.sizeOf214
  v175 := Tryz.zeroValue214 }
open Go.RowKit in
/-- internal/strconv.ParseInt at "": 'if s == "" { return 0, ErrSyntax }'. The world is as it was. (LAID: no walk: one application.) -/
theorem Tryz.internal_strconv_ParseInt_empty (base bits : Int) (w : World) :
    Calls Tryz.prog 162 #[.string ⟨#[]⟩, .int .i64 base, .int .i64 bits] w fun e w' => e = .returned (.tuple #[.int .i64 0, (.iface 188 (.int .i64 2))]) ∧ w' = w := Any.internal_strconv_ParseInt_empty Tryz.lays247 base bits w
def Tryz.laysM316_ren : Go.Shelf.Ren := ⟨fun | 316 => 144 | n => n, fun | 9 => 9 | 3 => 3 | 4 => 4 | 37 => 196 | 0 => 0 | 127 => 179 | 5 => 5 | n => n, fun | n => n⟩
theorem Tryz.laysM316 : Go.Proofs.LaysM.n316 Tryz.prog Tryz.laysM316_ren := {
  mixed := by kernel_rfl
  f316 := Tryz.func144.trans (congrArg some (by kernel_rfl))
  t0 := Tryz.underlying0
  a0 := Tryz.isAgg0
  z0 := Tryz.sizeOf0
  v0 := Tryz.zeroValue0
  t3 := Tryz.underlying3
  a3 := Tryz.isAgg3
  z3 := Tryz.sizeOf3
  v3 := Tryz.zeroValue3
  t4 := Tryz.underlying4
  a4 := Tryz.isAgg4
  z4 := Tryz.sizeOf4
  v4 := Tryz.zeroValue4
  t9 := Tryz.underlying9
  a9 := Tryz.isAgg9
  z9 := Tryz.sizeOf9
  v9 := Tryz.zeroValue9
  t37 := Tryz.underlying196
  a37 := Tryz.isAgg196
  z37 := Tryz.sizeOf196
  v37 := Tryz.zeroValue196
  t127 := Tryz.underlying179
  a127 := Tryz.isAgg179
  z127 := Tryz.sizeOf179
  v127 := Tryz.zeroValue179
  t5 := Tryz.underlying5
  a5 := Tryz.isAgg5
  z5 := Tryz.sizeOf5
  v5 := Tryz.zeroValue5
  i0 := by kernel_rfl
  i3 := by kernel_rfl
  i4 := by kernel_rfl
  i5 := by kernel_rfl
  i9 := by kernel_rfl
  i37 := by kernel_rfl
  i127 := by kernel_rfl }
open Go.RowKit in
/-- internal/stringslite.Clone (what strings.Clone calls): "Clone returns a fresh copy of s.": THE SAME BYTES. Of what was there nothing has turned (a new row is laid, and frozen, where s is not empty). (LAID: no walk: one application.) -/
theorem Tryz.stringslite_Clone (s : ByteArray) (w : World) (hlim : s.size ≤ 281474976710656) :
    Calls Tryz.prog 144 #[.string s] w fun e w' => e = .returned (.string s) ∧ Below w.heap.size w w' := Any.stringslite_Clone Tryz.laysM316 s w hlim
/-- internal/strconv.ParseBool, AT EVERY STRING THAT IT DOES NOT ACCEPT: false, and ErrSyntax. The world is as it was. (LAID: no walk: one application.) -/
theorem Tryz.internal_strconv_ParseBool_err (s : ByteArray) (h : Lib.parseBool s.data.toList = none) (w : World) :
    Calls Tryz.prog 137 #[.string s] w fun e w' => e = .returned (.tuple #[.bool false, (.iface 188 (.int .i64 2))]) ∧ w' = w := Any.internal_strconv_ParseBool_err Tryz.lays248 s h w
def Tryz.lays321_ren : Go.Shelf.Ren := ⟨fun | 321 => 164 | n => n, fun | 5 => 5 | n => n, fun | n => n⟩
theorem Tryz.lays321 : Go.Proofs.Lays.n321 Tryz.prog Tryz.lays321_ren := {
  mixed := by kernel_rfl
  f321 := Tryz.func164.trans (congrArg some (by kernel_rfl))
  t5 := Tryz.underlying5
  a5 := Tryz.isAgg5
  z5 := Tryz.sizeOf5
  v5 := Tryz.zeroValue5 }
open Go.RowKit in
/-- internal/strconv.lower: 'c | ('x' - 'X')': the bit 32 set. The world is as it was. (LAID: no walk: one application.) -/
theorem Tryz.internal_strconv_lower (c : Int) (w : World) :
    Calls Tryz.prog 164 #[.int .u8 c] w fun e w' => e = .returned (.int .u8 (bits .or .u8 c 32)) ∧ w' = w := Any.internal_strconv_lower Tryz.lays321 c w
def Tryz.lays287_ren : Go.Shelf.Ren := ⟨fun | 287 => 163 | 321 => 164 | 322 => 165 | n => n, fun | 9 => 9 | 3 => 3 | 53 => 137 | 75 => 60 | 4 => 4 | 167 => 188 | 5 => 5 | 46 => 112 | 37 => 196 | 0 => 0 | 21 => 21 | 80 => 157 | n => n, fun | n => n⟩
theorem Tryz.lays287 : Go.Proofs.Lays.n287 Tryz.prog Tryz.lays287_ren := {
  mixed := by kernel_rfl
  f287 := Tryz.func163.trans (congrArg some (by kernel_rfl))
  f321 := Tryz.func164.trans (congrArg some (by kernel_rfl))
  f322 := Tryz.func165.trans (congrArg some (by kernel_rfl))
  t0 := Tryz.underlying0
  a0 := Tryz.isAgg0
  z0 := Tryz.sizeOf0
  v0 := Tryz.zeroValue0
  t3 := Tryz.underlying3
  a3 := Tryz.isAgg3
  z3 := Tryz.sizeOf3
  v3 := Tryz.zeroValue3
  t4 := Tryz.underlying4
  a4 := Tryz.isAgg4
  z4 := Tryz.sizeOf4
  v4 := Tryz.zeroValue4
  t5 := Tryz.underlying5
  a5 := Tryz.isAgg5
  z5 := Tryz.sizeOf5
  v5 := Tryz.zeroValue5
  t9 := Tryz.underlying9
  a9 := Tryz.isAgg9
  z9 := Tryz.sizeOf9
  v9 := Tryz.zeroValue9
  t21 := Tryz.underlying21
  a21 := Tryz.isAgg21
  z21 := Tryz.sizeOf21
  v21 := Tryz.zeroValue21
  t37 := Tryz.underlying196
  a37 := Tryz.isAgg196
  z37 := Tryz.sizeOf196
  v37 := Tryz.zeroValue196
  t46 := Tryz.underlying112
  a46 := Tryz.isAgg112
  z46 := Tryz.sizeOf112
  v46 := Tryz.zeroValue112
  t53 := Tryz.underlying137
  a53 := Tryz.isAgg137
  z53 := Tryz.sizeOf137
  v53 := Tryz.zeroValue137
  t75 := Tryz.underlying60
  a75 := Tryz.isAgg60
  z75 := Tryz.sizeOf60
  v75 := Tryz.zeroValue60
  t167 := Tryz.underlying188
  a167 := Tryz.isAgg188
  z167 := Tryz.sizeOf188
  v167 := Tryz.zeroValue188 }
open Go.RowKit in
/-- internal/strconv.ParseUint("", 10, 0): (0, ErrSyntax). The world is as it was. (LAID: no walk: one application.) -/
theorem Tryz.internal_strconv_ParseUint_10_empty (w : World) :
    Calls Tryz.prog 163 #[.string ⟨#[]⟩, .int .i64 10, .int .i64 0] w fun e w' => e = .returned (Lib.uintTuple 188 .syntax) ∧ w' = w := Any.internal_strconv_ParseUint_10_empty Tryz.lays287 w
open Go.RowKit in
/-- internal/strconv.ParseUint("", base, bitSize): (0, ErrSyntax): the first test of the text. The world is as it was. (LAID: no walk: one application.) -/
theorem Tryz.internal_strconv_ParseUint_empty (base bits : Int) (w : World) :
    Calls Tryz.prog 163 #[.string ⟨#[]⟩, .int .i64 base, .int .i64 bits] w fun e w' => e = .returned (.tuple #[.int .u64 0, .iface 188 (.int .i64 2)]) ∧ w' = w := Any.internal_strconv_ParseUint_empty Tryz.lays287 base bits w
def Tryz.lays190_ren : Go.Shelf.Ren := ⟨fun | 190 => 41 | 125 => 59 | 258 => 58 | 128 => 80 | 129 => 81 | 302 => 72 | 303 => 73 | 304 => 74 | 305 => 75 | 306 => 76 | 307 => 77 | 308 => 68 | 309 => 78 | 310 => 79 | 333 => 91 | 329 => 92 | 330 => 93 | 334 => 94 | 335 => 95 | 336 => 89 | 344 => 101 | n => n, fun | 31 => 26 | 9 => 9 | 3 => 3 | 46 => 112 | 0 => 0 | 51 => 135 | 53 => 137 | 4 => 4 | 183 => 129 | 182 => 128 | 131 => 105 | 5 => 5 | 218 => 152 | 222 => 84 | 228 => 159 | 229 => 160 | n => n, fun | n => n⟩
theorem Tryz.lays190 : Go.Proofs.Lays.n190 Tryz.prog Tryz.lays190_ren := {
  mixed := by kernel_rfl
  f125 := Tryz.func59.trans (congrArg some (by kernel_rfl))
  f128 := Tryz.func80.trans (congrArg some (by kernel_rfl))
  f129 := Tryz.func81.trans (congrArg some (by kernel_rfl))
  f190 := Tryz.func41.trans (congrArg some (by kernel_rfl))
  f258 := Tryz.func58.trans (congrArg some (by kernel_rfl))
  f302 := Tryz.func72.trans (congrArg some (by kernel_rfl))
  f303 := Tryz.func73.trans (congrArg some (by kernel_rfl))
  f304 := Tryz.func74.trans (congrArg some (by kernel_rfl))
  f305 := Tryz.func75.trans (congrArg some (by kernel_rfl))
  f306 := Tryz.func76.trans (congrArg some (by kernel_rfl))
  f307 := Tryz.func77.trans (congrArg some (by kernel_rfl))
  f308 := Tryz.func68.trans (congrArg some (by kernel_rfl))
  f309 := Tryz.func78.trans (congrArg some (by kernel_rfl))
  f310 := Tryz.func79.trans (congrArg some (by kernel_rfl))
  f329 := Tryz.func92.trans (congrArg some (by kernel_rfl))
  f330 := Tryz.func93.trans (congrArg some (by kernel_rfl))
  f333 := Tryz.func91.trans (congrArg some (by kernel_rfl))
  f334 := Tryz.func94.trans (congrArg some (by kernel_rfl))
  f335 := Tryz.func95.trans (congrArg some (by kernel_rfl))
  f336 := Tryz.func89.trans (congrArg some (by kernel_rfl))
  f344 := Tryz.func101.trans (congrArg some (by kernel_rfl))
  t0 := Tryz.underlying0
  a0 := Tryz.isAgg0
  z0 := Tryz.sizeOf0
  v0 := Tryz.zeroValue0
  t3 := Tryz.underlying3
  a3 := Tryz.isAgg3
  z3 := Tryz.sizeOf3
  v3 := Tryz.zeroValue3
  t4 := Tryz.underlying4
  a4 := Tryz.isAgg4
  z4 := Tryz.sizeOf4
  v4 := Tryz.zeroValue4
  t5 := Tryz.underlying5
  a5 := Tryz.isAgg5
  z5 := Tryz.sizeOf5
  v5 := Tryz.zeroValue5
  t9 := Tryz.underlying9
  a9 := Tryz.isAgg9
  z9 := Tryz.sizeOf9
  v9 := Tryz.zeroValue9
  t31 := Tryz.underlying26
  a31 := Tryz.isAgg26
  z31 := Tryz.sizeOf26
  v31 := Tryz.zeroValue26
  t46 := Tryz.underlying112
  a46 := Tryz.isAgg112
  z46 := Tryz.sizeOf112
  v46 := Tryz.zeroValue112
  t51 := Tryz.underlying135
  a51 := Tryz.isAgg135
  z51 := Tryz.sizeOf135
  v51 := Tryz.zeroValue135
  t53 := Tryz.underlying137
  a53 := Tryz.isAgg137
  z53 := Tryz.sizeOf137
  v53 := Tryz.zeroValue137
  t131 := Tryz.underlying105
  a131 := Tryz.isAgg105
  z131 := Tryz.sizeOf105
  v131 := Tryz.zeroValue105
  t182 := Tryz.underlying128
  a182 := Tryz.isAgg128
  z182 := Tryz.sizeOf128
  v182 := Tryz.zeroValue128
  t183 := Tryz.underlying129
  a183 := Tryz.isAgg129
  z183 := Tryz.sizeOf129
  v183 := Tryz.zeroValue129
  t218 := Tryz.underlying152
  a218 := Tryz.isAgg152
  z218 := Tryz.sizeOf152
  v218 := Tryz.zeroValue152
  t222 := Tryz.underlying84
  a222 := Tryz.isAgg84
  z222 := Tryz.sizeOf84
  v222 := Tryz.zeroValue84
  t228 := Tryz.underlying159
  a228 := Tryz.isAgg159
  z228 := Tryz.sizeOf159
  v228 := Tryz.zeroValue159
  t229 := Tryz.underlying160
  a229 := Tryz.isAgg160
  z229 := Tryz.sizeOf160
  v229 := Tryz.zeroValue160 }
open Go.Sort Go.RowKit in
theorem Tryz.slices_Sort_string (blk off cap : Nat) (ss : List (List UInt8)) (w : World) (hH : Holds encStr w blk off ss.toArray) (hblk : blk < w.heap.size) (hsz : ss.length < 4611686018427387904) :
    Calls Tryz.prog 41 #[.slice (some ⟨blk, off, none⟩) ss.length cap] w fun e w' =>
      e = .returned (.tuple #[]) ∧ ∃ n os, w' = grow (putRow encStr (Sort.ahead w n) blk off (ss.mergeSort fun x y => decide (x ≤ y)).toArray) os := Any.slices_Sort_string Tryz.lays190 blk off cap ss w hH hblk hsz
def Tryz.lays206_ren : Go.Shelf.Ren := ⟨fun | 206 => 102 | n => n, fun | 9 => 9 | 4 => 4 | 3 => 3 | n => n, fun | n => n⟩
theorem Tryz.lays206 : Go.Proofs.Lays.n206 Tryz.prog Tryz.lays206_ren := {
  mixed := by kernel_rfl
  f206 := Tryz.func102.trans (congrArg some (by kernel_rfl))
  t3 := Tryz.underlying3
  a3 := Tryz.isAgg3
  z3 := Tryz.sizeOf3
  v3 := Tryz.zeroValue3
  t4 := Tryz.underlying4
  a4 := Tryz.isAgg4
  z4 := Tryz.sizeOf4
  v4 := Tryz.zeroValue4
  t9 := Tryz.underlying9
  a9 := Tryz.isAgg9
  z9 := Tryz.sizeOf9
  v9 := Tryz.zeroValue9 }
open Go.RowKit Go.Lib in
/-- internal/stringslite.HasPrefix (what strings.HasPrefix calls). (LAID: no walk: one application.) -/
theorem Tryz.stringslite_HasPrefix (s p : ByteArray) (w : World) :
    Calls Tryz.prog 102 #[.string s, .string p] w fun e w' => e = .returned (.bool (Lib.hasPrefix s.data.toList p.data.toList)) ∧ w' = w := Any.stringslite_HasPrefix Tryz.lays206 s p w
def Tryz.lays99_ren : Go.Shelf.Ren := ⟨fun | 99 => 96 | 206 => 102 | n => n, fun | 9 => 9 | 4 => 4 | 3 => 3 | n => n, fun | n => n⟩
theorem Tryz.lays99 : Go.Proofs.Lays.n99 Tryz.prog Tryz.lays99_ren := {
  mixed := by kernel_rfl
  f99 := Tryz.func96.trans (congrArg some (by kernel_rfl))
  f206 := Tryz.func102.trans (congrArg some (by kernel_rfl))
  t3 := Tryz.underlying3
  a3 := Tryz.isAgg3
  z3 := Tryz.sizeOf3
  v3 := Tryz.zeroValue3
  t4 := Tryz.underlying4
  a4 := Tryz.isAgg4
  z4 := Tryz.sizeOf4
  v4 := Tryz.zeroValue4
  t9 := Tryz.underlying9
  a9 := Tryz.isAgg9
  z9 := Tryz.sizeOf9
  v9 := Tryz.zeroValue9 }
open Go.RowKit Go.Lib in
/-- strings.HasPrefix: "HasPrefix reports whether the string s begins with prefix.": IT RETURNS 'Lib.hasPrefix s prefix'; the world is as it was. (LAID: no walk: one application.) -/
theorem Tryz.strings_HasPrefix (s p : ByteArray) (w : World) :
    Calls Tryz.prog 96 #[.string s, .string p] w fun e w' => e = .returned (.bool (Lib.hasPrefix s.data.toList p.data.toList)) ∧ w' = w := Any.strings_HasPrefix Tryz.lays99 s p w
def Tryz.lays193_ren : Go.Shelf.Ren := ⟨fun | 193 => 18 | n => n, fun | 31 => 26 | 9 => 9 | 4 => 4 | 3 => 3 | 0 => 0 | n => n, fun | n => n⟩
theorem Tryz.lays193 : Go.Proofs.Lays.n193 Tryz.prog Tryz.lays193_ren := {
  mixed := by kernel_rfl
  f193 := Tryz.func18.trans (congrArg some (by kernel_rfl))
  t0 := Tryz.underlying0
  a0 := Tryz.isAgg0
  z0 := Tryz.sizeOf0
  v0 := Tryz.zeroValue0
  t3 := Tryz.underlying3
  a3 := Tryz.isAgg3
  z3 := Tryz.sizeOf3
  v3 := Tryz.zeroValue3
  t4 := Tryz.underlying4
  a4 := Tryz.isAgg4
  z4 := Tryz.sizeOf4
  v4 := Tryz.zeroValue4
  t9 := Tryz.underlying9
  a9 := Tryz.isAgg9
  z9 := Tryz.sizeOf9
  v9 := Tryz.zeroValue9
  t31 := Tryz.underlying26
  a31 := Tryz.isAgg26
  z31 := Tryz.sizeOf26
  v31 := Tryz.zeroValue26 }
open Go.RowKit Go.Lib in
/-- slices.Equal at []string: "Equal reports whether two slices are equal: the same length and all elements equal. If the lengths are different, Equal returns false. Otherwise, the elements are compared in increasing index order, and the comparison stops at the first unequal pair. Empty and nil slices are considered equal.": IT RETURNS WHETHER THE TWO LISTS OF ELEMENTS ARE ONE; the world is as it was but for the count of draws (the test 's1[i] != s2[i]' has two reads, whose order the model draws, once a round). 'xs', 'ys': what the cells behind the two addresses hold (the spare capacity too, if you have it); 'xs.take n', 'ys.take m': the elements. THE TWO SLICES MAY OVERLAP. (LAID: no walk: one application.) -/
theorem Tryz.slices_Equal_string (b1 o1 n c b2 o2 m d : Nat) (xs ys : List ByteArray) (w : World) (hx : n ≤ xs.length) (hy : m ≤ ys.length) (hbig : n ≤ 9223372036854775807) (hbig2 : m ≤ 9223372036854775807) (hc1 : ∀ j, j < xs.length → w.cell? ⟨b1, o1 + j, none⟩ = some (.string (xs.getD j ByteArray.empty))) (hc2 : ∀ j, j < ys.length → w.cell? ⟨b2, o2 + j, none⟩ = some (.string (ys.getD j ByteArray.empty))) :
    Calls Tryz.prog 18 #[.slice (some ⟨b1, o1, none⟩) n c, .slice (some ⟨b2, o2, none⟩) m d] w fun e w' => e = .returned (.bool (decide (xs.take n = ys.take m))) ∧ ∃ q, w' = w.drewN q := Any.slices_Equal_string Tryz.lays193 b1 o1 n c b2 o2 m d xs ys w hx hy hbig hbig2 hc1 hc2
open Go.RowKit Go.Lib in
/-- The same where the first is of length 0 (a nil one too): no cell is asked for. (LAID: no walk: one application.) -/
theorem Tryz.slices_Equal_string_empty (a1 a2 : Option Addr) (c m d : Nat) (w : World) (hbig2 : m ≤ 9223372036854775807) :
    Calls Tryz.prog 18 #[.slice a1 0 c, .slice a2 m d] w fun e w' => e = .returned (.bool (decide (m = 0))) ∧ w' = w := Any.slices_Equal_string_empty Tryz.lays193 a1 a2 c m d w hbig2
def Tryz.laysNm217_ren : Go.Shelf.Ren := ⟨fun | 17 => 100 | n => n, fun | 24 => 26 | 9 => 9 | 3 => 3 | 4 => 4 | 0 => 0 | n => n, fun | n => n⟩
theorem Tryz.laysNm217 : Go.Proofs.Lays2.n17 Tryz.prog Tryz.laysNm217_ren := {
  mixed := by kernel_rfl
  f17 := Tryz.func100.trans (congrArg some (by kernel_rfl))
  t0 := Tryz.underlying0
  a0 := Tryz.isAgg0
  z0 := Tryz.sizeOf0
  v0 := Tryz.zeroValue0
  t3 := Tryz.underlying3
  a3 := Tryz.isAgg3
  z3 := Tryz.sizeOf3
  v3 := Tryz.zeroValue3
  t4 := Tryz.underlying4
  a4 := Tryz.isAgg4
  z4 := Tryz.sizeOf4
  v4 := Tryz.zeroValue4
  t9 := Tryz.underlying9
  a9 := Tryz.isAgg9
  z9 := Tryz.sizeOf9
  v9 := Tryz.zeroValue9
  t24 := Tryz.underlying26
  a24 := Tryz.isAgg26
  z24 := Tryz.sizeOf26
  v24 := Tryz.zeroValue26 }
open Go.RowKit Go.Lib Go.Sort in
/-- slices.Reverse at []string, over an array: Go's loop from the two ends inward is walked; it makes 'Sort.reverseLoop 0 (len - 1)', which is 'Array.reverse' (Derived/Lib/SlicesMore.lean). (LAID: no walk: one application.) -/
theorem Tryz.slices_Reverse_string_arr (blk off cap : Nat) (d : Array (List UInt8)) (w : World) (hH : Holds encStr w blk off d) (hsz : d.size ≤ 9223372036854775807) :
    Calls Tryz.prog 100 #[.slice (some ⟨blk, off, none⟩) d.size cap] w fun e w' => e = .returned (.tuple #[]) ∧ ∃ n, w' = putRow encStr (Sort.ahead w n) blk off d.reverse := Any.slices_Reverse_string_arr Tryz.laysNm217 blk off cap d w hH hsz
open Go.RowKit Go.Lib Go.Sort in
/-- slices.Reverse at []string: "Reverse reverses the elements of the slice in place.": THE SLICE's CELLS HOLD 'zs.reverse' BEHIND THE CALL; all else is as it was, but for the count of draws (the exchange 's[i], s[j] = s[j], s[i]' draws its order, once a round). IN THE WORDS OF slices.Sort's CONTRACT: 'Holds': the cells hold zs and none is frozen; 'putRow': the world with those cells holding another array. A slice of length 0 that is not nil is among them ('zs = []'); nil: '.._nil'. (LAID: no walk: one application.) -/
theorem Tryz.slices_Reverse_string (blk off cap : Nat) (zs : List (List UInt8)) (w : World) (hH : Holds encStr w blk off zs.toArray) (hsz : zs.length ≤ 9223372036854775807) :
    Calls Tryz.prog 100 #[.slice (some ⟨blk, off, none⟩) zs.length cap] w fun e w' => e = .returned (.tuple #[]) ∧ ∃ n, w' = putRow encStr (Sort.ahead w n) blk off zs.reverse.toArray := Any.slices_Reverse_string Tryz.laysNm217 blk off cap zs w hH hsz
open Go.RowKit Go.Lib Go.Sort in
/-- The same at a slice of length 0, a nil one too: nothing is read, nothing written, nothing drawn. (LAID: no walk: one application.) -/
theorem Tryz.slices_Reverse_string_empty (a : Option Addr) (cap : Nat) (w : World) :
    Calls Tryz.prog 100 #[.slice a 0 cap] w fun e w' => e = .returned (.tuple #[]) ∧ w' = w := Any.slices_Reverse_string_empty Tryz.laysNm217 a cap w
def Tryz.lays194_ren : Go.Shelf.Ren := ⟨fun | 194 => 42 | n => n, fun | 31 => 26 | 9 => 9 | 3 => 3 | 4 => 4 | 0 => 0 | n => n, fun | n => n⟩
theorem Tryz.lays194 : Go.Proofs.Lays.n194 Tryz.prog Tryz.lays194_ren := {
  mixed := by kernel_rfl
  f194 := Tryz.func42.trans (congrArg some (by kernel_rfl))
  t0 := Tryz.underlying0
  a0 := Tryz.isAgg0
  z0 := Tryz.sizeOf0
  v0 := Tryz.zeroValue0
  t3 := Tryz.underlying3
  a3 := Tryz.isAgg3
  z3 := Tryz.sizeOf3
  v3 := Tryz.zeroValue3
  t4 := Tryz.underlying4
  a4 := Tryz.isAgg4
  z4 := Tryz.sizeOf4
  v4 := Tryz.zeroValue4
  t9 := Tryz.underlying9
  a9 := Tryz.isAgg9
  z9 := Tryz.sizeOf9
  v9 := Tryz.zeroValue9
  t31 := Tryz.underlying26
  a31 := Tryz.isAgg26
  z31 := Tryz.sizeOf26
  v31 := Tryz.zeroValue26 }
open Go.RowKit Go.Lib Go.Sort in
/-- slices.Compact at []string, over an array: the library's two loops are walked. (LAID: no walk: one application.) -/
theorem Tryz.slices_Compact_string_arr (blk off cap : Nat) (d : Array (List UInt8)) (w : World) (hH : Holds encStr w blk off d) (hsz : d.size ≤ 9223372036854775807) (hcap : d.size ≤ cap) :
    Calls Tryz.prog 42 #[.slice (some ⟨blk, off, none⟩) d.size cap] w fun e w' => e = .returned (.slice (some ⟨blk, off, none⟩) (compactUpTo d d.size).length cap) ∧ ∃ q, w' = putRow encStr (Sort.ahead w q) blk off (compactUpTo d d.size ++ List.replicate (d.size - (compactUpTo d d.size).length) []).toArray := Any.slices_Compact_string_arr Tryz.lays194 blk off cap d w hH hsz hcap
open Go.RowKit Go.Lib Go.Sort in
/-- slices.Compact at []string: "Compact replaces consecutive runs of equal elements with a single copy. This is like the uniq command found on Unix. Compact modifies the contents of the slice s and returns the modified slice, which may have a smaller length. Compact zeroes the elements between the new length and the original length. The result preserves the nilness of s.": IT RETURNS THE SLICE CUT TO 'Lib.compact zs'; ITS CELLS HOLD 'Lib.compact zs', THEN ZERO VALUES up to the old length; all else is as it was, but for the count of draws. IN THE WORDS OF slices.Sort's CONTRACT ('Holds', 'putRow'): so the everyday 'slices.Sort(xs); xs = slices.Compact(xs)' goes from the one contract to the other. It asks 'zs.length ≤ cap' (every slice's: the reslicing 's[:k]' looks at it). Length 0, nil: '.._empty'. (LAID: no walk: one application.) -/
theorem Tryz.slices_Compact_string (blk off cap : Nat) (zs : List (List UInt8)) (w : World) (hH : Holds encStr w blk off zs.toArray) (hsz : zs.length ≤ 9223372036854775807) (hcap : zs.length ≤ cap) :
    Calls Tryz.prog 42 #[.slice (some ⟨blk, off, none⟩) zs.length cap] w fun e w' => e = .returned (.slice (some ⟨blk, off, none⟩) (Lib.compact zs).length cap) ∧ ∃ q, w' = putRow encStr (Sort.ahead w q) blk off (Lib.compact zs ++ List.replicate (zs.length - (Lib.compact zs).length) []).toArray := Any.slices_Compact_string Tryz.lays194 blk off cap zs w hH hsz hcap
open Go.RowKit Go.Lib Go.Sort in
/-- The same at a slice of length 0, a nil one too: it comes back as it is. (LAID: no walk: one application.) -/
theorem Tryz.slices_Compact_string_empty (a : Option Addr) (cap : Nat) (w : World) :
    Calls Tryz.prog 42 #[.slice a 0 cap] w fun e w' => e = .returned (.slice a 0 cap) ∧ w' = w := Any.slices_Compact_string_empty Tryz.lays194 a cap w
open Go.RowKit Go.Lib Go.Sort in
/-- slices.Reverse at []string, of an argument. (LAID: no walk: one application.) -/
theorem Tryz.slices_Reverse_string_cells (b off n c : Nat) (Sx : Nat → ByteArray) (w : World) (hbig : n ≤ 9223372036854775807) (hc : ∀ i, i < n → w.cell? ⟨b, off + i, none⟩ = some (.string (Sx i))) (hf : ∀ j, j < n → w.frozen? ⟨b, off + j, none⟩ = false) :
    Calls Tryz.prog 100 #[.slice (some ⟨b, off, none⟩) n c] w fun e w' => e = .returned (.tuple #[]) ∧ ∃ q, w' = (w.drewN q).setCells b off ((Lib.strsOf Sx n).reverse.map encStr) := Any.slices_Reverse_string_cells Tryz.laysNm217 b off n c Sx w hbig hc hf
open Go.RowKit Go.Lib Go.Sort in
/-- slices.Compact at []string, of an argument. (LAID: no walk: one application.) -/
theorem Tryz.slices_Compact_string_cells (b off n c : Nat) (Sx : Nat → ByteArray) (w : World) (hbig : n ≤ 9223372036854775807) (hcap : n ≤ c) (hc : ∀ i, i < n → w.cell? ⟨b, off + i, none⟩ = some (.string (Sx i))) (hf : ∀ j, j < n → w.frozen? ⟨b, off + j, none⟩ = false) :
    Calls Tryz.prog 42 #[.slice (some ⟨b, off, none⟩) n c] w fun e w' => e = .returned (.slice (some ⟨b, off, none⟩) (Lib.compact (Lib.strsOf Sx n)).length c) ∧ ∃ q, w' = (w.drewN q).setCells b off ((Lib.compact (Lib.strsOf Sx n) ++ List.replicate (n - (Lib.compact (Lib.strsOf Sx n)).length) []).map encStr) := Any.slices_Compact_string_cells Tryz.lays194 b off n c Sx w hbig hcap hc hf
open Go.RowKit Go.Sort in
/-- .. and plain. (LAID: no walk: one application.) -/
theorem Tryz.slices_Sort_string_none (p : Option Addr) (cap : Nat) (w : World) :
    Calls Tryz.prog 41 #[.slice p 0 cap] w fun e w' => e = .returned (.tuple #[]) ∧ w' = w := Any.slices_Sort_string_none Tryz.lays190 p cap w
open Go.RowKit Go.Lib in
theorem Tryz.slices_Equal_string_lens (a1 a2 : Option Addr) (n c m d : Nat) (w : World) (hnm : n ≠ m) :
    Calls Tryz.prog 18 #[.slice a1 n c, .slice a2 m d] w fun e w' => e = .returned (.bool false) ∧ w' = w := Any.slices_Equal_string_lens Tryz.lays193 a1 a2 n c m d w hnm
end Go.Proofs
