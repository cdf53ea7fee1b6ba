/-
  DERIVED: THE SHELF's CONTRACTS AT THIS DUMP, IN PLAIN WORDS (tools/lay-plain.mjs out of 'TrydShelf.lean', which tools/lay-shelf.mjs wrote): THE SAME DECLARATIONS UNDER THE SAME NAMES: 'import', 'namespace', 'open', 'def', 'theorem' AND NOTHING ELSE: no command of the shelf's: FOR A HAND-IN. Each laying: the table of numbers ('.._ren') and one theorem, a field a fact of the dump's own or the kernel's comparison; each contract: ONE APPLICATION.
-/
import Derived.Shelf.Small.Wraps
import Derived.Shelf.Strconv.ParseBool
import Derived.Shelf.Strconv.Itoa0
import Derived.Shelf.Strconv.Itoa1
import Derived.Shelf.LaysM
import Derived.Shelf.Strconv.Itoa2
import Derived.Shelf.Strconv.Itoa3
import Derived.Shelf.Strconv.ParseIntEmpty
import Derived.Shelf.Strconv.Clone
import Derived.Shelf.Strconv.ParseBoolErrInner
import Derived.Shelf.Strconv.Lower
import Derived.Shelf.Strconv.ParseUint10Empty
import Derived.Shelf.Strconv.ParseUintEmpty
import Derived.Shelf.Strings.Prefix
import Derived.Ground.Names2Prog
import Derived.Shelf.Slices.ReverseS
import Derived.Shelf.Slices.Cells
import Derived.Shelf.Spec.SearchS
import Derived.Ground.Names2Prog
import Derived.Shelf.SlGeneric
import Derived.Shelf.Spec.SlicesInsert
import Derived.Shelf.Spec.SlicesInsertGrow
import Derived.Ground.Names2Prog
import Derived.Shelf.SlGeneric
import Derived.Shelf.Strconv.ParseBool
import Derived.Ground.NamesProg
import Derived.Test.YtpcmiaablanmeaaDoorProg
namespace Go.Proofs
open Go.Shelf
def Tryd.bsL_ren : Go.Shelf.Ren := ⟨fun | 26 => 23 | 33 => 32 | 34 => 33 | 38 => 41 | n => n, fun | 24 => 23 | 9 => 9 | 3 => 3 | 4 => 4 | 40 => 79 | 0 => 0 | n => n, fun | n => n⟩
theorem Tryd.bsL : Go.Proofs.Lays2.n26 Tryd.prog Tryd.bsL_ren := {
  mixed := by kernel_rfl
  f26 := Tryd.func23.trans (congrArg some (by kernel_rfl))
  f33 := Tryd.func32.trans (congrArg some (by kernel_rfl))
  f34 := Tryd.func33.trans (congrArg some (by kernel_rfl))
  f38 := Tryd.func41.trans (congrArg some (by kernel_rfl))
  t0 := Tryd.underlying0
  a0 := Tryd.isAgg0
  z0 := Tryd.sizeOf0
  v0 := Tryd.zeroValue0
  t3 := Tryd.underlying3
  a3 := Tryd.isAgg3
  z3 := Tryd.sizeOf3
  v3 := Tryd.zeroValue3
  t4 := Tryd.underlying4
  a4 := Tryd.isAgg4
  z4 := Tryd.sizeOf4
  v4 := Tryd.zeroValue4
  t9 := Tryd.underlying9
  a9 := Tryd.isAgg9
  z9 := Tryd.sizeOf9
  v9 := Tryd.zeroValue9
  t24 := Tryd.underlying23
  a24 := Tryd.isAgg23
  z24 := Tryd.sizeOf23
  v24 := Tryd.zeroValue23
  t40 := Tryd.underlying79
  a40 := Tryd.isAgg79
  z40 := Tryd.sizeOf79
  v40 := Tryd.zeroValue79 }
def Tryd.insL_ren : Go.Shelf.Ren := ⟨fun | 22 => 24 | 29 => 34 | 30 => 35 | 36 => 42 | 17 => 48 | n => n, fun | 24 => 23 | 9 => 9 | 3 => 3 | 4 => 4 | 0 => 0 | n => n, fun | n => n⟩
theorem Tryd.insL : Go.Proofs.Lays2.n22 Tryd.prog Tryd.insL_ren := {
  mixed := by kernel_rfl
  f17 := Tryd.func48.trans (congrArg some (by kernel_rfl))
  f22 := Tryd.func24.trans (congrArg some (by kernel_rfl))
  f29 := Tryd.func34.trans (congrArg some (by kernel_rfl))
  f30 := Tryd.func35.trans (congrArg some (by kernel_rfl))
  f36 := Tryd.func42.trans (congrArg some (by kernel_rfl))
  t0 := Tryd.underlying0
  a0 := Tryd.isAgg0
  z0 := Tryd.sizeOf0
  v0 := Tryd.zeroValue0
  t3 := Tryd.underlying3
  a3 := Tryd.isAgg3
  z3 := Tryd.sizeOf3
  v3 := Tryd.zeroValue3
  t4 := Tryd.underlying4
  a4 := Tryd.isAgg4
  z4 := Tryd.sizeOf4
  v4 := Tryd.zeroValue4
  t9 := Tryd.underlying9
  a9 := Tryd.isAgg9
  z9 := Tryd.sizeOf9
  v9 := Tryd.zeroValue9
  t24 := Tryd.underlying23
  a24 := Tryd.isAgg23
  z24 := Tryd.sizeOf23
  v24 := Tryd.zeroValue23
  i9 := by kernel_rfl }
def Tryd.pbL_ren : Go.Shelf.Ren := ⟨fun | 175 => 75 | 248 => 77 | 245 => 78 | 279 => 80 | 280 => 81 | 281 => 82 | 282 => 83 | 316 => 84 | 171 => 85 | 205 => 47 | 243 => 86 | 246 => 87 | 283 => 88 | 284 => 89 | 285 => 90 | 286 => 91 | 129 => 93 | 317 => 92 | 318 => 94 | 319 => 95 | 320 => 96 | 337 => 97 | 338 => 98 | n => n, fun | 9 => 9 | 4 => 4 | 75 => 45 | 87 => 76 | 3 => 3 | 167 => 133 | 168 => 134 | 210 => 139 | 37 => 140 | 0 => 0 | 127 => 122 | 145 => 111 | 143 => 109 | 2 => 2 | 171 => 142 | 53 => 143 | 5 => 5 | 173 => 146 | 212 => 150 | 51 => 118 | 20 => 20 | 213 => 151 | 46 => 79 | 232 => 155 | 233 => 156 | 80 => 108 | n => n, fun | 15 => 2 | 16 => 3 | 17 => 4 | 18 => 5 | 19 => 6 | n => n⟩
theorem Tryd.pbL : Go.Proofs.Lays.n175 Tryd.prog Tryd.pbL_ren := {
  mixed := by kernel_rfl
  f129 := Tryd.func93.trans (congrArg some (by kernel_rfl))
  f171 := Tryd.func85.trans (congrArg some (by kernel_rfl))
  f175 := Tryd.func75.trans (congrArg some (by kernel_rfl))
  f205 := Tryd.func47.trans (congrArg some (by kernel_rfl))
  f243 := Tryd.func86.trans (congrArg some (by kernel_rfl))
  f245 := Tryd.func78.trans (congrArg some (by kernel_rfl))
  f246 := Tryd.func87.trans (congrArg some (by kernel_rfl))
  f248 := Tryd.func77.trans (congrArg some (by kernel_rfl))
  f279 := Tryd.func80.trans (congrArg some (by kernel_rfl))
  f280 := Tryd.func81.trans (congrArg some (by kernel_rfl))
  f281 := Tryd.func82.trans (congrArg some (by kernel_rfl))
  f282 := Tryd.func83.trans (congrArg some (by kernel_rfl))
  f283 := Tryd.func88.trans (congrArg some (by kernel_rfl))
  f284 := Tryd.func89.trans (congrArg some (by kernel_rfl))
  f285 := Tryd.func90.trans (congrArg some (by kernel_rfl))
  f286 := Tryd.func91.trans (congrArg some (by kernel_rfl))
  f316 := Tryd.func84.trans (congrArg some (by kernel_rfl))
  f317 := Tryd.func92.trans (congrArg some (by kernel_rfl))
  f318 := Tryd.func94.trans (congrArg some (by kernel_rfl))
  f319 := Tryd.func95.trans (congrArg some (by kernel_rfl))
  f320 := Tryd.func96.trans (congrArg some (by kernel_rfl))
  f337 := Tryd.func97.trans (congrArg some (by kernel_rfl))
  f338 := Tryd.func98.trans (congrArg some (by kernel_rfl))
  t0 := Tryd.underlying0
  a0 := Tryd.isAgg0
  z0 := Tryd.sizeOf0
  v0 := Tryd.zeroValue0
  t2 := Tryd.underlying2
  a2 := Tryd.isAgg2
  z2 := Tryd.sizeOf2
  v2 := Tryd.zeroValue2
  t3 := Tryd.underlying3
  a3 := Tryd.isAgg3
  z3 := Tryd.sizeOf3
  v3 := Tryd.zeroValue3
  t4 := Tryd.underlying4
  a4 := Tryd.isAgg4
  z4 := Tryd.sizeOf4
  v4 := Tryd.zeroValue4
  t5 := Tryd.underlying5
  a5 := Tryd.isAgg5
  z5 := Tryd.sizeOf5
  v5 := Tryd.zeroValue5
  t9 := Tryd.underlying9
  a9 := Tryd.isAgg9
  z9 := Tryd.sizeOf9
  v9 := Tryd.zeroValue9
  t20 := Tryd.underlying20
  a20 := Tryd.isAgg20
  z20 := Tryd.sizeOf20
  v20 := Tryd.zeroValue20
  t37 := Tryd.underlying140
  a37 := Tryd.isAgg140
  z37 := Tryd.sizeOf140
  v37 := Tryd.zeroValue140
  t46 := Tryd.underlying79
  a46 := Tryd.isAgg79
  z46 := Tryd.sizeOf79
  v46 := Tryd.zeroValue79
  t51 := Tryd.underlying118
  a51 := Tryd.isAgg118
  z51 := Tryd.sizeOf118
  v51 := Tryd.zeroValue118
  t53 := Tryd.underlying143
  a53 := Tryd.isAgg143
  z53 := Tryd.sizeOf143
  v53 := Tryd.zeroValue143
  t75 := Tryd.underlying45
  a75 := Tryd.isAgg45
  z75 := Tryd.sizeOf45
  v75 := Tryd.zeroValue45
  t87 := Tryd.underlying76
  a87 := Tryd.isAgg76
  z87 := Tryd.sizeOf76
  v87 := Tryd.zeroValue76
  t127 := Tryd.underlying122
  a127 := Tryd.isAgg122
  z127 := Tryd.sizeOf122
  v127 := Tryd.zeroValue122
  t143 := Tryd.underlying109
  a143 := Tryd.isAgg109
  z143 := Tryd.sizeOf109
  v143 := Tryd.zeroValue109
  t145 := Tryd.underlying111
  a145 := Tryd.isAgg111
  z145 := Tryd.sizeOf111
  v145 := Tryd.zeroValue111
  t167 := Tryd.underlying133
  a167 := Tryd.isAgg133
  z167 := Tryd.sizeOf133
  v167 := Tryd.zeroValue133
  t168 := Tryd.underlying134
  a168 := Tryd.isAgg134
  z168 := Tryd.sizeOf134
  v168 := Tryd.zeroValue134
  t171 := Tryd.underlying142
  a171 := Tryd.isAgg142
  z171 := Tryd.sizeOf142
  v171 := Tryd.zeroValue142
  t173 := Tryd.underlying146
  a173 := Tryd.isAgg146
  z173 := Tryd.sizeOf146
  v173 := Tryd.zeroValue146
  t210 := Tryd.underlying139
  a210 := Tryd.isAgg139
  z210 := Tryd.sizeOf139
  v210 := Tryd.zeroValue139
  t212 := Tryd.underlying150
  a212 := Tryd.isAgg150
  z212 := Tryd.sizeOf150
  v212 := Tryd.zeroValue150
  t213 := Tryd.underlying151
  a213 := Tryd.isAgg151
  z213 := Tryd.sizeOf151
  t232 := Tryd.underlying155
  a232 := Tryd.isAgg155
  z232 := Tryd.sizeOf155
  v232 := Tryd.zeroValue155
  t233 := Tryd.underlying156
  a233 := Tryd.isAgg156
  z233 := Tryd.sizeOf156
  v233 := Tryd.zeroValue156
  g15 := by kernel_rfl
  g16 := by kernel_rfl
  g17 := by kernel_rfl
  g18 := by kernel_rfl
  g19 := by kernel_rfl }
def Tryd.lays214_ren : Go.Shelf.Ren := ⟨fun | 214 => 79 | n => n, fun | 4 => 4 | 9 => 9 | n => n, fun | n => n⟩
theorem Tryd.lays214 : Go.Proofs.Lays.n214 Tryd.prog Tryd.lays214_ren := {
  mixed := by kernel_rfl
  f214 := Tryd.func79.trans (congrArg some (by kernel_rfl))
  t4 := Tryd.underlying4
  a4 := Tryd.isAgg4
  z4 := Tryd.sizeOf4
  v4 := Tryd.zeroValue4
  t9 := Tryd.underlying9
  a9 := Tryd.isAgg9
  z9 := Tryd.sizeOf9
  v9 := Tryd.zeroValue9 }
open Go.RowKit in
/-- internal/strconv.FormatBool (what strconv.FormatBool calls). (LAID: no walk: one application.) -/
theorem Tryd.internal_strconv_FormatBool (b : Bool) (w : World) :
    Calls Tryd.prog 79 #[.bool b] w fun e w' => e = .returned (.string ⟨(Lib.formatBool b).toArray⟩) ∧ w' = w := Any.internal_strconv_FormatBool Tryd.lays214 b w
def Tryd.lays121_ren : Go.Shelf.Ren := ⟨fun | 121 => 76 | 214 => 79 | n => n, fun | 4 => 4 | 9 => 9 | n => n, fun | n => n⟩
theorem Tryd.lays121 : Go.Proofs.Lays.n121 Tryd.prog Tryd.lays121_ren := {
  mixed := by kernel_rfl
  f121 := Tryd.func76.trans (congrArg some (by kernel_rfl))
  f214 := Tryd.func79.trans (congrArg some (by kernel_rfl))
  t4 := Tryd.underlying4
  a4 := Tryd.isAgg4
  z4 := Tryd.sizeOf4
  v4 := Tryd.zeroValue4
  t9 := Tryd.underlying9
  a9 := Tryd.isAgg9
  z9 := Tryd.sizeOf9
  v9 := Tryd.zeroValue9 }
open Go.RowKit in
/-- strconv.FormatBool: "FormatBool returns "true" or "false" according to the value of b.": IT RETURNS 'Lib.formatBool b'; the world is as it was. (LAID: no walk: one application.) -/
theorem Tryd.strconv_FormatBool (b : Bool) (w : World) :
    Calls Tryd.prog 76 #[.bool b] w fun e w' => e = .returned (.string ⟨(Lib.formatBool b).toArray⟩) ∧ w' = w := Any.strconv_FormatBool Tryd.lays121 b w
def Tryd.lays248_ren : Go.Shelf.Ren := ⟨fun | 248 => 77 | n => n, fun | 9 => 9 | 4 => 4 | 75 => 45 | 167 => 133 | 80 => 108 | n => n, fun | n => n⟩
theorem Tryd.lays248 : Go.Proofs.Lays.n248 Tryd.prog Tryd.lays248_ren := {
  mixed := by kernel_rfl
  f248 := Tryd.func77.trans (congrArg some (by kernel_rfl))
  t4 := Tryd.underlying4
  a4 := Tryd.isAgg4
  z4 := Tryd.sizeOf4
  v4 := Tryd.zeroValue4
  t9 := Tryd.underlying9
  a9 := Tryd.isAgg9
  z9 := Tryd.sizeOf9
  v9 := Tryd.zeroValue9
  t75 := Tryd.underlying45
  a75 := Tryd.isAgg45
  z75 := Tryd.sizeOf45
  v75 := Tryd.zeroValue45
  t167 := Tryd.underlying133
  a167 := Tryd.isAgg133
  z167 := Tryd.sizeOf133
  v167 := Tryd.zeroValue133 }
/-- internal/strconv.ParseBool, at a string that it accepts: the value, and no error. The world is as it was. (LAID: no walk: one application.) -/
theorem Tryd.internal_strconv_ParseBool (s : ByteArray) (b : Bool) (h : Lib.parseBool s.data.toList = some b) (w : World) :
    Calls Tryd.prog 77 #[.string s] w fun e w' => e = .returned (.tuple #[.bool b, .nilIface]) ∧ w' = w := Any.internal_strconv_ParseBool Tryd.lays248 s b h w
def Tryd.lays175_ren : Go.Shelf.Ren := ⟨fun | 175 => 75 | 248 => 77 | 245 => 78 | 279 => 80 | 280 => 81 | 281 => 82 | 282 => 83 | 316 => 84 | 171 => 85 | 205 => 47 | 243 => 86 | 246 => 87 | 283 => 88 | 284 => 89 | 285 => 90 | 286 => 91 | 129 => 93 | 317 => 92 | 318 => 94 | 319 => 95 | 320 => 96 | 337 => 97 | 338 => 98 | n => n, fun | 9 => 9 | 4 => 4 | 75 => 45 | 87 => 76 | 3 => 3 | 167 => 133 | 168 => 134 | 210 => 139 | 37 => 140 | 0 => 0 | 127 => 122 | 145 => 111 | 143 => 109 | 2 => 2 | 171 => 142 | 53 => 143 | 5 => 5 | 173 => 146 | 212 => 150 | 51 => 118 | 20 => 20 | 213 => 151 | 46 => 79 | 232 => 155 | 233 => 156 | 80 => 108 | n => n, fun | 15 => 2 | 16 => 3 | 17 => 4 | 18 => 5 | 19 => 6 | n => n⟩
theorem Tryd.lays175 : Go.Proofs.Lays.n175 Tryd.prog Tryd.lays175_ren := {
  mixed := by kernel_rfl
  f129 := Tryd.func93.trans (congrArg some (by kernel_rfl))
  f171 := Tryd.func85.trans (congrArg some (by kernel_rfl))
  f175 := Tryd.func75.trans (congrArg some (by kernel_rfl))
  f205 := Tryd.func47.trans (congrArg some (by kernel_rfl))
  f243 := Tryd.func86.trans (congrArg some (by kernel_rfl))
  f245 := Tryd.func78.trans (congrArg some (by kernel_rfl))
  f246 := Tryd.func87.trans (congrArg some (by kernel_rfl))
  f248 := Tryd.func77.trans (congrArg some (by kernel_rfl))
  f279 := Tryd.func80.trans (congrArg some (by kernel_rfl))
  f280 := Tryd.func81.trans (congrArg some (by kernel_rfl))
  f281 := Tryd.func82.trans (congrArg some (by kernel_rfl))
  f282 := Tryd.func83.trans (congrArg some (by kernel_rfl))
  f283 := Tryd.func88.trans (congrArg some (by kernel_rfl))
  f284 := Tryd.func89.trans (congrArg some (by kernel_rfl))
  f285 := Tryd.func90.trans (congrArg some (by kernel_rfl))
  f286 := Tryd.func91.trans (congrArg some (by kernel_rfl))
  f316 := Tryd.func84.trans (congrArg some (by kernel_rfl))
  f317 := Tryd.func92.trans (congrArg some (by kernel_rfl))
  f318 := Tryd.func94.trans (congrArg some (by kernel_rfl))
  f319 := Tryd.func95.trans (congrArg some (by kernel_rfl))
  f320 := Tryd.func96.trans (congrArg some (by kernel_rfl))
  f337 := Tryd.func97.trans (congrArg some (by kernel_rfl))
  f338 := Tryd.func98.trans (congrArg some (by kernel_rfl))
  t0 := Tryd.underlying0
  a0 := Tryd.isAgg0
  z0 := Tryd.sizeOf0
  v0 := Tryd.zeroValue0
  t2 := Tryd.underlying2
  a2 := Tryd.isAgg2
  z2 := Tryd.sizeOf2
  v2 := Tryd.zeroValue2
  t3 := Tryd.underlying3
  a3 := Tryd.isAgg3
  z3 := Tryd.sizeOf3
  v3 := Tryd.zeroValue3
  t4 := Tryd.underlying4
  a4 := Tryd.isAgg4
  z4 := Tryd.sizeOf4
  v4 := Tryd.zeroValue4
  t5 := Tryd.underlying5
  a5 := Tryd.isAgg5
  z5 := Tryd.sizeOf5
  v5 := Tryd.zeroValue5
  t9 := Tryd.underlying9
  a9 := Tryd.isAgg9
  z9 := Tryd.sizeOf9
  v9 := Tryd.zeroValue9
  t20 := Tryd.underlying20
  a20 := Tryd.isAgg20
  z20 := Tryd.sizeOf20
  v20 := Tryd.zeroValue20
  t37 := Tryd.underlying140
  a37 := Tryd.isAgg140
  z37 := Tryd.sizeOf140
  v37 := Tryd.zeroValue140
  t46 := Tryd.underlying79
  a46 := Tryd.isAgg79
  z46 := Tryd.sizeOf79
  v46 := Tryd.zeroValue79
  t51 := Tryd.underlying118
  a51 := Tryd.isAgg118
  z51 := Tryd.sizeOf118
  v51 := Tryd.zeroValue118
  t53 := Tryd.underlying143
  a53 := Tryd.isAgg143
  z53 := Tryd.sizeOf143
  v53 := Tryd.zeroValue143
  t75 := Tryd.underlying45
  a75 := Tryd.isAgg45
  z75 := Tryd.sizeOf45
  v75 := Tryd.zeroValue45
  t87 := Tryd.underlying76
  a87 := Tryd.isAgg76
  z87 := Tryd.sizeOf76
  v87 := Tryd.zeroValue76
  t127 := Tryd.underlying122
  a127 := Tryd.isAgg122
  z127 := Tryd.sizeOf122
  v127 := Tryd.zeroValue122
  t143 := Tryd.underlying109
  a143 := Tryd.isAgg109
  z143 := Tryd.sizeOf109
  v143 := Tryd.zeroValue109
  t145 := Tryd.underlying111
  a145 := Tryd.isAgg111
  z145 := Tryd.sizeOf111
  v145 := Tryd.zeroValue111
  t167 := Tryd.underlying133
  a167 := Tryd.isAgg133
  z167 := Tryd.sizeOf133
  v167 := Tryd.zeroValue133
  t168 := Tryd.underlying134
  a168 := Tryd.isAgg134
  z168 := Tryd.sizeOf134
  v168 := Tryd.zeroValue134
  t171 := Tryd.underlying142
  a171 := Tryd.isAgg142
  z171 := Tryd.sizeOf142
  v171 := Tryd.zeroValue142
  t173 := Tryd.underlying146
  a173 := Tryd.isAgg146
  z173 := Tryd.sizeOf146
  v173 := Tryd.zeroValue146
  t210 := Tryd.underlying139
  a210 := Tryd.isAgg139
  z210 := Tryd.sizeOf139
  v210 := Tryd.zeroValue139
  t212 := Tryd.underlying150
  a212 := Tryd.isAgg150
  z212 := Tryd.sizeOf150
  v212 := Tryd.zeroValue150
  t213 := Tryd.underlying151
  a213 := Tryd.isAgg151
  z213 := Tryd.sizeOf151
  t232 := Tryd.underlying155
  a232 := Tryd.isAgg155
  z232 := Tryd.sizeOf155
  v232 := Tryd.zeroValue155
  t233 := Tryd.underlying156
  a233 := Tryd.isAgg156
  z233 := Tryd.sizeOf156
  v233 := Tryd.zeroValue156
  g15 := by kernel_rfl
  g16 := by kernel_rfl
  g17 := by kernel_rfl
  g18 := by kernel_rfl
  g19 := by kernel_rfl }
/-- strconv.ParseBool: "ParseBool returns the boolean value represented by the string. It accepts 1, t, T, TRUE, true, True, 0, f, F, FALSE, false, False. Any other value returns an error.": AT ONE OF THE TWELVE. The world is as it was. (LAID: no walk: one application.) -/
theorem Tryd.strconv_ParseBool (s : ByteArray) (b : Bool) (h : Lib.parseBool s.data.toList = some b) (w : World) :
    Calls Tryd.prog 75 #[.string s] w fun e w' => e = .returned (.tuple #[.bool b, .nilIface]) ∧ w' = w := Any.strconv_ParseBool Tryd.lays175 s b h w
def Tryd.lays129_ren : Go.Shelf.Ren := ⟨fun | 129 => 93 | n => n, fun | 53 => 143 | 3 => 3 | 4 => 4 | 46 => 79 | 5 => 5 | 9 => 9 | n => n, fun | n => n⟩
theorem Tryd.lays129 : Go.Proofs.Lays.n129 Tryd.prog Tryd.lays129_ren := {
  mixed := by kernel_rfl
  f129 := Tryd.func93.trans (congrArg some (by kernel_rfl))
  t3 := Tryd.underlying3
  a3 := Tryd.isAgg3
  z3 := Tryd.sizeOf3
  v3 := Tryd.zeroValue3
  t4 := Tryd.underlying4
  a4 := Tryd.isAgg4
  z4 := Tryd.sizeOf4
  v4 := Tryd.zeroValue4
  t5 := Tryd.underlying5
  a5 := Tryd.isAgg5
  z5 := Tryd.sizeOf5
  v5 := Tryd.zeroValue5
  t9 := Tryd.underlying9
  a9 := Tryd.isAgg9
  z9 := Tryd.sizeOf9
  v9 := Tryd.zeroValue9
  t46 := Tryd.underlying79
  a46 := Tryd.isAgg79
  z46 := Tryd.sizeOf79
  v46 := Tryd.zeroValue79
  t53 := Tryd.underlying143
  a53 := Tryd.isAgg143
  z53 := Tryd.sizeOf143
  v53 := Tryd.zeroValue143 }
/-- bits.Len64: "Len64 returns the minimum number of bits required to represent x; the result is 0 for x == 0.": IT RETURNS 'Lib.bitLen x'; the world is as it was. ('h0', 'h1': x is a uint64.) (LAID: no walk: one application.) -/
theorem Tryd.bits_Len64 (x : Int) (w : World) (h0 : 0 ≤ x) (h1 : x ≤ 18446744073709551615) :
    Calls Tryd.prog 93 #[.int .u64 x] w fun e w' => e = .returned (.int .i64 (Lib.bitLen x.toNat)) ∧ w' = w := Any.bits_Len64 Tryd.lays129 x w h0 h1
def Tryd.lays317_ren : Go.Shelf.Ren := ⟨fun | 317 => 92 | n => n, fun | 3 => 3 | 46 => 79 | n => n, fun | n => n⟩
theorem Tryd.lays317 : Go.Proofs.Lays.n317 Tryd.prog Tryd.lays317_ren := {
  mixed := by kernel_rfl
  f317 := Tryd.func92.trans (congrArg some (by kernel_rfl))
  t3 := Tryd.underlying3
  a3 := Tryd.isAgg3
  z3 := Tryd.sizeOf3
  v3 := Tryd.zeroValue3
  t46 := Tryd.underlying79
  a46 := Tryd.isAgg79
  z46 := Tryd.sizeOf79
  v46 := Tryd.zeroValue79 }
open Go.Lib in
/-- internal/strconv.log10Pow2: "log10Pow2(x) returns ⌊log₁₀ 2**x⌋ = ⌊x * log₁₀ 2⌋.": '(x * 78913) >> 18', at an x up to 64 (a length in bits). The world is as it was. (LAID: no walk: one application.) -/
theorem Tryd.internal_strconv_log10Pow2 (x : Nat) (h : x ≤ 64) (w : World) :
    Calls Tryd.prog 92 #[.int .i64 x] w fun e w' => e = .returned (.int .i64 (Lib.l10 x)) ∧ w' = w := Any.internal_strconv_log10Pow2 Tryd.lays317 x h w
def Tryd.lays318_ren : Go.Shelf.Ren := ⟨fun | 318 => 94 | n => n, fun | 3 => 3 | 4 => 4 | n => n, fun | n => n⟩
theorem Tryd.lays318 : Go.Proofs.Lays.n318 Tryd.prog Tryd.lays318_ren := {
  mixed := by kernel_rfl
  f318 := Tryd.func94.trans (congrArg some (by kernel_rfl))
  t3 := Tryd.underlying3
  a3 := Tryd.isAgg3
  z3 := Tryd.sizeOf3
  v3 := Tryd.zeroValue3
  t4 := Tryd.underlying4
  a4 := Tryd.isAgg4
  z4 := Tryd.sizeOf4
  v4 := Tryd.zeroValue4 }
open Go.Lib in
/-- internal/strconv.bool2: "bool2 converts b to an integer: 1 for true, 0 for false." The world is as it was. (LAID: no walk: one application.) -/
theorem Tryd.internal_strconv_bool2_int (b : Bool) (w : World) :
    Calls Tryd.prog 94 #[.bool b] w fun e w' => e = .returned (.int .i64 (if b then 1 else 0)) ∧ w' = w := Any.internal_strconv_bool2_int Tryd.lays318 b w
def Tryd.lays283_ren : Go.Shelf.Ren := ⟨fun | 283 => 88 | n => n, fun | 3 => 3 | 9 => 9 | 4 => 4 | n => n, fun | n => n⟩
theorem Tryd.lays283 : Go.Proofs.Lays.n283 Tryd.prog Tryd.lays283_ren := {
  mixed := by kernel_rfl
  f283 := Tryd.func88.trans (congrArg some (by kernel_rfl))
  t3 := Tryd.underlying3
  a3 := Tryd.isAgg3
  z3 := Tryd.sizeOf3
  v3 := Tryd.zeroValue3
  t4 := Tryd.underlying4
  a4 := Tryd.isAgg4
  z4 := Tryd.sizeOf4
  v4 := Tryd.zeroValue4
  t9 := Tryd.underlying9
  a9 := Tryd.isAgg9
  z9 := Tryd.sizeOf9
  v9 := Tryd.zeroValue9 }
open Go.Lib in
/-- internal/strconv.small: "small returns the string for an i with 0 <= i < nSmalls.": i's decimal numeral. The world is as it was. (LAID: no walk: one application.) -/
theorem Tryd.internal_strconv_small (i : Nat) (h : i < 100) (w : World) :
    Calls Tryd.prog 88 #[.int .i64 i] w fun e w' => e = .returned (.string ⟨(Lib.decDigits i).toArray⟩) ∧ w' = w := Any.internal_strconv_small Tryd.lays283 i h w
def Tryd.laysM284_ren : Go.Shelf.Ren := ⟨fun | 284 => 89 | 129 => 93 | 317 => 92 | 318 => 94 | n => n, fun | 53 => 143 | 3 => 3 | 212 => 150 | 0 => 0 | 4 => 4 | 46 => 79 | 5 => 5 | 9 => 9 | n => n, fun | 17 => 4 | n => n⟩
theorem Tryd.laysM284 : Go.Proofs.LaysM.n284 Tryd.prog Tryd.laysM284_ren := {
  mixed := by kernel_rfl
  f129 := Tryd.func93.trans (congrArg some (by kernel_rfl))
  f284 := Tryd.func89.trans (congrArg some (by kernel_rfl))
  f317 := Tryd.func92.trans (congrArg some (by kernel_rfl))
  f318 := Tryd.func94.trans (congrArg some (by kernel_rfl))
  t0 := Tryd.underlying0
  a0 := Tryd.isAgg0
  z0 := Tryd.sizeOf0
  v0 := Tryd.zeroValue0
  t3 := Tryd.underlying3
  a3 := Tryd.isAgg3
  z3 := Tryd.sizeOf3
  v3 := Tryd.zeroValue3
  t4 := Tryd.underlying4
  a4 := Tryd.isAgg4
  z4 := Tryd.sizeOf4
  v4 := Tryd.zeroValue4
  t5 := Tryd.underlying5
  a5 := Tryd.isAgg5
  z5 := Tryd.sizeOf5
  v5 := Tryd.zeroValue5
  t9 := Tryd.underlying9
  a9 := Tryd.isAgg9
  z9 := Tryd.sizeOf9
  v9 := Tryd.zeroValue9
  t46 := Tryd.underlying79
  a46 := Tryd.isAgg79
  z46 := Tryd.sizeOf79
  v46 := Tryd.zeroValue79
  t53 := Tryd.underlying143
  a53 := Tryd.isAgg143
  z53 := Tryd.sizeOf143
  v53 := Tryd.zeroValue143
  t212 := Tryd.underlying150
  a212 := Tryd.isAgg150
  z212 := Tryd.sizeOf150
  v212 := Tryd.zeroValue150
  g17 := by kernel_rfl
  i0 := by kernel_rfl
  i3 := by kernel_rfl
  i4 := by kernel_rfl
  i5 := by kernel_rfl
  i9 := by kernel_rfl
  i46 := by kernel_rfl
  i53 := by kernel_rfl
  i212 := by kernel_rfl
  m17 := by kernel_rfl }
open Go.Lib in
/-- internal/strconv.numDigits, at a d that is not 0: THE NUMBER OF d's DECIMAL DIGITS. The world is as it was. (LAID: no walk: one application.) -/
theorem Tryd.internal_strconv_numDigits (u : Nat) (h1 : 1 ≤ u) (h2 : u < 18446744073709551616) (w : World) (htab : Lib.TabIs Tryd.prog w "internal/strconv.uint64pow10" .u64 Lib.pow10Tab) :
    Calls Tryd.prog 89 #[.int .u64 u] w fun e w' => e = .returned (.int .i64 (Lib.nDigits u)) ∧ w' = w := Any.internal_strconv_numDigits Tryd.laysM284 u h1 h2 w htab
def Tryd.lays285_ren : Go.Shelf.Ren := ⟨fun | 285 => 90 | n => n, fun | 37 => 140 | 53 => 143 | 3 => 3 | 4 => 4 | 51 => 118 | 9 => 9 | 5 => 5 | 0 => 0 | n => n, fun | n => n⟩
theorem Tryd.lays285 : Go.Proofs.Lays.n285 Tryd.prog Tryd.lays285_ren := {
  mixed := by kernel_rfl
  f285 := Tryd.func90.trans (congrArg some (by kernel_rfl))
  t0 := Tryd.underlying0
  a0 := Tryd.isAgg0
  z0 := Tryd.sizeOf0
  v0 := Tryd.zeroValue0
  t3 := Tryd.underlying3
  a3 := Tryd.isAgg3
  z3 := Tryd.sizeOf3
  v3 := Tryd.zeroValue3
  t4 := Tryd.underlying4
  a4 := Tryd.isAgg4
  z4 := Tryd.sizeOf4
  v4 := Tryd.zeroValue4
  t5 := Tryd.underlying5
  a5 := Tryd.isAgg5
  z5 := Tryd.sizeOf5
  v5 := Tryd.zeroValue5
  t9 := Tryd.underlying9
  a9 := Tryd.isAgg9
  z9 := Tryd.sizeOf9
  v9 := Tryd.zeroValue9
  t37 := Tryd.underlying140
  a37 := Tryd.isAgg140
  z37 := Tryd.sizeOf140
  v37 := Tryd.zeroValue140
  t51 := Tryd.underlying118
  a51 := Tryd.isAgg118
  z51 := Tryd.sizeOf118
  v51 := Tryd.zeroValue118
  t53 := Tryd.underlying143
  a53 := Tryd.isAgg143
  z53 := Tryd.sizeOf143
  v53 := Tryd.zeroValue143 }
open Go.RowKit Go.Sort Go.Lib in
/-- internal/strconv.formatBase10: "formatBase10 formats the decimal representation of u into a. The caller is responsible for ensuring that a is big enough to hold u. If a is too big, leading zeros will be filled in as needed.": THE ROW HOLDS u's DIGITS ('FmtInv .. 0 ..': every place t holds 'dg u (len - 1 - t)'); all else is as it was but for the count of draws. (LAID: no walk: one application.) -/
theorem Tryd.internal_strconv_formatBase10 (blk off cap : Nat) (u : Nat) (d : Array UInt8) (w : World) (hH : Holds (fun (b : UInt8) => Value.int .u8 (b.toNat : Int)) w blk off d) (hu : u < 10 ^ d.size) (hu64 : u < 18446744073709551616) (hsz : d.size < 4611686018427387904) :
    Calls Tryd.prog 90 #[.slice (some ⟨blk, off, none⟩) d.size cap, .int .u64 u] w fun e w' =>
      e = .returned (.tuple #[]) ∧ ∃ (n v' : Nat) (dk : Array UInt8), w' = (putRow (fun (b : UInt8) => Value.int .u8 (b.toNat : Int)) w blk off dk).drewN n ∧ FmtInv d.size u 0 v' dk := Any.internal_strconv_formatBase10 Tryd.lays285 blk off cap u d w hH hu hu64 hsz
def Tryd.laysM246_ren : Go.Shelf.Ren := ⟨fun | 246 => 87 | 283 => 88 | 284 => 89 | 285 => 90 | 286 => 91 | 129 => 93 | 317 => 92 | 318 => 94 | 319 => 95 | 320 => 96 | 337 => 97 | 338 => 98 | n => n, fun | 2 => 2 | 3 => 3 | 9 => 9 | 4 => 4 | 171 => 142 | 0 => 0 | 53 => 143 | 37 => 140 | 5 => 5 | 173 => 146 | 212 => 150 | 51 => 118 | 20 => 20 | 213 => 151 | 46 => 79 | 232 => 155 | 233 => 156 | n => n, fun | 17 => 4 | 18 => 5 | 19 => 6 | n => n⟩
theorem Tryd.laysM246 : Go.Proofs.LaysM.n246 Tryd.prog Tryd.laysM246_ren := {
  mixed := by kernel_rfl
  f129 := Tryd.func93.trans (congrArg some (by kernel_rfl))
  f246 := Tryd.func87.trans (congrArg some (by kernel_rfl))
  f283 := Tryd.func88.trans (congrArg some (by kernel_rfl))
  f284 := Tryd.func89.trans (congrArg some (by kernel_rfl))
  f285 := Tryd.func90.trans (congrArg some (by kernel_rfl))
  f286 := Tryd.func91.trans (congrArg some (by kernel_rfl))
  f317 := Tryd.func92.trans (congrArg some (by kernel_rfl))
  f318 := Tryd.func94.trans (congrArg some (by kernel_rfl))
  f319 := Tryd.func95.trans (congrArg some (by kernel_rfl))
  f320 := Tryd.func96.trans (congrArg some (by kernel_rfl))
  f337 := Tryd.func97.trans (congrArg some (by kernel_rfl))
  f338 := Tryd.func98.trans (congrArg some (by kernel_rfl))
  t0 := Tryd.underlying0
  a0 := Tryd.isAgg0
  z0 := Tryd.sizeOf0
  v0 := Tryd.zeroValue0
  t2 := Tryd.underlying2
  a2 := Tryd.isAgg2
  z2 := Tryd.sizeOf2
  v2 := Tryd.zeroValue2
  t3 := Tryd.underlying3
  a3 := Tryd.isAgg3
  z3 := Tryd.sizeOf3
  v3 := Tryd.zeroValue3
  t4 := Tryd.underlying4
  a4 := Tryd.isAgg4
  z4 := Tryd.sizeOf4
  v4 := Tryd.zeroValue4
  t5 := Tryd.underlying5
  a5 := Tryd.isAgg5
  z5 := Tryd.sizeOf5
  v5 := Tryd.zeroValue5
  t9 := Tryd.underlying9
  a9 := Tryd.isAgg9
  z9 := Tryd.sizeOf9
  v9 := Tryd.zeroValue9
  t20 := Tryd.underlying20
  a20 := Tryd.isAgg20
  z20 := Tryd.sizeOf20
  v20 := Tryd.zeroValue20
  t37 := Tryd.underlying140
  a37 := Tryd.isAgg140
  z37 := Tryd.sizeOf140
  v37 := Tryd.zeroValue140
  t46 := Tryd.underlying79
  a46 := Tryd.isAgg79
  z46 := Tryd.sizeOf79
  v46 := Tryd.zeroValue79
  t51 := Tryd.underlying118
  a51 := Tryd.isAgg118
  z51 := Tryd.sizeOf118
  v51 := Tryd.zeroValue118
  t53 := Tryd.underlying143
  a53 := Tryd.isAgg143
  z53 := Tryd.sizeOf143
  v53 := Tryd.zeroValue143
  t171 := Tryd.underlying142
  a171 := Tryd.isAgg142
  z171 := Tryd.sizeOf142
  v171 := Tryd.zeroValue142
  t173 := Tryd.underlying146
  a173 := Tryd.isAgg146
  z173 := Tryd.sizeOf146
  v173 := Tryd.zeroValue146
  t212 := Tryd.underlying150
  a212 := Tryd.isAgg150
  z212 := Tryd.sizeOf150
  v212 := Tryd.zeroValue150
  t213 := Tryd.underlying151
  a213 := Tryd.isAgg151
  z213 := Tryd.sizeOf151
  t232 := Tryd.underlying155
  a232 := Tryd.isAgg155
  z232 := Tryd.sizeOf155
  v232 := Tryd.zeroValue155
  t233 := Tryd.underlying156
  a233 := Tryd.isAgg156
  z233 := Tryd.sizeOf156
  v233 := Tryd.zeroValue156
  g17 := by kernel_rfl
  g18 := by kernel_rfl
  g19 := by kernel_rfl
  i0 := by kernel_rfl
  i2 := by kernel_rfl
  i3 := by kernel_rfl
  i4 := by kernel_rfl
  i5 := by kernel_rfl
  i9 := by kernel_rfl
  i20 := by kernel_rfl
  i37 := by kernel_rfl
  i46 := by kernel_rfl
  i51 := by kernel_rfl
  i53 := by kernel_rfl
  i171 := by kernel_rfl
  i173 := by kernel_rfl
  i212 := by kernel_rfl
  i232 := by kernel_rfl
  i233 := by kernel_rfl
  m17 := by kernel_rfl
  m18 := by kernel_rfl
  m19 := by kernel_rfl }
open Go.RowKit Go.Sort Go.Lib in
/-- internal/strconv.FormatInt: "FormatInt returns the string representation of i in the given base": AT BASE 10: i's decimal numeral, for every int64. The world behind the call: the world before it, new blocks behind the heap, draws. (LAID: no walk: one application.) -/
theorem Tryd.internal_strconv_FormatInt_10 (n : Int) (h0 : -9223372036854775808 ≤ n) (h1 : n ≤ 9223372036854775807) (w : World) (htab : Lib.TabIs Tryd.prog w "internal/strconv.uint64pow10" .u64 Lib.pow10Tab) :
    Calls Tryd.prog 87 #[.int .i64 n, .int .i64 10] w fun e w' => e = .returned (.string ⟨(Lib.itoa n).toArray⟩) ∧ ∃ k os, w' = grow (w.drewN k) os := Any.internal_strconv_FormatInt_10 Tryd.laysM246 n h0 h1 w htab
def Tryd.lays246_ren : Go.Shelf.Ren := ⟨fun | 246 => 87 | 283 => 88 | 284 => 89 | 285 => 90 | 286 => 91 | 129 => 93 | 317 => 92 | 318 => 94 | 319 => 95 | 320 => 96 | 337 => 97 | 338 => 98 | n => n, fun | 2 => 2 | 3 => 3 | 9 => 9 | 4 => 4 | 171 => 142 | 0 => 0 | 53 => 143 | 37 => 140 | 5 => 5 | 173 => 146 | 212 => 150 | 51 => 118 | 20 => 20 | 213 => 151 | 46 => 79 | 232 => 155 | 233 => 156 | n => n, fun | 17 => 4 | 18 => 5 | 19 => 6 | n => n⟩
theorem Tryd.lays246 : Go.Proofs.Lays.n246 Tryd.prog Tryd.lays246_ren := {
  mixed := by kernel_rfl
  f129 := Tryd.func93.trans (congrArg some (by kernel_rfl))
  f246 := Tryd.func87.trans (congrArg some (by kernel_rfl))
  f283 := Tryd.func88.trans (congrArg some (by kernel_rfl))
  f284 := Tryd.func89.trans (congrArg some (by kernel_rfl))
  f285 := Tryd.func90.trans (congrArg some (by kernel_rfl))
  f286 := Tryd.func91.trans (congrArg some (by kernel_rfl))
  f317 := Tryd.func92.trans (congrArg some (by kernel_rfl))
  f318 := Tryd.func94.trans (congrArg some (by kernel_rfl))
  f319 := Tryd.func95.trans (congrArg some (by kernel_rfl))
  f320 := Tryd.func96.trans (congrArg some (by kernel_rfl))
  f337 := Tryd.func97.trans (congrArg some (by kernel_rfl))
  f338 := Tryd.func98.trans (congrArg some (by kernel_rfl))
  t0 := Tryd.underlying0
  a0 := Tryd.isAgg0
  z0 := Tryd.sizeOf0
  v0 := Tryd.zeroValue0
  t2 := Tryd.underlying2
  a2 := Tryd.isAgg2
  z2 := Tryd.sizeOf2
  v2 := Tryd.zeroValue2
  t3 := Tryd.underlying3
  a3 := Tryd.isAgg3
  z3 := Tryd.sizeOf3
  v3 := Tryd.zeroValue3
  t4 := Tryd.underlying4
  a4 := Tryd.isAgg4
  z4 := Tryd.sizeOf4
  v4 := Tryd.zeroValue4
  t5 := Tryd.underlying5
  a5 := Tryd.isAgg5
  z5 := Tryd.sizeOf5
  v5 := Tryd.zeroValue5
  t9 := Tryd.underlying9
  a9 := Tryd.isAgg9
  z9 := Tryd.sizeOf9
  v9 := Tryd.zeroValue9
  t20 := Tryd.underlying20
  a20 := Tryd.isAgg20
  z20 := Tryd.sizeOf20
  v20 := Tryd.zeroValue20
  t37 := Tryd.underlying140
  a37 := Tryd.isAgg140
  z37 := Tryd.sizeOf140
  v37 := Tryd.zeroValue140
  t46 := Tryd.underlying79
  a46 := Tryd.isAgg79
  z46 := Tryd.sizeOf79
  v46 := Tryd.zeroValue79
  t51 := Tryd.underlying118
  a51 := Tryd.isAgg118
  z51 := Tryd.sizeOf118
  v51 := Tryd.zeroValue118
  t53 := Tryd.underlying143
  a53 := Tryd.isAgg143
  z53 := Tryd.sizeOf143
  v53 := Tryd.zeroValue143
  t171 := Tryd.underlying142
  a171 := Tryd.isAgg142
  z171 := Tryd.sizeOf142
  v171 := Tryd.zeroValue142
  t173 := Tryd.underlying146
  a173 := Tryd.isAgg146
  z173 := Tryd.sizeOf146
  v173 := Tryd.zeroValue146
  t212 := Tryd.underlying150
  a212 := Tryd.isAgg150
  z212 := Tryd.sizeOf150
  v212 := Tryd.zeroValue150
  t213 := Tryd.underlying151
  a213 := Tryd.isAgg151
  z213 := Tryd.sizeOf151
  t232 := Tryd.underlying155
  a232 := Tryd.isAgg155
  z232 := Tryd.sizeOf155
  v232 := Tryd.zeroValue155
  t233 := Tryd.underlying156
  a233 := Tryd.isAgg156
  z233 := Tryd.sizeOf156
  v233 := Tryd.zeroValue156
  g17 := by kernel_rfl
  g18 := by kernel_rfl
  g19 := by kernel_rfl }
open Go.RowKit Go.Sort Go.Lib in
/-- THE ROAD WITHOUT THE TABLE: 0 <= i < 100: two constants are read, nothing is laid: no premise on the world, and the world is as it was. (LAID: no walk: one application.) -/
theorem Tryd.internal_strconv_FormatInt_10_small (i : Nat) (hi : i < 100) (w : World) :
    Calls Tryd.prog 87 #[.int .i64 i, .int .i64 10] w fun e w' => e = .returned (.string ⟨(Lib.decDigits i).toArray⟩) ∧ w' = w := Any.internal_strconv_FormatInt_10_small Tryd.lays246 i hi w
def Tryd.laysM243_ren : Go.Shelf.Ren := ⟨fun | 243 => 86 | 246 => 87 | 283 => 88 | 284 => 89 | 285 => 90 | 286 => 91 | 129 => 93 | 317 => 92 | 318 => 94 | 319 => 95 | 320 => 96 | 337 => 97 | 338 => 98 | n => n, fun | 3 => 3 | 9 => 9 | 2 => 2 | 4 => 4 | 171 => 142 | 0 => 0 | 53 => 143 | 37 => 140 | 5 => 5 | 173 => 146 | 212 => 150 | 51 => 118 | 20 => 20 | 213 => 151 | 46 => 79 | 232 => 155 | 233 => 156 | n => n, fun | 17 => 4 | 18 => 5 | 19 => 6 | n => n⟩
theorem Tryd.laysM243 : Go.Proofs.LaysM.n243 Tryd.prog Tryd.laysM243_ren := {
  mixed := by kernel_rfl
  f129 := Tryd.func93.trans (congrArg some (by kernel_rfl))
  f243 := Tryd.func86.trans (congrArg some (by kernel_rfl))
  f246 := Tryd.func87.trans (congrArg some (by kernel_rfl))
  f283 := Tryd.func88.trans (congrArg some (by kernel_rfl))
  f284 := Tryd.func89.trans (congrArg some (by kernel_rfl))
  f285 := Tryd.func90.trans (congrArg some (by kernel_rfl))
  f286 := Tryd.func91.trans (congrArg some (by kernel_rfl))
  f317 := Tryd.func92.trans (congrArg some (by kernel_rfl))
  f318 := Tryd.func94.trans (congrArg some (by kernel_rfl))
  f319 := Tryd.func95.trans (congrArg some (by kernel_rfl))
  f320 := Tryd.func96.trans (congrArg some (by kernel_rfl))
  f337 := Tryd.func97.trans (congrArg some (by kernel_rfl))
  f338 := Tryd.func98.trans (congrArg some (by kernel_rfl))
  t0 := Tryd.underlying0
  a0 := Tryd.isAgg0
  z0 := Tryd.sizeOf0
  v0 := Tryd.zeroValue0
  t2 := Tryd.underlying2
  a2 := Tryd.isAgg2
  z2 := Tryd.sizeOf2
  v2 := Tryd.zeroValue2
  t3 := Tryd.underlying3
  a3 := Tryd.isAgg3
  z3 := Tryd.sizeOf3
  v3 := Tryd.zeroValue3
  t4 := Tryd.underlying4
  a4 := Tryd.isAgg4
  z4 := Tryd.sizeOf4
  v4 := Tryd.zeroValue4
  t5 := Tryd.underlying5
  a5 := Tryd.isAgg5
  z5 := Tryd.sizeOf5
  v5 := Tryd.zeroValue5
  t9 := Tryd.underlying9
  a9 := Tryd.isAgg9
  z9 := Tryd.sizeOf9
  v9 := Tryd.zeroValue9
  t20 := Tryd.underlying20
  a20 := Tryd.isAgg20
  z20 := Tryd.sizeOf20
  v20 := Tryd.zeroValue20
  t37 := Tryd.underlying140
  a37 := Tryd.isAgg140
  z37 := Tryd.sizeOf140
  v37 := Tryd.zeroValue140
  t46 := Tryd.underlying79
  a46 := Tryd.isAgg79
  z46 := Tryd.sizeOf79
  v46 := Tryd.zeroValue79
  t51 := Tryd.underlying118
  a51 := Tryd.isAgg118
  z51 := Tryd.sizeOf118
  v51 := Tryd.zeroValue118
  t53 := Tryd.underlying143
  a53 := Tryd.isAgg143
  z53 := Tryd.sizeOf143
  v53 := Tryd.zeroValue143
  t171 := Tryd.underlying142
  a171 := Tryd.isAgg142
  z171 := Tryd.sizeOf142
  v171 := Tryd.zeroValue142
  t173 := Tryd.underlying146
  a173 := Tryd.isAgg146
  z173 := Tryd.sizeOf146
  v173 := Tryd.zeroValue146
  t212 := Tryd.underlying150
  a212 := Tryd.isAgg150
  z212 := Tryd.sizeOf150
  v212 := Tryd.zeroValue150
  t213 := Tryd.underlying151
  a213 := Tryd.isAgg151
  z213 := Tryd.sizeOf151
  t232 := Tryd.underlying155
  a232 := Tryd.isAgg155
  z232 := Tryd.sizeOf155
  v232 := Tryd.zeroValue155
  t233 := Tryd.underlying156
  a233 := Tryd.isAgg156
  z233 := Tryd.sizeOf156
  v233 := Tryd.zeroValue156
  g17 := by kernel_rfl
  g18 := by kernel_rfl
  g19 := by kernel_rfl
  i0 := by kernel_rfl
  i2 := by kernel_rfl
  i3 := by kernel_rfl
  i4 := by kernel_rfl
  i5 := by kernel_rfl
  i9 := by kernel_rfl
  i20 := by kernel_rfl
  i37 := by kernel_rfl
  i46 := by kernel_rfl
  i51 := by kernel_rfl
  i53 := by kernel_rfl
  i171 := by kernel_rfl
  i173 := by kernel_rfl
  i212 := by kernel_rfl
  i232 := by kernel_rfl
  i233 := by kernel_rfl
  m17 := by kernel_rfl
  m18 := by kernel_rfl
  m19 := by kernel_rfl }
open Go.RowKit Go.Sort Go.Lib in
/-- internal/strconv.Itoa: "Itoa is equivalent to FormatInt(int64(i), 10).": i's decimal numeral, for every int. (LAID: no walk: one application.) -/
theorem Tryd.internal_strconv_Itoa (n : Int) (h0 : -9223372036854775808 ≤ n) (h1 : n ≤ 9223372036854775807) (w : World) (htab : Lib.TabIs Tryd.prog w "internal/strconv.uint64pow10" .u64 Lib.pow10Tab) :
    Calls Tryd.prog 86 #[.int .i64 n] w fun e w' => e = .returned (.string ⟨(Lib.itoa n).toArray⟩) ∧ ∃ k os, w' = grow (w.drewN k) os := Any.internal_strconv_Itoa Tryd.laysM243 n h0 h1 w htab
def Tryd.lays243_ren : Go.Shelf.Ren := ⟨fun | 243 => 86 | 246 => 87 | 283 => 88 | 284 => 89 | 285 => 90 | 286 => 91 | 129 => 93 | 317 => 92 | 318 => 94 | 319 => 95 | 320 => 96 | 337 => 97 | 338 => 98 | n => n, fun | 3 => 3 | 9 => 9 | 2 => 2 | 4 => 4 | 171 => 142 | 0 => 0 | 53 => 143 | 37 => 140 | 5 => 5 | 173 => 146 | 212 => 150 | 51 => 118 | 20 => 20 | 213 => 151 | 46 => 79 | 232 => 155 | 233 => 156 | n => n, fun | 17 => 4 | 18 => 5 | 19 => 6 | n => n⟩
theorem Tryd.lays243 : Go.Proofs.Lays.n243 Tryd.prog Tryd.lays243_ren := {
  mixed := by kernel_rfl
  f129 := Tryd.func93.trans (congrArg some (by kernel_rfl))
  f243 := Tryd.func86.trans (congrArg some (by kernel_rfl))
  f246 := Tryd.func87.trans (congrArg some (by kernel_rfl))
  f283 := Tryd.func88.trans (congrArg some (by kernel_rfl))
  f284 := Tryd.func89.trans (congrArg some (by kernel_rfl))
  f285 := Tryd.func90.trans (congrArg some (by kernel_rfl))
  f286 := Tryd.func91.trans (congrArg some (by kernel_rfl))
  f317 := Tryd.func92.trans (congrArg some (by kernel_rfl))
  f318 := Tryd.func94.trans (congrArg some (by kernel_rfl))
  f319 := Tryd.func95.trans (congrArg some (by kernel_rfl))
  f320 := Tryd.func96.trans (congrArg some (by kernel_rfl))
  f337 := Tryd.func97.trans (congrArg some (by kernel_rfl))
  f338 := Tryd.func98.trans (congrArg some (by kernel_rfl))
  t0 := Tryd.underlying0
  a0 := Tryd.isAgg0
  z0 := Tryd.sizeOf0
  v0 := Tryd.zeroValue0
  t2 := Tryd.underlying2
  a2 := Tryd.isAgg2
  z2 := Tryd.sizeOf2
  v2 := Tryd.zeroValue2
  t3 := Tryd.underlying3
  a3 := Tryd.isAgg3
  z3 := Tryd.sizeOf3
  v3 := Tryd.zeroValue3
  t4 := Tryd.underlying4
  a4 := Tryd.isAgg4
  z4 := Tryd.sizeOf4
  v4 := Tryd.zeroValue4
  t5 := Tryd.underlying5
  a5 := Tryd.isAgg5
  z5 := Tryd.sizeOf5
  v5 := Tryd.zeroValue5
  t9 := Tryd.underlying9
  a9 := Tryd.isAgg9
  z9 := Tryd.sizeOf9
  v9 := Tryd.zeroValue9
  t20 := Tryd.underlying20
  a20 := Tryd.isAgg20
  z20 := Tryd.sizeOf20
  v20 := Tryd.zeroValue20
  t37 := Tryd.underlying140
  a37 := Tryd.isAgg140
  z37 := Tryd.sizeOf140
  v37 := Tryd.zeroValue140
  t46 := Tryd.underlying79
  a46 := Tryd.isAgg79
  z46 := Tryd.sizeOf79
  v46 := Tryd.zeroValue79
  t51 := Tryd.underlying118
  a51 := Tryd.isAgg118
  z51 := Tryd.sizeOf118
  v51 := Tryd.zeroValue118
  t53 := Tryd.underlying143
  a53 := Tryd.isAgg143
  z53 := Tryd.sizeOf143
  v53 := Tryd.zeroValue143
  t171 := Tryd.underlying142
  a171 := Tryd.isAgg142
  z171 := Tryd.sizeOf142
  v171 := Tryd.zeroValue142
  t173 := Tryd.underlying146
  a173 := Tryd.isAgg146
  z173 := Tryd.sizeOf146
  v173 := Tryd.zeroValue146
  t212 := Tryd.underlying150
  a212 := Tryd.isAgg150
  z212 := Tryd.sizeOf150
  v212 := Tryd.zeroValue150
  t213 := Tryd.underlying151
  a213 := Tryd.isAgg151
  z213 := Tryd.sizeOf151
  t232 := Tryd.underlying155
  a232 := Tryd.isAgg155
  z232 := Tryd.sizeOf155
  v232 := Tryd.zeroValue155
  t233 := Tryd.underlying156
  a233 := Tryd.isAgg156
  z233 := Tryd.sizeOf156
  v233 := Tryd.zeroValue156
  g17 := by kernel_rfl
  g18 := by kernel_rfl
  g19 := by kernel_rfl }
open Go.RowKit Go.Sort Go.Lib in
/-- THE ROAD WITHOUT THE TABLE: 0 <= i < 100. (LAID: no walk: one application.) -/
theorem Tryd.internal_strconv_Itoa_small (i : Nat) (hi : i < 100) (w : World) :
    Calls Tryd.prog 86 #[.int .i64 i] w fun e w' => e = .returned (.string ⟨(Lib.decDigits i).toArray⟩) ∧ w' = w := Any.internal_strconv_Itoa_small Tryd.lays243 i hi w
def Tryd.laysM171_ren : Go.Shelf.Ren := ⟨fun | 171 => 85 | 243 => 86 | 246 => 87 | 283 => 88 | 284 => 89 | 285 => 90 | 286 => 91 | 129 => 93 | 317 => 92 | 318 => 94 | 319 => 95 | 320 => 96 | 337 => 97 | 338 => 98 | n => n, fun | 3 => 3 | 9 => 9 | 2 => 2 | 4 => 4 | 171 => 142 | 0 => 0 | 53 => 143 | 37 => 140 | 5 => 5 | 173 => 146 | 212 => 150 | 51 => 118 | 20 => 20 | 213 => 151 | 46 => 79 | 232 => 155 | 233 => 156 | n => n, fun | 17 => 4 | 18 => 5 | 19 => 6 | n => n⟩
theorem Tryd.laysM171 : Go.Proofs.LaysM.n171 Tryd.prog Tryd.laysM171_ren := {
  mixed := by kernel_rfl
  f129 := Tryd.func93.trans (congrArg some (by kernel_rfl))
  f171 := Tryd.func85.trans (congrArg some (by kernel_rfl))
  f243 := Tryd.func86.trans (congrArg some (by kernel_rfl))
  f246 := Tryd.func87.trans (congrArg some (by kernel_rfl))
  f283 := Tryd.func88.trans (congrArg some (by kernel_rfl))
  f284 := Tryd.func89.trans (congrArg some (by kernel_rfl))
  f285 := Tryd.func90.trans (congrArg some (by kernel_rfl))
  f286 := Tryd.func91.trans (congrArg some (by kernel_rfl))
  f317 := Tryd.func92.trans (congrArg some (by kernel_rfl))
  f318 := Tryd.func94.trans (congrArg some (by kernel_rfl))
  f319 := Tryd.func95.trans (congrArg some (by kernel_rfl))
  f320 := Tryd.func96.trans (congrArg some (by kernel_rfl))
  f337 := Tryd.func97.trans (congrArg some (by kernel_rfl))
  f338 := Tryd.func98.trans (congrArg some (by kernel_rfl))
  t0 := Tryd.underlying0
  a0 := Tryd.isAgg0
  z0 := Tryd.sizeOf0
  v0 := Tryd.zeroValue0
  t2 := Tryd.underlying2
  a2 := Tryd.isAgg2
  z2 := Tryd.sizeOf2
  v2 := Tryd.zeroValue2
  t3 := Tryd.underlying3
  a3 := Tryd.isAgg3
  z3 := Tryd.sizeOf3
  v3 := Tryd.zeroValue3
  t4 := Tryd.underlying4
  a4 := Tryd.isAgg4
  z4 := Tryd.sizeOf4
  v4 := Tryd.zeroValue4
  t5 := Tryd.underlying5
  a5 := Tryd.isAgg5
  z5 := Tryd.sizeOf5
  v5 := Tryd.zeroValue5
  t9 := Tryd.underlying9
  a9 := Tryd.isAgg9
  z9 := Tryd.sizeOf9
  v9 := Tryd.zeroValue9
  t20 := Tryd.underlying20
  a20 := Tryd.isAgg20
  z20 := Tryd.sizeOf20
  v20 := Tryd.zeroValue20
  t37 := Tryd.underlying140
  a37 := Tryd.isAgg140
  z37 := Tryd.sizeOf140
  v37 := Tryd.zeroValue140
  t46 := Tryd.underlying79
  a46 := Tryd.isAgg79
  z46 := Tryd.sizeOf79
  v46 := Tryd.zeroValue79
  t51 := Tryd.underlying118
  a51 := Tryd.isAgg118
  z51 := Tryd.sizeOf118
  v51 := Tryd.zeroValue118
  t53 := Tryd.underlying143
  a53 := Tryd.isAgg143
  z53 := Tryd.sizeOf143
  v53 := Tryd.zeroValue143
  t171 := Tryd.underlying142
  a171 := Tryd.isAgg142
  z171 := Tryd.sizeOf142
  v171 := Tryd.zeroValue142
  t173 := Tryd.underlying146
  a173 := Tryd.isAgg146
  z173 := Tryd.sizeOf146
  v173 := Tryd.zeroValue146
  t212 := Tryd.underlying150
  a212 := Tryd.isAgg150
  z212 := Tryd.sizeOf150
  v212 := Tryd.zeroValue150
  t213 := Tryd.underlying151
  a213 := Tryd.isAgg151
  z213 := Tryd.sizeOf151
  t232 := Tryd.underlying155
  a232 := Tryd.isAgg155
  z232 := Tryd.sizeOf155
  v232 := Tryd.zeroValue155
  t233 := Tryd.underlying156
  a233 := Tryd.isAgg156
  z233 := Tryd.sizeOf156
  v233 := Tryd.zeroValue156
  g17 := by kernel_rfl
  g18 := by kernel_rfl
  g19 := by kernel_rfl
  i0 := by kernel_rfl
  i2 := by kernel_rfl
  i3 := by kernel_rfl
  i4 := by kernel_rfl
  i5 := by kernel_rfl
  i9 := by kernel_rfl
  i20 := by kernel_rfl
  i37 := by kernel_rfl
  i46 := by kernel_rfl
  i51 := by kernel_rfl
  i53 := by kernel_rfl
  i171 := by kernel_rfl
  i173 := by kernel_rfl
  i212 := by kernel_rfl
  i232 := by kernel_rfl
  i233 := by kernel_rfl
  m17 := by kernel_rfl
  m18 := by kernel_rfl
  m19 := by kernel_rfl }
open Go.RowKit Go.Sort Go.Lib in
/-- strconv.Itoa: "Itoa is equivalent to FormatInt(int64(i), 10).": i's DECIMAL NUMERAL ('Lib.itoa': a '-' where i is negative, then the digits), FOR EVERY int. The world behind the call: the world before it, new blocks behind the heap (the library's 'var a [24]byte'), draws. (LAID: no walk: one application.) -/
theorem Tryd.strconv_Itoa (n : Int) (h0 : -9223372036854775808 ≤ n) (h1 : n ≤ 9223372036854775807) (w : World) (htab : Lib.TabIs Tryd.prog w "internal/strconv.uint64pow10" .u64 Lib.pow10Tab) :
    Calls Tryd.prog 85 #[.int .i64 n] w fun e w' => e = .returned (.string ⟨(Lib.itoa n).toArray⟩) ∧ ∃ k os, w' = grow (w.drewN k) os := Any.strconv_Itoa Tryd.laysM171 n h0 h1 w htab
def Tryd.lays171_ren : Go.Shelf.Ren := ⟨fun | 171 => 85 | 243 => 86 | 246 => 87 | 283 => 88 | 284 => 89 | 285 => 90 | 286 => 91 | 129 => 93 | 317 => 92 | 318 => 94 | 319 => 95 | 320 => 96 | 337 => 97 | 338 => 98 | n => n, fun | 3 => 3 | 9 => 9 | 2 => 2 | 4 => 4 | 171 => 142 | 0 => 0 | 53 => 143 | 37 => 140 | 5 => 5 | 173 => 146 | 212 => 150 | 51 => 118 | 20 => 20 | 213 => 151 | 46 => 79 | 232 => 155 | 233 => 156 | n => n, fun | 17 => 4 | 18 => 5 | 19 => 6 | n => n⟩
theorem Tryd.lays171 : Go.Proofs.Lays.n171 Tryd.prog Tryd.lays171_ren := {
  mixed := by kernel_rfl
  f129 := Tryd.func93.trans (congrArg some (by kernel_rfl))
  f171 := Tryd.func85.trans (congrArg some (by kernel_rfl))
  f243 := Tryd.func86.trans (congrArg some (by kernel_rfl))
  f246 := Tryd.func87.trans (congrArg some (by kernel_rfl))
  f283 := Tryd.func88.trans (congrArg some (by kernel_rfl))
  f284 := Tryd.func89.trans (congrArg some (by kernel_rfl))
  f285 := Tryd.func90.trans (congrArg some (by kernel_rfl))
  f286 := Tryd.func91.trans (congrArg some (by kernel_rfl))
  f317 := Tryd.func92.trans (congrArg some (by kernel_rfl))
  f318 := Tryd.func94.trans (congrArg some (by kernel_rfl))
  f319 := Tryd.func95.trans (congrArg some (by kernel_rfl))
  f320 := Tryd.func96.trans (congrArg some (by kernel_rfl))
  f337 := Tryd.func97.trans (congrArg some (by kernel_rfl))
  f338 := Tryd.func98.trans (congrArg some (by kernel_rfl))
  t0 := Tryd.underlying0
  a0 := Tryd.isAgg0
  z0 := Tryd.sizeOf0
  v0 := Tryd.zeroValue0
  t2 := Tryd.underlying2
  a2 := Tryd.isAgg2
  z2 := Tryd.sizeOf2
  v2 := Tryd.zeroValue2
  t3 := Tryd.underlying3
  a3 := Tryd.isAgg3
  z3 := Tryd.sizeOf3
  v3 := Tryd.zeroValue3
  t4 := Tryd.underlying4
  a4 := Tryd.isAgg4
  z4 := Tryd.sizeOf4
  v4 := Tryd.zeroValue4
  t5 := Tryd.underlying5
  a5 := Tryd.isAgg5
  z5 := Tryd.sizeOf5
  v5 := Tryd.zeroValue5
  t9 := Tryd.underlying9
  a9 := Tryd.isAgg9
  z9 := Tryd.sizeOf9
  v9 := Tryd.zeroValue9
  t20 := Tryd.underlying20
  a20 := Tryd.isAgg20
  z20 := Tryd.sizeOf20
  v20 := Tryd.zeroValue20
  t37 := Tryd.underlying140
  a37 := Tryd.isAgg140
  z37 := Tryd.sizeOf140
  v37 := Tryd.zeroValue140
  t46 := Tryd.underlying79
  a46 := Tryd.isAgg79
  z46 := Tryd.sizeOf79
  v46 := Tryd.zeroValue79
  t51 := Tryd.underlying118
  a51 := Tryd.isAgg118
  z51 := Tryd.sizeOf118
  v51 := Tryd.zeroValue118
  t53 := Tryd.underlying143
  a53 := Tryd.isAgg143
  z53 := Tryd.sizeOf143
  v53 := Tryd.zeroValue143
  t171 := Tryd.underlying142
  a171 := Tryd.isAgg142
  z171 := Tryd.sizeOf142
  v171 := Tryd.zeroValue142
  t173 := Tryd.underlying146
  a173 := Tryd.isAgg146
  z173 := Tryd.sizeOf146
  v173 := Tryd.zeroValue146
  t212 := Tryd.underlying150
  a212 := Tryd.isAgg150
  z212 := Tryd.sizeOf150
  v212 := Tryd.zeroValue150
  t213 := Tryd.underlying151
  a213 := Tryd.isAgg151
  z213 := Tryd.sizeOf151
  t232 := Tryd.underlying155
  a232 := Tryd.isAgg155
  z232 := Tryd.sizeOf155
  v232 := Tryd.zeroValue155
  t233 := Tryd.underlying156
  a233 := Tryd.isAgg156
  z233 := Tryd.sizeOf156
  v233 := Tryd.zeroValue156
  g17 := by kernel_rfl
  g18 := by kernel_rfl
  g19 := by kernel_rfl }
open Go.RowKit Go.Sort Go.Lib in
/-- THE ROAD WITHOUT THE TABLE: 0 <= i < 100: NO PREMISE ON THE WORLD, AND THE WORLD IS AS IT WAS: a row that keeps its argument in that range need list no table ('laid = []'). (LAID: no walk: one application.) -/
theorem Tryd.strconv_Itoa_small (i : Nat) (hi : i < 100) (w : World) :
    Calls Tryd.prog 85 #[.int .i64 i] w fun e w' => e = .returned (.string ⟨(Lib.decDigits i).toArray⟩) ∧ w' = w := Any.strconv_Itoa_small Tryd.lays171 i hi w
def Tryd.lays247_ren : Go.Shelf.Ren := ⟨fun | 247 => 103 | 287 => 104 | 321 => 105 | 322 => 106 | n => n, fun | 9 => 9 | 3 => 3 | 2 => 2 | 75 => 45 | 4 => 4 | 167 => 133 | 5 => 5 | 53 => 143 | 175 => 162 | 46 => 79 | 37 => 140 | 0 => 0 | 21 => 21 | 80 => 108 | n => n, fun | n => n⟩
theorem Tryd.lays247 : Go.Proofs.Lays.n247 Tryd.prog Tryd.lays247_ren := {
  mixed := by kernel_rfl
  f247 := Tryd.func103.trans (congrArg some (by kernel_rfl))
  f287 := Tryd.func104.trans (congrArg some (by kernel_rfl))
  f321 := Tryd.func105.trans (congrArg some (by kernel_rfl))
  f322 := Tryd.func106.trans (congrArg some (by kernel_rfl))
  t0 := Tryd.underlying0
  a0 := Tryd.isAgg0
  z0 := Tryd.sizeOf0
  v0 := Tryd.zeroValue0
  t2 := Tryd.underlying2
  a2 := Tryd.isAgg2
  z2 := Tryd.sizeOf2
  v2 := Tryd.zeroValue2
  t3 := Tryd.underlying3
  a3 := Tryd.isAgg3
  z3 := Tryd.sizeOf3
  v3 := Tryd.zeroValue3
  t4 := Tryd.underlying4
  a4 := Tryd.isAgg4
  z4 := Tryd.sizeOf4
  v4 := Tryd.zeroValue4
  t5 := Tryd.underlying5
  a5 := Tryd.isAgg5
  z5 := Tryd.sizeOf5
  v5 := Tryd.zeroValue5
  t9 := Tryd.underlying9
  a9 := Tryd.isAgg9
  z9 := Tryd.sizeOf9
  v9 := Tryd.zeroValue9
  t21 := Tryd.underlying21
  a21 := Tryd.isAgg21
  z21 := Tryd.sizeOf21
  v21 := Tryd.zeroValue21
  t37 := Tryd.underlying140
  a37 := Tryd.isAgg140
  z37 := Tryd.sizeOf140
  v37 := Tryd.zeroValue140
  t46 := Tryd.underlying79
  a46 := Tryd.isAgg79
  z46 := Tryd.sizeOf79
  v46 := Tryd.zeroValue79
  t53 := Tryd.underlying143
  a53 := Tryd.isAgg143
  z53 := Tryd.sizeOf143
  v53 := Tryd.zeroValue143
  t75 := Tryd.underlying45
  a75 := Tryd.isAgg45
  z75 := Tryd.sizeOf45
  v75 := Tryd.zeroValue45
  t167 := Tryd.underlying133
  a167 := Tryd.isAgg133
  z167 := Tryd.sizeOf133
  v167 := Tryd.zeroValue133
  t175 := Tryd.underlying162
  a175 := Tryd.isAgg162
  z175 := Tryd.sizeOf162
  v175 := Tryd.zeroValue162 }
open Go.RowKit in
/-- internal/strconv.ParseInt at "": 'if s == "" { return 0, ErrSyntax }'. The world is as it was. (LAID: no walk: one application.) -/
theorem Tryd.internal_strconv_ParseInt_empty (base bits : Int) (w : World) :
    Calls Tryd.prog 103 #[.string ⟨#[]⟩, .int .i64 base, .int .i64 bits] w fun e w' => e = .returned (.tuple #[.int .i64 0, (.iface 133 (.int .i64 2))]) ∧ w' = w := Any.internal_strconv_ParseInt_empty Tryd.lays247 base bits w
def Tryd.laysM316_ren : Go.Shelf.Ren := ⟨fun | 316 => 84 | n => n, fun | 9 => 9 | 3 => 3 | 4 => 4 | 37 => 140 | 0 => 0 | 127 => 122 | 5 => 5 | n => n, fun | n => n⟩
theorem Tryd.laysM316 : Go.Proofs.LaysM.n316 Tryd.prog Tryd.laysM316_ren := {
  mixed := by kernel_rfl
  f316 := Tryd.func84.trans (congrArg some (by kernel_rfl))
  t0 := Tryd.underlying0
  a0 := Tryd.isAgg0
  z0 := Tryd.sizeOf0
  v0 := Tryd.zeroValue0
  t3 := Tryd.underlying3
  a3 := Tryd.isAgg3
  z3 := Tryd.sizeOf3
  v3 := Tryd.zeroValue3
  t4 := Tryd.underlying4
  a4 := Tryd.isAgg4
  z4 := Tryd.sizeOf4
  v4 := Tryd.zeroValue4
  t9 := Tryd.underlying9
  a9 := Tryd.isAgg9
  z9 := Tryd.sizeOf9
  v9 := Tryd.zeroValue9
  t37 := Tryd.underlying140
  a37 := Tryd.isAgg140
  z37 := Tryd.sizeOf140
  v37 := Tryd.zeroValue140
  t127 := Tryd.underlying122
  a127 := Tryd.isAgg122
  z127 := Tryd.sizeOf122
  v127 := Tryd.zeroValue122
  t5 := Tryd.underlying5
  a5 := Tryd.isAgg5
  z5 := Tryd.sizeOf5
  v5 := Tryd.zeroValue5
  i0 := by kernel_rfl
  i3 := by kernel_rfl
  i4 := by kernel_rfl
  i5 := by kernel_rfl
  i9 := by kernel_rfl
  i37 := by kernel_rfl
  i127 := by kernel_rfl }
open Go.RowKit in
/-- internal/stringslite.Clone (what strings.Clone calls): "Clone returns a fresh copy of s.": THE SAME BYTES. Of what was there nothing has turned (a new row is laid, and frozen, where s is not empty). (LAID: no walk: one application.) -/
theorem Tryd.stringslite_Clone (s : ByteArray) (w : World) (hlim : s.size ≤ 281474976710656) :
    Calls Tryd.prog 84 #[.string s] w fun e w' => e = .returned (.string s) ∧ Below w.heap.size w w' := Any.stringslite_Clone Tryd.laysM316 s w hlim
/-- internal/strconv.ParseBool, AT EVERY STRING THAT IT DOES NOT ACCEPT: false, and ErrSyntax. The world is as it was. (LAID: no walk: one application.) -/
theorem Tryd.internal_strconv_ParseBool_err (s : ByteArray) (h : Lib.parseBool s.data.toList = none) (w : World) :
    Calls Tryd.prog 77 #[.string s] w fun e w' => e = .returned (.tuple #[.bool false, (.iface 133 (.int .i64 2))]) ∧ w' = w := Any.internal_strconv_ParseBool_err Tryd.lays248 s h w
def Tryd.lays321_ren : Go.Shelf.Ren := ⟨fun | 321 => 105 | n => n, fun | 5 => 5 | n => n, fun | n => n⟩
theorem Tryd.lays321 : Go.Proofs.Lays.n321 Tryd.prog Tryd.lays321_ren := {
  mixed := by kernel_rfl
  f321 := Tryd.func105.trans (congrArg some (by kernel_rfl))
  t5 := Tryd.underlying5
  a5 := Tryd.isAgg5
  z5 := Tryd.sizeOf5
  v5 := Tryd.zeroValue5 }
open Go.RowKit in
/-- internal/strconv.lower: 'c | ('x' - 'X')': the bit 32 set. The world is as it was. (LAID: no walk: one application.) -/
theorem Tryd.internal_strconv_lower (c : Int) (w : World) :
    Calls Tryd.prog 105 #[.int .u8 c] w fun e w' => e = .returned (.int .u8 (bits .or .u8 c 32)) ∧ w' = w := Any.internal_strconv_lower Tryd.lays321 c w
def Tryd.lays287_ren : Go.Shelf.Ren := ⟨fun | 287 => 104 | 321 => 105 | 322 => 106 | n => n, fun | 9 => 9 | 3 => 3 | 53 => 143 | 75 => 45 | 4 => 4 | 167 => 133 | 5 => 5 | 46 => 79 | 37 => 140 | 0 => 0 | 21 => 21 | 80 => 108 | n => n, fun | n => n⟩
theorem Tryd.lays287 : Go.Proofs.Lays.n287 Tryd.prog Tryd.lays287_ren := {
  mixed := by kernel_rfl
  f287 := Tryd.func104.trans (congrArg some (by kernel_rfl))
  f321 := Tryd.func105.trans (congrArg some (by kernel_rfl))
  f322 := Tryd.func106.trans (congrArg some (by kernel_rfl))
  t0 := Tryd.underlying0
  a0 := Tryd.isAgg0
  z0 := Tryd.sizeOf0
  v0 := Tryd.zeroValue0
  t3 := Tryd.underlying3
  a3 := Tryd.isAgg3
  z3 := Tryd.sizeOf3
  v3 := Tryd.zeroValue3
  t4 := Tryd.underlying4
  a4 := Tryd.isAgg4
  z4 := Tryd.sizeOf4
  v4 := Tryd.zeroValue4
  t5 := Tryd.underlying5
  a5 := Tryd.isAgg5
  z5 := Tryd.sizeOf5
  v5 := Tryd.zeroValue5
  t9 := Tryd.underlying9
  a9 := Tryd.isAgg9
  z9 := Tryd.sizeOf9
  v9 := Tryd.zeroValue9
  t21 := Tryd.underlying21
  a21 := Tryd.isAgg21
  z21 := Tryd.sizeOf21
  v21 := Tryd.zeroValue21
  t37 := Tryd.underlying140
  a37 := Tryd.isAgg140
  z37 := Tryd.sizeOf140
  v37 := Tryd.zeroValue140
  t46 := Tryd.underlying79
  a46 := Tryd.isAgg79
  z46 := Tryd.sizeOf79
  v46 := Tryd.zeroValue79
  t53 := Tryd.underlying143
  a53 := Tryd.isAgg143
  z53 := Tryd.sizeOf143
  v53 := Tryd.zeroValue143
  t75 := Tryd.underlying45
  a75 := Tryd.isAgg45
  z75 := Tryd.sizeOf45
  v75 := Tryd.zeroValue45
  t167 := Tryd.underlying133
  a167 := Tryd.isAgg133
  z167 := Tryd.sizeOf133
  v167 := Tryd.zeroValue133 }
open Go.RowKit in
/-- internal/strconv.ParseUint("", 10, 0): (0, ErrSyntax). The world is as it was. (LAID: no walk: one application.) -/
theorem Tryd.internal_strconv_ParseUint_10_empty (w : World) :
    Calls Tryd.prog 104 #[.string ⟨#[]⟩, .int .i64 10, .int .i64 0] w fun e w' => e = .returned (Lib.uintTuple 133 .syntax) ∧ w' = w := Any.internal_strconv_ParseUint_10_empty Tryd.lays287 w
open Go.RowKit in
/-- internal/strconv.ParseUint("", base, bitSize): (0, ErrSyntax): the first test of the text. The world is as it was. (LAID: no walk: one application.) -/
theorem Tryd.internal_strconv_ParseUint_empty (base bits : Int) (w : World) :
    Calls Tryd.prog 104 #[.string ⟨#[]⟩, .int .i64 base, .int .i64 bits] w fun e w' => e = .returned (.tuple #[.int .u64 0, .iface 133 (.int .i64 2)]) ∧ w' = w := Any.internal_strconv_ParseUint_empty Tryd.lays287 base bits w
def Tryd.lays206_ren : Go.Shelf.Ren := ⟨fun | 206 => 51 | n => n, fun | 9 => 9 | 4 => 4 | 3 => 3 | n => n, fun | n => n⟩
theorem Tryd.lays206 : Go.Proofs.Lays.n206 Tryd.prog Tryd.lays206_ren := {
  mixed := by kernel_rfl
  f206 := Tryd.func51.trans (congrArg some (by kernel_rfl))
  t3 := Tryd.underlying3
  a3 := Tryd.isAgg3
  z3 := Tryd.sizeOf3
  v3 := Tryd.zeroValue3
  t4 := Tryd.underlying4
  a4 := Tryd.isAgg4
  z4 := Tryd.sizeOf4
  v4 := Tryd.zeroValue4
  t9 := Tryd.underlying9
  a9 := Tryd.isAgg9
  z9 := Tryd.sizeOf9
  v9 := Tryd.zeroValue9 }
open Go.RowKit Go.Lib in
/-- internal/stringslite.HasPrefix (what strings.HasPrefix calls). (LAID: no walk: one application.) -/
theorem Tryd.stringslite_HasPrefix (s p : ByteArray) (w : World) :
    Calls Tryd.prog 51 #[.string s, .string p] w fun e w' => e = .returned (.bool (Lib.hasPrefix s.data.toList p.data.toList)) ∧ w' = w := Any.stringslite_HasPrefix Tryd.lays206 s p w
def Tryd.lays99_ren : Go.Shelf.Ren := ⟨fun | 99 => 49 | 206 => 51 | n => n, fun | 9 => 9 | 4 => 4 | 3 => 3 | n => n, fun | n => n⟩
theorem Tryd.lays99 : Go.Proofs.Lays.n99 Tryd.prog Tryd.lays99_ren := {
  mixed := by kernel_rfl
  f99 := Tryd.func49.trans (congrArg some (by kernel_rfl))
  f206 := Tryd.func51.trans (congrArg some (by kernel_rfl))
  t3 := Tryd.underlying3
  a3 := Tryd.isAgg3
  z3 := Tryd.sizeOf3
  v3 := Tryd.zeroValue3
  t4 := Tryd.underlying4
  a4 := Tryd.isAgg4
  z4 := Tryd.sizeOf4
  v4 := Tryd.zeroValue4
  t9 := Tryd.underlying9
  a9 := Tryd.isAgg9
  z9 := Tryd.sizeOf9
  v9 := Tryd.zeroValue9 }
open Go.RowKit Go.Lib in
/-- strings.HasPrefix: "HasPrefix reports whether the string s begins with prefix.": IT RETURNS 'Lib.hasPrefix s prefix'; the world is as it was. (LAID: no walk: one application.) -/
theorem Tryd.strings_HasPrefix (s p : ByteArray) (w : World) :
    Calls Tryd.prog 49 #[.string s, .string p] w fun e w' => e = .returned (.bool (Lib.hasPrefix s.data.toList p.data.toList)) ∧ w' = w := Any.strings_HasPrefix Tryd.lays99 s p w
def Tryd.laysNm217_ren : Go.Shelf.Ren := ⟨fun | 17 => 48 | n => n, fun | 24 => 23 | 9 => 9 | 3 => 3 | 4 => 4 | 0 => 0 | n => n, fun | n => n⟩
theorem Tryd.laysNm217 : Go.Proofs.Lays2.n17 Tryd.prog Tryd.laysNm217_ren := {
  mixed := by kernel_rfl
  f17 := Tryd.func48.trans (congrArg some (by kernel_rfl))
  t0 := Tryd.underlying0
  a0 := Tryd.isAgg0
  z0 := Tryd.sizeOf0
  v0 := Tryd.zeroValue0
  t3 := Tryd.underlying3
  a3 := Tryd.isAgg3
  z3 := Tryd.sizeOf3
  v3 := Tryd.zeroValue3
  t4 := Tryd.underlying4
  a4 := Tryd.isAgg4
  z4 := Tryd.sizeOf4
  v4 := Tryd.zeroValue4
  t9 := Tryd.underlying9
  a9 := Tryd.isAgg9
  z9 := Tryd.sizeOf9
  v9 := Tryd.zeroValue9
  t24 := Tryd.underlying23
  a24 := Tryd.isAgg23
  z24 := Tryd.sizeOf23
  v24 := Tryd.zeroValue23 }
open Go.RowKit Go.Lib Go.Sort in
/-- slices.Reverse at []string, over an array: Go's loop from the two ends inward is walked; it makes 'Sort.reverseLoop 0 (len - 1)', which is 'Array.reverse' (Derived/Lib/SlicesMore.lean). (LAID: no walk: one application.) -/
theorem Tryd.slices_Reverse_string_arr (blk off cap : Nat) (d : Array (List UInt8)) (w : World) (hH : Holds encStr w blk off d) (hsz : d.size ≤ 9223372036854775807) :
    Calls Tryd.prog 48 #[.slice (some ⟨blk, off, none⟩) d.size cap] w fun e w' => e = .returned (.tuple #[]) ∧ ∃ n, w' = putRow encStr (Sort.ahead w n) blk off d.reverse := Any.slices_Reverse_string_arr Tryd.laysNm217 blk off cap d w hH hsz
open Go.RowKit Go.Lib Go.Sort in
/-- slices.Reverse at []string: "Reverse reverses the elements of the slice in place.": THE SLICE's CELLS HOLD 'zs.reverse' BEHIND THE CALL; all else is as it was, but for the count of draws (the exchange 's[i], s[j] = s[j], s[i]' draws its order, once a round). IN THE WORDS OF slices.Sort's CONTRACT: 'Holds': the cells hold zs and none is frozen; 'putRow': the world with those cells holding another array. A slice of length 0 that is not nil is among them ('zs = []'); nil: '.._nil'. (LAID: no walk: one application.) -/
theorem Tryd.slices_Reverse_string (blk off cap : Nat) (zs : List (List UInt8)) (w : World) (hH : Holds encStr w blk off zs.toArray) (hsz : zs.length ≤ 9223372036854775807) :
    Calls Tryd.prog 48 #[.slice (some ⟨blk, off, none⟩) zs.length cap] w fun e w' => e = .returned (.tuple #[]) ∧ ∃ n, w' = putRow encStr (Sort.ahead w n) blk off zs.reverse.toArray := Any.slices_Reverse_string Tryd.laysNm217 blk off cap zs w hH hsz
open Go.RowKit Go.Lib Go.Sort in
/-- The same at a slice of length 0, a nil one too: nothing is read, nothing written, nothing drawn. (LAID: no walk: one application.) -/
theorem Tryd.slices_Reverse_string_empty (a : Option Addr) (cap : Nat) (w : World) :
    Calls Tryd.prog 48 #[.slice a 0 cap] w fun e w' => e = .returned (.tuple #[]) ∧ w' = w := Any.slices_Reverse_string_empty Tryd.laysNm217 a cap w
open Go.RowKit Go.Lib Go.Sort in
/-- slices.Reverse at []string, of an argument. (LAID: no walk: one application.) -/
theorem Tryd.slices_Reverse_string_cells (b off n c : Nat) (Sx : Nat → ByteArray) (w : World) (hbig : n ≤ 9223372036854775807) (hc : ∀ i, i < n → w.cell? ⟨b, off + i, none⟩ = some (.string (Sx i))) (hf : ∀ j, j < n → w.frozen? ⟨b, off + j, none⟩ = false) :
    Calls Tryd.prog 48 #[.slice (some ⟨b, off, none⟩) n c] w fun e w' => e = .returned (.tuple #[]) ∧ ∃ q, w' = (w.drewN q).setCells b off ((Lib.strsOf Sx n).reverse.map encStr) := Any.slices_Reverse_string_cells Tryd.laysNm217 b off n c Sx w hbig hc hf
end Go.Proofs
