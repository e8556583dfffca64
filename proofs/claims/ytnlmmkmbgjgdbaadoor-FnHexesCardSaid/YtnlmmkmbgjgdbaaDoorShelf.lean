/-
  DERIVED: THE SHELF's CONTRACTS AT THIS DUMP, IN PLAIN WORDS (tools/lay-plain.mjs out of 'TrydShelf.lean', which tools/lay-shelf.mjs wrote): THE SAME DECLARATIONS UNDER THE SAME NAMES: 'import', 'namespace', 'open', 'def', 'theorem' AND NOTHING ELSE: no command of the shelf's: FOR A HAND-IN. Each laying: the table of numbers ('.._ren') and one theorem, a field a fact of the dump's own or the kernel's comparison; each contract: ONE APPLICATION.
-/
import Derived.Shelf.Strings.TrimSpace
import Derived.Shelf.Small.Utf8
import Derived.Shelf.Small.Wraps
import Derived.Shelf.Strconv.ParseBool
import Derived.Shelf.Strconv.Itoa0
import Derived.Shelf.Strconv.Itoa1
import Derived.Shelf.LaysM
import Derived.Shelf.Strconv.Itoa2
import Derived.Shelf.Strconv.Itoa3
import Derived.Shelf.Strconv.Clone
import Derived.Shelf.Strconv.SyntaxError
import Derived.Shelf.LaysC
import Derived.Shelf.Strconv.ToError
import Derived.Shelf.Strconv.ParseBoolErrInner
import Derived.Shelf.Strconv.ParseBoolErr
import Derived.Shelf.Strconv.ErrVar
import Derived.Shelf.Strconv.RangeError
import Derived.Shelf.Strconv.ToErrorRange
import Derived.Shelf.Unicode.Latin
import Derived.Shelf.Unicode.Decode
import Derived.Shelf.Unicode.DecodeSlow
import Derived.Shelf.Unicode.DecodeAny
import Derived.Shelf.Unicode.Is16White
import Derived.Shelf.Unicode.IsSpaceAny
import Derived.Shelf.Unicode.DecodeLast
import Derived.Shelf.Strings.TrimSpaceAny
import Derived.Shelf.Unicode.Is16WhiteD
import Derived.Shelf.Unicode.IsSpaceAnyD
import Derived.Shelf.Unicode.Is16Any
import Derived.Shelf.Unicode.Is32Any
import Derived.Shelf.Unicode.ExclAny
import Derived.Ground.PaProg
import Derived.Shelf.Hex.Lens
import Derived.Shelf.Hex.Decode
import Derived.Shelf.Hex.DecodeOwns
import Derived.Shelf.Hex.More
import Derived.Test.YtnlmmkmbgjgdbaaDoorProg
namespace Go.Proofs
open Go.Shelf
def Tryd.lays163_ren : Go.Shelf.Ren := ⟨fun | 163 => 31 | 237 => 57 | 199 => 58 | 238 => 59 | 272 => 63 | 261 => 64 | 273 => 65 | 197 => 66 | 315 => 71 | 311 => 72 | 312 => 73 | 271 => 74 | 260 => 75 | 120 => 78 | n => n, fun | 9 => 9 | 37 => 26 | 3 => 3 | 0 => 0 | 5 => 5 | 4 => 4 | 40 => 113 | 119 => 114 | 21 => 21 | 51 => 71 | 141 => 123 | 105 => 125 | 196 => 134 | 193 => 131 | 198 => 136 | 49 => 70 | 194 => 132 | 201 => 139 | 226 => 144 | 46 => 64 | 227 => 145 | 139 => 148 | 138 => 147 | n => n, fun | 0 => 0 | 6 => 2 | 3 => 5 | 4 => 6 | n => n⟩
theorem Tryd.lays163 : Go.Proofs.Lays.n163 Tryd.prog Tryd.lays163_ren := {
  mixed := by kernel_rfl
  f120 := Tryd.func78.trans (congrArg some (by kernel_rfl))
  f163 := Tryd.func31.trans (congrArg some (by kernel_rfl))
  f197 := Tryd.func66.trans (congrArg some (by kernel_rfl))
  f199 := Tryd.func58.trans (congrArg some (by kernel_rfl))
  f237 := Tryd.func57.trans (congrArg some (by kernel_rfl))
  f238 := Tryd.func59.trans (congrArg some (by kernel_rfl))
  f260 := Tryd.func75.trans (congrArg some (by kernel_rfl))
  f261 := Tryd.func64.trans (congrArg some (by kernel_rfl))
  f271 := Tryd.func74.trans (congrArg some (by kernel_rfl))
  f272 := Tryd.func63.trans (congrArg some (by kernel_rfl))
  f273 := Tryd.func65.trans (congrArg some (by kernel_rfl))
  f311 := Tryd.func72.trans (congrArg some (by kernel_rfl))
  f312 := Tryd.func73.trans (congrArg some (by kernel_rfl))
  f315 := Tryd.func71.trans (congrArg some (by kernel_rfl))
  t0 := Tryd.underlying0
  a0 := Tryd.isAgg0
  z0 := Tryd.sizeOf0
  v0 := Tryd.zeroValue0
  t3 := Tryd.underlying3
  a3 := Tryd.isAgg3
  z3 := Tryd.sizeOf3
  v3 := Tryd.zeroValue3
  t4 := Tryd.underlying4
  a4 := Tryd.isAgg4
  z4 := Tryd.sizeOf4
  v4 := Tryd.zeroValue4
  t5 := Tryd.underlying5
  a5 := Tryd.isAgg5
  z5 := Tryd.sizeOf5
  v5 := Tryd.zeroValue5
  t9 := Tryd.underlying9
  a9 := Tryd.isAgg9
  z9 := Tryd.sizeOf9
  v9 := Tryd.zeroValue9
  t21 := Tryd.underlying21
  a21 := Tryd.isAgg21
  z21 := Tryd.sizeOf21
  v21 := Tryd.zeroValue21
  t37 := Tryd.underlying26
  a37 := Tryd.isAgg26
  z37 := Tryd.sizeOf26
  v37 := Tryd.zeroValue26
  t40 := Tryd.underlying113
  a40 := Tryd.isAgg113
  z40 := Tryd.sizeOf113
  v40 := Tryd.zeroValue113
  t46 := Tryd.underlying64
  a46 := Tryd.isAgg64
  z46 := Tryd.sizeOf64
  v46 := Tryd.zeroValue64
  t49 := Tryd.underlying70
  a49 := Tryd.isAgg70
  z49 := Tryd.sizeOf70
  v49 := Tryd.zeroValue70
  t51 := Tryd.underlying71
  a51 := Tryd.isAgg71
  z51 := Tryd.sizeOf71
  v51 := Tryd.zeroValue71
  t105 := Tryd.underlying125
  a105 := Tryd.isAgg125
  z105 := Tryd.sizeOf125
  v105 := Tryd.zeroValue125
  t119 := Tryd.underlying114
  a119 := Tryd.isAgg114
  z119 := Tryd.sizeOf114
  t138 := Tryd.underlying147
  a138 := Tryd.isAgg147
  z138 := Tryd.sizeOf147
  v138 := Tryd.zeroValue147
  t139 := Tryd.underlying148
  a139 := Tryd.isAgg148
  z139 := Tryd.sizeOf148
  v139 := Tryd.zeroValue148
  t141 := Tryd.underlying123
  a141 := Tryd.isAgg123
  z141 := Tryd.sizeOf123
  v141 := Tryd.zeroValue123
  t193 := Tryd.underlying131
  a193 := Tryd.isAgg131
  z193 := Tryd.sizeOf131
  v193 := Tryd.zeroValue131
  t194 := Tryd.underlying132
  a194 := Tryd.isAgg132
  z194 := Tryd.sizeOf132
  v194 := Tryd.zeroValue132
  t196 := Tryd.underlying134
  a196 := Tryd.isAgg134
  z196 := Tryd.sizeOf134
  v196 := Tryd.zeroValue134
  t198 := Tryd.underlying136
  a198 := Tryd.isAgg136
  z198 := Tryd.sizeOf136
  v198 := Tryd.zeroValue136
  t201 := Tryd.underlying139
  a201 := Tryd.isAgg139
  z201 := Tryd.sizeOf139
  v201 := Tryd.zeroValue139
  t226 := Tryd.underlying144
  a226 := Tryd.isAgg144
  z226 := Tryd.sizeOf144
  v226 := Tryd.zeroValue144
  t227 := Tryd.underlying145
  a227 := Tryd.isAgg145
  z227 := Tryd.sizeOf145
  v227 := Tryd.zeroValue145
  g0 := by kernel_rfl
  g3 := by kernel_rfl
  g4 := by kernel_rfl
  g6 := by kernel_rfl }
theorem Tryd.Space_Extra_163 : Space.Extra Tryd.prog Tryd.lays163_ren := {
  gNamed := by kernel_rfl }
open Go.RowKit in
theorem Tryd.strings_TrimSpace (s : ByteArray) (w : World) (hs : s.size ≤ 9223372036854775807) (hascii : ∀ (j : Nat) b, s.data.toList[j]? = some b → b.toNat < 128) (htab : Lib.TabIs Tryd.prog w "strings.asciiSpace" .u8 Lib.asciiSpaceTab) :
    Calls Tryd.prog 31 #[.string s] w fun e w' => e = .returned (.string ⟨(Lib.trimSpace s.data.toList).toArray⟩) ∧ w' = Lib.bytesWorld w 5 s := Any.strings_TrimSpace Tryd.lays163 Tryd.Space_Extra_163 s w hs hascii htab
def Tryd.lays120_ren : Go.Shelf.Ren := ⟨fun | 120 => 78 | n => n, fun | 5 => 5 | 4 => 4 | n => n, fun | n => n⟩
theorem Tryd.lays120 : Go.Proofs.Lays.n120 Tryd.prog Tryd.lays120_ren := {
  mixed := by kernel_rfl
  f120 := Tryd.func78.trans (congrArg some (by kernel_rfl))
  t4 := Tryd.underlying4
  a4 := Tryd.isAgg4
  z4 := Tryd.sizeOf4
  v4 := Tryd.zeroValue4
  t5 := Tryd.underlying5
  a5 := Tryd.isAgg5
  z5 := Tryd.sizeOf5
  v5 := Tryd.zeroValue5 }
/-- utf8.RuneStart: "RuneStart reports whether the byte could be the first byte of an encoded, possibly invalid rune. Second and subsequent bytes always have the top two bits set to 10.": IT RETURNS 'Lib.runeStart b'; the world is as it was. ('h0', 'h1': b is a byte: a caller has it of every byte that it was handed.) (LAID: no walk: one application.) -/
theorem Tryd.utf8_RuneStart (b : Int) (w : World) (h0 : 0 ≤ b) (h1 : b < 256) :
    Calls Tryd.prog 78 #[.int .u8 b] w fun e w' => e = .returned (.bool (Lib.runeStart b)) ∧ w' = w := Any.utf8_RuneStart Tryd.lays120 b w h0 h1
def Tryd.lays214_ren : Go.Shelf.Ren := ⟨fun | 214 => 62 | n => n, fun | 4 => 4 | 9 => 9 | n => n, fun | n => n⟩
theorem Tryd.lays214 : Go.Proofs.Lays.n214 Tryd.prog Tryd.lays214_ren := {
  mixed := by kernel_rfl
  f214 := Tryd.func62.trans (congrArg some (by kernel_rfl))
  t4 := Tryd.underlying4
  a4 := Tryd.isAgg4
  z4 := Tryd.sizeOf4
  v4 := Tryd.zeroValue4
  t9 := Tryd.underlying9
  a9 := Tryd.isAgg9
  z9 := Tryd.sizeOf9
  v9 := Tryd.zeroValue9 }
open Go.RowKit in
/-- internal/strconv.FormatBool (what strconv.FormatBool calls). (LAID: no walk: one application.) -/
theorem Tryd.internal_strconv_FormatBool (b : Bool) (w : World) :
    Calls Tryd.prog 62 #[.bool b] w fun e w' => e = .returned (.string ⟨(Lib.formatBool b).toArray⟩) ∧ w' = w := Any.internal_strconv_FormatBool Tryd.lays214 b w
def Tryd.lays121_ren : Go.Shelf.Ren := ⟨fun | 121 => 54 | 214 => 62 | n => n, fun | 4 => 4 | 9 => 9 | n => n, fun | n => n⟩
theorem Tryd.lays121 : Go.Proofs.Lays.n121 Tryd.prog Tryd.lays121_ren := {
  mixed := by kernel_rfl
  f121 := Tryd.func54.trans (congrArg some (by kernel_rfl))
  f214 := Tryd.func62.trans (congrArg some (by kernel_rfl))
  t4 := Tryd.underlying4
  a4 := Tryd.isAgg4
  z4 := Tryd.sizeOf4
  v4 := Tryd.zeroValue4
  t9 := Tryd.underlying9
  a9 := Tryd.isAgg9
  z9 := Tryd.sizeOf9
  v9 := Tryd.zeroValue9 }
open Go.RowKit in
/-- strconv.FormatBool: "FormatBool returns "true" or "false" according to the value of b.": IT RETURNS 'Lib.formatBool b'; the world is as it was. (LAID: no walk: one application.) -/
theorem Tryd.strconv_FormatBool (b : Bool) (w : World) :
    Calls Tryd.prog 54 #[.bool b] w fun e w' => e = .returned (.string ⟨(Lib.formatBool b).toArray⟩) ∧ w' = w := Any.strconv_FormatBool Tryd.lays121 b w
def Tryd.lays248_ren : Go.Shelf.Ren := ⟨fun | 248 => 60 | n => n, fun | 9 => 9 | 4 => 4 | 75 => 59 | 167 => 127 | 80 => 75 | n => n, fun | n => n⟩
theorem Tryd.lays248 : Go.Proofs.Lays.n248 Tryd.prog Tryd.lays248_ren := {
  mixed := by kernel_rfl
  f248 := Tryd.func60.trans (congrArg some (by kernel_rfl))
  t4 := Tryd.underlying4
  a4 := Tryd.isAgg4
  z4 := Tryd.sizeOf4
  v4 := Tryd.zeroValue4
  t9 := Tryd.underlying9
  a9 := Tryd.isAgg9
  z9 := Tryd.sizeOf9
  v9 := Tryd.zeroValue9
  t75 := Tryd.underlying59
  a75 := Tryd.isAgg59
  z75 := Tryd.sizeOf59
  v75 := Tryd.zeroValue59
  t167 := Tryd.underlying127
  a167 := Tryd.isAgg127
  z167 := Tryd.sizeOf127
  v167 := Tryd.zeroValue127 }
/-- internal/strconv.ParseBool, at a string that it accepts: the value, and no error. The world is as it was. (LAID: no walk: one application.) -/
theorem Tryd.internal_strconv_ParseBool (s : ByteArray) (b : Bool) (h : Lib.parseBool s.data.toList = some b) (w : World) :
    Calls Tryd.prog 60 #[.string s] w fun e w' => e = .returned (.tuple #[.bool b, .nilIface]) ∧ w' = w := Any.internal_strconv_ParseBool Tryd.lays248 s b h w
def Tryd.lays175_ren : Go.Shelf.Ren := ⟨fun | 175 => 34 | 248 => 60 | 245 => 61 | 279 => 67 | 280 => 68 | 281 => 69 | 282 => 70 | 316 => 76 | 171 => 77 | 205 => 36 | 243 => 79 | 246 => 80 | 283 => 81 | 284 => 82 | 285 => 83 | 286 => 84 | 129 => 86 | 317 => 85 | 318 => 87 | 319 => 88 | 320 => 89 | 337 => 90 | 338 => 91 | n => n, fun | 9 => 9 | 4 => 4 | 75 => 59 | 87 => 65 | 3 => 3 | 167 => 127 | 168 => 128 | 210 => 142 | 37 => 26 | 0 => 0 | 127 => 149 | 145 => 118 | 143 => 116 | 2 => 2 | 171 => 151 | 53 => 32 | 5 => 5 | 173 => 154 | 212 => 157 | 51 => 71 | 20 => 20 | 213 => 158 | 46 => 64 | 232 => 162 | 233 => 163 | 80 => 75 | n => n, fun | 15 => 3 | 16 => 4 | 17 => 7 | 18 => 8 | 19 => 9 | n => n⟩
theorem Tryd.lays175 : Go.Proofs.Lays.n175 Tryd.prog Tryd.lays175_ren := {
  mixed := by kernel_rfl
  f129 := Tryd.func86.trans (congrArg some (by kernel_rfl))
  f171 := Tryd.func77.trans (congrArg some (by kernel_rfl))
  f175 := Tryd.func34.trans (congrArg some (by kernel_rfl))
  f205 := Tryd.func36.trans (congrArg some (by kernel_rfl))
  f243 := Tryd.func79.trans (congrArg some (by kernel_rfl))
  f245 := Tryd.func61.trans (congrArg some (by kernel_rfl))
  f246 := Tryd.func80.trans (congrArg some (by kernel_rfl))
  f248 := Tryd.func60.trans (congrArg some (by kernel_rfl))
  f279 := Tryd.func67.trans (congrArg some (by kernel_rfl))
  f280 := Tryd.func68.trans (congrArg some (by kernel_rfl))
  f281 := Tryd.func69.trans (congrArg some (by kernel_rfl))
  f282 := Tryd.func70.trans (congrArg some (by kernel_rfl))
  f283 := Tryd.func81.trans (congrArg some (by kernel_rfl))
  f284 := Tryd.func82.trans (congrArg some (by kernel_rfl))
  f285 := Tryd.func83.trans (congrArg some (by kernel_rfl))
  f286 := Tryd.func84.trans (congrArg some (by kernel_rfl))
  f316 := Tryd.func76.trans (congrArg some (by kernel_rfl))
  f317 := Tryd.func85.trans (congrArg some (by kernel_rfl))
  f318 := Tryd.func87.trans (congrArg some (by kernel_rfl))
  f319 := Tryd.func88.trans (congrArg some (by kernel_rfl))
  f320 := Tryd.func89.trans (congrArg some (by kernel_rfl))
  f337 := Tryd.func90.trans (congrArg some (by kernel_rfl))
  f338 := Tryd.func91.trans (congrArg some (by kernel_rfl))
  t0 := Tryd.underlying0
  a0 := Tryd.isAgg0
  z0 := Tryd.sizeOf0
  v0 := Tryd.zeroValue0
  t2 := Tryd.underlying2
  a2 := Tryd.isAgg2
  z2 := Tryd.sizeOf2
  v2 := Tryd.zeroValue2
  t3 := Tryd.underlying3
  a3 := Tryd.isAgg3
  z3 := Tryd.sizeOf3
  v3 := Tryd.zeroValue3
  t4 := Tryd.underlying4
  a4 := Tryd.isAgg4
  z4 := Tryd.sizeOf4
  v4 := Tryd.zeroValue4
  t5 := Tryd.underlying5
  a5 := Tryd.isAgg5
  z5 := Tryd.sizeOf5
  v5 := Tryd.zeroValue5
  t9 := Tryd.underlying9
  a9 := Tryd.isAgg9
  z9 := Tryd.sizeOf9
  v9 := Tryd.zeroValue9
  t20 := Tryd.underlying20
  a20 := Tryd.isAgg20
  z20 := Tryd.sizeOf20
  v20 := Tryd.zeroValue20
  t37 := Tryd.underlying26
  a37 := Tryd.isAgg26
  z37 := Tryd.sizeOf26
  v37 := Tryd.zeroValue26
  t46 := Tryd.underlying64
  a46 := Tryd.isAgg64
  z46 := Tryd.sizeOf64
  v46 := Tryd.zeroValue64
  t51 := Tryd.underlying71
  a51 := Tryd.isAgg71
  z51 := Tryd.sizeOf71
  v51 := Tryd.zeroValue71
  t53 := Tryd.underlying32
  a53 := Tryd.isAgg32
  z53 := Tryd.sizeOf32
  v53 := Tryd.zeroValue32
  t75 := Tryd.underlying59
  a75 := Tryd.isAgg59
  z75 := Tryd.sizeOf59
  v75 := Tryd.zeroValue59
  t87 := Tryd.underlying65
  a87 := Tryd.isAgg65
  z87 := Tryd.sizeOf65
  v87 := Tryd.zeroValue65
  t127 := Tryd.underlying149
  a127 := Tryd.isAgg149
  z127 := Tryd.sizeOf149
  v127 := Tryd.zeroValue149
  t143 := Tryd.underlying116
  a143 := Tryd.isAgg116
  z143 := Tryd.sizeOf116
  v143 := Tryd.zeroValue116
  t145 := Tryd.underlying118
  a145 := Tryd.isAgg118
  z145 := Tryd.sizeOf118
  v145 := Tryd.zeroValue118
  t167 := Tryd.underlying127
  a167 := Tryd.isAgg127
  z167 := Tryd.sizeOf127
  v167 := Tryd.zeroValue127
  t168 := Tryd.underlying128
  a168 := Tryd.isAgg128
  z168 := Tryd.sizeOf128
  v168 := Tryd.zeroValue128
  t171 := Tryd.underlying151
  a171 := Tryd.isAgg151
  z171 := Tryd.sizeOf151
  v171 := Tryd.zeroValue151
  t173 := Tryd.underlying154
  a173 := Tryd.isAgg154
  z173 := Tryd.sizeOf154
  v173 := Tryd.zeroValue154
  t210 := Tryd.underlying142
  a210 := Tryd.isAgg142
  z210 := Tryd.sizeOf142
  v210 := Tryd.zeroValue142
  t212 := Tryd.underlying157
  a212 := Tryd.isAgg157
  z212 := Tryd.sizeOf157
  v212 := Tryd.zeroValue157
  t213 := Tryd.underlying158
  a213 := Tryd.isAgg158
  z213 := Tryd.sizeOf158
  t232 := Tryd.underlying162
  a232 := Tryd.isAgg162
  z232 := Tryd.sizeOf162
  v232 := Tryd.zeroValue162
  t233 := Tryd.underlying163
  a233 := Tryd.isAgg163
  z233 := Tryd.sizeOf163
  v233 := Tryd.zeroValue163
  g15 := by kernel_rfl
  g16 := by kernel_rfl
  g17 := by kernel_rfl
  g18 := by kernel_rfl
  g19 := by kernel_rfl }
/-- strconv.ParseBool: "ParseBool returns the boolean value represented by the string. It accepts 1, t, T, TRUE, true, True, 0, f, F, FALSE, false, False. Any other value returns an error.": AT ONE OF THE TWELVE. The world is as it was. (LAID: no walk: one application.) -/
theorem Tryd.strconv_ParseBool (s : ByteArray) (b : Bool) (h : Lib.parseBool s.data.toList = some b) (w : World) :
    Calls Tryd.prog 34 #[.string s] w fun e w' => e = .returned (.tuple #[.bool b, .nilIface]) ∧ w' = w := Any.strconv_ParseBool Tryd.lays175 s b h w
def Tryd.lays129_ren : Go.Shelf.Ren := ⟨fun | 129 => 86 | n => n, fun | 53 => 32 | 3 => 3 | 4 => 4 | 46 => 64 | 5 => 5 | 9 => 9 | n => n, fun | n => n⟩
theorem Tryd.lays129 : Go.Proofs.Lays.n129 Tryd.prog Tryd.lays129_ren := {
  mixed := by kernel_rfl
  f129 := Tryd.func86.trans (congrArg some (by kernel_rfl))
  t3 := Tryd.underlying3
  a3 := Tryd.isAgg3
  z3 := Tryd.sizeOf3
  v3 := Tryd.zeroValue3
  t4 := Tryd.underlying4
  a4 := Tryd.isAgg4
  z4 := Tryd.sizeOf4
  v4 := Tryd.zeroValue4
  t5 := Tryd.underlying5
  a5 := Tryd.isAgg5
  z5 := Tryd.sizeOf5
  v5 := Tryd.zeroValue5
  t9 := Tryd.underlying9
  a9 := Tryd.isAgg9
  z9 := Tryd.sizeOf9
  v9 := Tryd.zeroValue9
  t46 := Tryd.underlying64
  a46 := Tryd.isAgg64
  z46 := Tryd.sizeOf64
  v46 := Tryd.zeroValue64
  t53 := Tryd.underlying32
  a53 := Tryd.isAgg32
  z53 := Tryd.sizeOf32
  v53 := Tryd.zeroValue32 }
/-- bits.Len64: "Len64 returns the minimum number of bits required to represent x; the result is 0 for x == 0.": IT RETURNS 'Lib.bitLen x'; the world is as it was. ('h0', 'h1': x is a uint64.) (LAID: no walk: one application.) -/
theorem Tryd.bits_Len64 (x : Int) (w : World) (h0 : 0 ≤ x) (h1 : x ≤ 18446744073709551615) :
    Calls Tryd.prog 86 #[.int .u64 x] w fun e w' => e = .returned (.int .i64 (Lib.bitLen x.toNat)) ∧ w' = w := Any.bits_Len64 Tryd.lays129 x w h0 h1
def Tryd.lays317_ren : Go.Shelf.Ren := ⟨fun | 317 => 85 | n => n, fun | 3 => 3 | 46 => 64 | n => n, fun | n => n⟩
theorem Tryd.lays317 : Go.Proofs.Lays.n317 Tryd.prog Tryd.lays317_ren := {
  mixed := by kernel_rfl
  f317 := Tryd.func85.trans (congrArg some (by kernel_rfl))
  t3 := Tryd.underlying3
  a3 := Tryd.isAgg3
  z3 := Tryd.sizeOf3
  v3 := Tryd.zeroValue3
  t46 := Tryd.underlying64
  a46 := Tryd.isAgg64
  z46 := Tryd.sizeOf64
  v46 := Tryd.zeroValue64 }
open Go.Lib in
/-- internal/strconv.log10Pow2: "log10Pow2(x) returns ⌊log₁₀ 2**x⌋ = ⌊x * log₁₀ 2⌋.": '(x * 78913) >> 18', at an x up to 64 (a length in bits). The world is as it was. (LAID: no walk: one application.) -/
theorem Tryd.internal_strconv_log10Pow2 (x : Nat) (h : x ≤ 64) (w : World) :
    Calls Tryd.prog 85 #[.int .i64 x] w fun e w' => e = .returned (.int .i64 (Lib.l10 x)) ∧ w' = w := Any.internal_strconv_log10Pow2 Tryd.lays317 x h w
def Tryd.lays318_ren : Go.Shelf.Ren := ⟨fun | 318 => 87 | n => n, fun | 3 => 3 | 4 => 4 | n => n, fun | n => n⟩
theorem Tryd.lays318 : Go.Proofs.Lays.n318 Tryd.prog Tryd.lays318_ren := {
  mixed := by kernel_rfl
  f318 := Tryd.func87.trans (congrArg some (by kernel_rfl))
  t3 := Tryd.underlying3
  a3 := Tryd.isAgg3
  z3 := Tryd.sizeOf3
  v3 := Tryd.zeroValue3
  t4 := Tryd.underlying4
  a4 := Tryd.isAgg4
  z4 := Tryd.sizeOf4
  v4 := Tryd.zeroValue4 }
open Go.Lib in
/-- internal/strconv.bool2: "bool2 converts b to an integer: 1 for true, 0 for false." The world is as it was. (LAID: no walk: one application.) -/
theorem Tryd.internal_strconv_bool2_int (b : Bool) (w : World) :
    Calls Tryd.prog 87 #[.bool b] w fun e w' => e = .returned (.int .i64 (if b then 1 else 0)) ∧ w' = w := Any.internal_strconv_bool2_int Tryd.lays318 b w
def Tryd.lays283_ren : Go.Shelf.Ren := ⟨fun | 283 => 81 | n => n, fun | 3 => 3 | 9 => 9 | 4 => 4 | n => n, fun | n => n⟩
theorem Tryd.lays283 : Go.Proofs.Lays.n283 Tryd.prog Tryd.lays283_ren := {
  mixed := by kernel_rfl
  f283 := Tryd.func81.trans (congrArg some (by kernel_rfl))
  t3 := Tryd.underlying3
  a3 := Tryd.isAgg3
  z3 := Tryd.sizeOf3
  v3 := Tryd.zeroValue3
  t4 := Tryd.underlying4
  a4 := Tryd.isAgg4
  z4 := Tryd.sizeOf4
  v4 := Tryd.zeroValue4
  t9 := Tryd.underlying9
  a9 := Tryd.isAgg9
  z9 := Tryd.sizeOf9
  v9 := Tryd.zeroValue9 }
open Go.Lib in
/-- internal/strconv.small: "small returns the string for an i with 0 <= i < nSmalls.": i's decimal numeral. The world is as it was. (LAID: no walk: one application.) -/
theorem Tryd.internal_strconv_small (i : Nat) (h : i < 100) (w : World) :
    Calls Tryd.prog 81 #[.int .i64 i] w fun e w' => e = .returned (.string ⟨(Lib.decDigits i).toArray⟩) ∧ w' = w := Any.internal_strconv_small Tryd.lays283 i h w
def Tryd.laysM284_ren : Go.Shelf.Ren := ⟨fun | 284 => 82 | 129 => 86 | 317 => 85 | 318 => 87 | n => n, fun | 53 => 32 | 3 => 3 | 212 => 157 | 0 => 0 | 4 => 4 | 46 => 64 | 5 => 5 | 9 => 9 | n => n, fun | 17 => 7 | n => n⟩
theorem Tryd.laysM284 : Go.Proofs.LaysM.n284 Tryd.prog Tryd.laysM284_ren := {
  mixed := by kernel_rfl
  f129 := Tryd.func86.trans (congrArg some (by kernel_rfl))
  f284 := Tryd.func82.trans (congrArg some (by kernel_rfl))
  f317 := Tryd.func85.trans (congrArg some (by kernel_rfl))
  f318 := Tryd.func87.trans (congrArg some (by kernel_rfl))
  t0 := Tryd.underlying0
  a0 := Tryd.isAgg0
  z0 := Tryd.sizeOf0
  v0 := Tryd.zeroValue0
  t3 := Tryd.underlying3
  a3 := Tryd.isAgg3
  z3 := Tryd.sizeOf3
  v3 := Tryd.zeroValue3
  t4 := Tryd.underlying4
  a4 := Tryd.isAgg4
  z4 := Tryd.sizeOf4
  v4 := Tryd.zeroValue4
  t5 := Tryd.underlying5
  a5 := Tryd.isAgg5
  z5 := Tryd.sizeOf5
  v5 := Tryd.zeroValue5
  t9 := Tryd.underlying9
  a9 := Tryd.isAgg9
  z9 := Tryd.sizeOf9
  v9 := Tryd.zeroValue9
  t46 := Tryd.underlying64
  a46 := Tryd.isAgg64
  z46 := Tryd.sizeOf64
  v46 := Tryd.zeroValue64
  t53 := Tryd.underlying32
  a53 := Tryd.isAgg32
  z53 := Tryd.sizeOf32
  v53 := Tryd.zeroValue32
  t212 := Tryd.underlying157
  a212 := Tryd.isAgg157
  z212 := Tryd.sizeOf157
  v212 := Tryd.zeroValue157
  g17 := by kernel_rfl
  i0 := by kernel_rfl
  i3 := by kernel_rfl
  i4 := by kernel_rfl
  i5 := by kernel_rfl
  i9 := by kernel_rfl
  i46 := by kernel_rfl
  i53 := by kernel_rfl
  i212 := by kernel_rfl
  m17 := by kernel_rfl }
open Go.Lib in
/-- internal/strconv.numDigits, at a d that is not 0: THE NUMBER OF d's DECIMAL DIGITS. The world is as it was. (LAID: no walk: one application.) -/
theorem Tryd.internal_strconv_numDigits (u : Nat) (h1 : 1 ≤ u) (h2 : u < 18446744073709551616) (w : World) (htab : Lib.TabIs Tryd.prog w "internal/strconv.uint64pow10" .u64 Lib.pow10Tab) :
    Calls Tryd.prog 82 #[.int .u64 u] w fun e w' => e = .returned (.int .i64 (Lib.nDigits u)) ∧ w' = w := Any.internal_strconv_numDigits Tryd.laysM284 u h1 h2 w htab
def Tryd.lays285_ren : Go.Shelf.Ren := ⟨fun | 285 => 83 | n => n, fun | 37 => 26 | 53 => 32 | 3 => 3 | 4 => 4 | 51 => 71 | 9 => 9 | 5 => 5 | 0 => 0 | n => n, fun | n => n⟩
theorem Tryd.lays285 : Go.Proofs.Lays.n285 Tryd.prog Tryd.lays285_ren := {
  mixed := by kernel_rfl
  f285 := Tryd.func83.trans (congrArg some (by kernel_rfl))
  t0 := Tryd.underlying0
  a0 := Tryd.isAgg0
  z0 := Tryd.sizeOf0
  v0 := Tryd.zeroValue0
  t3 := Tryd.underlying3
  a3 := Tryd.isAgg3
  z3 := Tryd.sizeOf3
  v3 := Tryd.zeroValue3
  t4 := Tryd.underlying4
  a4 := Tryd.isAgg4
  z4 := Tryd.sizeOf4
  v4 := Tryd.zeroValue4
  t5 := Tryd.underlying5
  a5 := Tryd.isAgg5
  z5 := Tryd.sizeOf5
  v5 := Tryd.zeroValue5
  t9 := Tryd.underlying9
  a9 := Tryd.isAgg9
  z9 := Tryd.sizeOf9
  v9 := Tryd.zeroValue9
  t37 := Tryd.underlying26
  a37 := Tryd.isAgg26
  z37 := Tryd.sizeOf26
  v37 := Tryd.zeroValue26
  t51 := Tryd.underlying71
  a51 := Tryd.isAgg71
  z51 := Tryd.sizeOf71
  v51 := Tryd.zeroValue71
  t53 := Tryd.underlying32
  a53 := Tryd.isAgg32
  z53 := Tryd.sizeOf32
  v53 := Tryd.zeroValue32 }
open Go.RowKit Go.Sort Go.Lib in
/-- internal/strconv.formatBase10: "formatBase10 formats the decimal representation of u into a. The caller is responsible for ensuring that a is big enough to hold u. If a is too big, leading zeros will be filled in as needed.": THE ROW HOLDS u's DIGITS ('FmtInv .. 0 ..': every place t holds 'dg u (len - 1 - t)'); all else is as it was but for the count of draws. (LAID: no walk: one application.) -/
theorem Tryd.internal_strconv_formatBase10 (blk off cap : Nat) (u : Nat) (d : Array UInt8) (w : World) (hH : Holds (fun (b : UInt8) => Value.int .u8 (b.toNat : Int)) w blk off d) (hu : u < 10 ^ d.size) (hu64 : u < 18446744073709551616) (hsz : d.size < 4611686018427387904) :
    Calls Tryd.prog 83 #[.slice (some ⟨blk, off, none⟩) d.size cap, .int .u64 u] w fun e w' =>
      e = .returned (.tuple #[]) ∧ ∃ (n v' : Nat) (dk : Array UInt8), w' = (putRow (fun (b : UInt8) => Value.int .u8 (b.toNat : Int)) w blk off dk).drewN n ∧ FmtInv d.size u 0 v' dk := Any.internal_strconv_formatBase10 Tryd.lays285 blk off cap u d w hH hu hu64 hsz
def Tryd.laysM246_ren : Go.Shelf.Ren := ⟨fun | 246 => 80 | 283 => 81 | 284 => 82 | 285 => 83 | 286 => 84 | 129 => 86 | 317 => 85 | 318 => 87 | 319 => 88 | 320 => 89 | 337 => 90 | 338 => 91 | n => n, fun | 2 => 2 | 3 => 3 | 9 => 9 | 4 => 4 | 171 => 151 | 0 => 0 | 53 => 32 | 37 => 26 | 5 => 5 | 173 => 154 | 212 => 157 | 51 => 71 | 20 => 20 | 213 => 158 | 46 => 64 | 232 => 162 | 233 => 163 | n => n, fun | 17 => 7 | 18 => 8 | 19 => 9 | n => n⟩
theorem Tryd.laysM246 : Go.Proofs.LaysM.n246 Tryd.prog Tryd.laysM246_ren := {
  mixed := by kernel_rfl
  f129 := Tryd.func86.trans (congrArg some (by kernel_rfl))
  f246 := Tryd.func80.trans (congrArg some (by kernel_rfl))
  f283 := Tryd.func81.trans (congrArg some (by kernel_rfl))
  f284 := Tryd.func82.trans (congrArg some (by kernel_rfl))
  f285 := Tryd.func83.trans (congrArg some (by kernel_rfl))
  f286 := Tryd.func84.trans (congrArg some (by kernel_rfl))
  f317 := Tryd.func85.trans (congrArg some (by kernel_rfl))
  f318 := Tryd.func87.trans (congrArg some (by kernel_rfl))
  f319 := Tryd.func88.trans (congrArg some (by kernel_rfl))
  f320 := Tryd.func89.trans (congrArg some (by kernel_rfl))
  f337 := Tryd.func90.trans (congrArg some (by kernel_rfl))
  f338 := Tryd.func91.trans (congrArg some (by kernel_rfl))
  t0 := Tryd.underlying0
  a0 := Tryd.isAgg0
  z0 := Tryd.sizeOf0
  v0 := Tryd.zeroValue0
  t2 := Tryd.underlying2
  a2 := Tryd.isAgg2
  z2 := Tryd.sizeOf2
  v2 := Tryd.zeroValue2
  t3 := Tryd.underlying3
  a3 := Tryd.isAgg3
  z3 := Tryd.sizeOf3
  v3 := Tryd.zeroValue3
  t4 := Tryd.underlying4
  a4 := Tryd.isAgg4
  z4 := Tryd.sizeOf4
  v4 := Tryd.zeroValue4
  t5 := Tryd.underlying5
  a5 := Tryd.isAgg5
  z5 := Tryd.sizeOf5
  v5 := Tryd.zeroValue5
  t9 := Tryd.underlying9
  a9 := Tryd.isAgg9
  z9 := Tryd.sizeOf9
  v9 := Tryd.zeroValue9
  t20 := Tryd.underlying20
  a20 := Tryd.isAgg20
  z20 := Tryd.sizeOf20
  v20 := Tryd.zeroValue20
  t37 := Tryd.underlying26
  a37 := Tryd.isAgg26
  z37 := Tryd.sizeOf26
  v37 := Tryd.zeroValue26
  t46 := Tryd.underlying64
  a46 := Tryd.isAgg64
  z46 := Tryd.sizeOf64
  v46 := Tryd.zeroValue64
  t51 := Tryd.underlying71
  a51 := Tryd.isAgg71
  z51 := Tryd.sizeOf71
  v51 := Tryd.zeroValue71
  t53 := Tryd.underlying32
  a53 := Tryd.isAgg32
  z53 := Tryd.sizeOf32
  v53 := Tryd.zeroValue32
  t171 := Tryd.underlying151
  a171 := Tryd.isAgg151
  z171 := Tryd.sizeOf151
  v171 := Tryd.zeroValue151
  t173 := Tryd.underlying154
  a173 := Tryd.isAgg154
  z173 := Tryd.sizeOf154
  v173 := Tryd.zeroValue154
  t212 := Tryd.underlying157
  a212 := Tryd.isAgg157
  z212 := Tryd.sizeOf157
  v212 := Tryd.zeroValue157
  t213 := Tryd.underlying158
  a213 := Tryd.isAgg158
  z213 := Tryd.sizeOf158
  t232 := Tryd.underlying162
  a232 := Tryd.isAgg162
  z232 := Tryd.sizeOf162
  v232 := Tryd.zeroValue162
  t233 := Tryd.underlying163
  a233 := Tryd.isAgg163
  z233 := Tryd.sizeOf163
  v233 := Tryd.zeroValue163
  g17 := by kernel_rfl
  g18 := by kernel_rfl
  g19 := by kernel_rfl
  i0 := by kernel_rfl
  i2 := by kernel_rfl
  i3 := by kernel_rfl
  i4 := by kernel_rfl
  i5 := by kernel_rfl
  i9 := by kernel_rfl
  i20 := by kernel_rfl
  i37 := by kernel_rfl
  i46 := by kernel_rfl
  i51 := by kernel_rfl
  i53 := by kernel_rfl
  i171 := by kernel_rfl
  i173 := by kernel_rfl
  i212 := by kernel_rfl
  i232 := by kernel_rfl
  i233 := by kernel_rfl
  m17 := by kernel_rfl
  m18 := by kernel_rfl
  m19 := by kernel_rfl }
open Go.RowKit Go.Sort Go.Lib in
/-- internal/strconv.FormatInt: "FormatInt returns the string representation of i in the given base": AT BASE 10: i's decimal numeral, for every int64. The world behind the call: the world before it, new blocks behind the heap, draws. (LAID: no walk: one application.) -/
theorem Tryd.internal_strconv_FormatInt_10 (n : Int) (h0 : -9223372036854775808 ≤ n) (h1 : n ≤ 9223372036854775807) (w : World) (htab : Lib.TabIs Tryd.prog w "internal/strconv.uint64pow10" .u64 Lib.pow10Tab) :
    Calls Tryd.prog 80 #[.int .i64 n, .int .i64 10] w fun e w' => e = .returned (.string ⟨(Lib.itoa n).toArray⟩) ∧ ∃ k os, w' = grow (w.drewN k) os := Any.internal_strconv_FormatInt_10 Tryd.laysM246 n h0 h1 w htab
def Tryd.lays246_ren : Go.Shelf.Ren := ⟨fun | 246 => 80 | 283 => 81 | 284 => 82 | 285 => 83 | 286 => 84 | 129 => 86 | 317 => 85 | 318 => 87 | 319 => 88 | 320 => 89 | 337 => 90 | 338 => 91 | n => n, fun | 2 => 2 | 3 => 3 | 9 => 9 | 4 => 4 | 171 => 151 | 0 => 0 | 53 => 32 | 37 => 26 | 5 => 5 | 173 => 154 | 212 => 157 | 51 => 71 | 20 => 20 | 213 => 158 | 46 => 64 | 232 => 162 | 233 => 163 | n => n, fun | 17 => 7 | 18 => 8 | 19 => 9 | n => n⟩
theorem Tryd.lays246 : Go.Proofs.Lays.n246 Tryd.prog Tryd.lays246_ren := {
  mixed := by kernel_rfl
  f129 := Tryd.func86.trans (congrArg some (by kernel_rfl))
  f246 := Tryd.func80.trans (congrArg some (by kernel_rfl))
  f283 := Tryd.func81.trans (congrArg some (by kernel_rfl))
  f284 := Tryd.func82.trans (congrArg some (by kernel_rfl))
  f285 := Tryd.func83.trans (congrArg some (by kernel_rfl))
  f286 := Tryd.func84.trans (congrArg some (by kernel_rfl))
  f317 := Tryd.func85.trans (congrArg some (by kernel_rfl))
  f318 := Tryd.func87.trans (congrArg some (by kernel_rfl))
  f319 := Tryd.func88.trans (congrArg some (by kernel_rfl))
  f320 := Tryd.func89.trans (congrArg some (by kernel_rfl))
  f337 := Tryd.func90.trans (congrArg some (by kernel_rfl))
  f338 := Tryd.func91.trans (congrArg some (by kernel_rfl))
  t0 := Tryd.underlying0
  a0 := Tryd.isAgg0
  z0 := Tryd.sizeOf0
  v0 := Tryd.zeroValue0
  t2 := Tryd.underlying2
  a2 := Tryd.isAgg2
  z2 := Tryd.sizeOf2
  v2 := Tryd.zeroValue2
  t3 := Tryd.underlying3
  a3 := Tryd.isAgg3
  z3 := Tryd.sizeOf3
  v3 := Tryd.zeroValue3
  t4 := Tryd.underlying4
  a4 := Tryd.isAgg4
  z4 := Tryd.sizeOf4
  v4 := Tryd.zeroValue4
  t5 := Tryd.underlying5
  a5 := Tryd.isAgg5
  z5 := Tryd.sizeOf5
  v5 := Tryd.zeroValue5
  t9 := Tryd.underlying9
  a9 := Tryd.isAgg9
  z9 := Tryd.sizeOf9
  v9 := Tryd.zeroValue9
  t20 := Tryd.underlying20
  a20 := Tryd.isAgg20
  z20 := Tryd.sizeOf20
  v20 := Tryd.zeroValue20
  t37 := Tryd.underlying26
  a37 := Tryd.isAgg26
  z37 := Tryd.sizeOf26
  v37 := Tryd.zeroValue26
  t46 := Tryd.underlying64
  a46 := Tryd.isAgg64
  z46 := Tryd.sizeOf64
  v46 := Tryd.zeroValue64
  t51 := Tryd.underlying71
  a51 := Tryd.isAgg71
  z51 := Tryd.sizeOf71
  v51 := Tryd.zeroValue71
  t53 := Tryd.underlying32
  a53 := Tryd.isAgg32
  z53 := Tryd.sizeOf32
  v53 := Tryd.zeroValue32
  t171 := Tryd.underlying151
  a171 := Tryd.isAgg151
  z171 := Tryd.sizeOf151
  v171 := Tryd.zeroValue151
  t173 := Tryd.underlying154
  a173 := Tryd.isAgg154
  z173 := Tryd.sizeOf154
  v173 := Tryd.zeroValue154
  t212 := Tryd.underlying157
  a212 := Tryd.isAgg157
  z212 := Tryd.sizeOf157
  v212 := Tryd.zeroValue157
  t213 := Tryd.underlying158
  a213 := Tryd.isAgg158
  z213 := Tryd.sizeOf158
  t232 := Tryd.underlying162
  a232 := Tryd.isAgg162
  z232 := Tryd.sizeOf162
  v232 := Tryd.zeroValue162
  t233 := Tryd.underlying163
  a233 := Tryd.isAgg163
  z233 := Tryd.sizeOf163
  v233 := Tryd.zeroValue163
  g17 := by kernel_rfl
  g18 := by kernel_rfl
  g19 := by kernel_rfl }
open Go.RowKit Go.Sort Go.Lib in
/-- THE ROAD WITHOUT THE TABLE: 0 <= i < 100: two constants are read, nothing is laid: no premise on the world, and the world is as it was. (LAID: no walk: one application.) -/
theorem Tryd.internal_strconv_FormatInt_10_small (i : Nat) (hi : i < 100) (w : World) :
    Calls Tryd.prog 80 #[.int .i64 i, .int .i64 10] w fun e w' => e = .returned (.string ⟨(Lib.decDigits i).toArray⟩) ∧ w' = w := Any.internal_strconv_FormatInt_10_small Tryd.lays246 i hi w
def Tryd.laysM243_ren : Go.Shelf.Ren := ⟨fun | 243 => 79 | 246 => 80 | 283 => 81 | 284 => 82 | 285 => 83 | 286 => 84 | 129 => 86 | 317 => 85 | 318 => 87 | 319 => 88 | 320 => 89 | 337 => 90 | 338 => 91 | n => n, fun | 3 => 3 | 9 => 9 | 2 => 2 | 4 => 4 | 171 => 151 | 0 => 0 | 53 => 32 | 37 => 26 | 5 => 5 | 173 => 154 | 212 => 157 | 51 => 71 | 20 => 20 | 213 => 158 | 46 => 64 | 232 => 162 | 233 => 163 | n => n, fun | 17 => 7 | 18 => 8 | 19 => 9 | n => n⟩
theorem Tryd.laysM243 : Go.Proofs.LaysM.n243 Tryd.prog Tryd.laysM243_ren := {
  mixed := by kernel_rfl
  f129 := Tryd.func86.trans (congrArg some (by kernel_rfl))
  f243 := Tryd.func79.trans (congrArg some (by kernel_rfl))
  f246 := Tryd.func80.trans (congrArg some (by kernel_rfl))
  f283 := Tryd.func81.trans (congrArg some (by kernel_rfl))
  f284 := Tryd.func82.trans (congrArg some (by kernel_rfl))
  f285 := Tryd.func83.trans (congrArg some (by kernel_rfl))
  f286 := Tryd.func84.trans (congrArg some (by kernel_rfl))
  f317 := Tryd.func85.trans (congrArg some (by kernel_rfl))
  f318 := Tryd.func87.trans (congrArg some (by kernel_rfl))
  f319 := Tryd.func88.trans (congrArg some (by kernel_rfl))
  f320 := Tryd.func89.trans (congrArg some (by kernel_rfl))
  f337 := Tryd.func90.trans (congrArg some (by kernel_rfl))
  f338 := Tryd.func91.trans (congrArg some (by kernel_rfl))
  t0 := Tryd.underlying0
  a0 := Tryd.isAgg0
  z0 := Tryd.sizeOf0
  v0 := Tryd.zeroValue0
  t2 := Tryd.underlying2
  a2 := Tryd.isAgg2
  z2 := Tryd.sizeOf2
  v2 := Tryd.zeroValue2
  t3 := Tryd.underlying3
  a3 := Tryd.isAgg3
  z3 := Tryd.sizeOf3
  v3 := Tryd.zeroValue3
  t4 := Tryd.underlying4
  a4 := Tryd.isAgg4
  z4 := Tryd.sizeOf4
  v4 := Tryd.zeroValue4
  t5 := Tryd.underlying5
  a5 := Tryd.isAgg5
  z5 := Tryd.sizeOf5
  v5 := Tryd.zeroValue5
  t9 := Tryd.underlying9
  a9 := Tryd.isAgg9
  z9 := Tryd.sizeOf9
  v9 := Tryd.zeroValue9
  t20 := Tryd.underlying20
  a20 := Tryd.isAgg20
  z20 := Tryd.sizeOf20
  v20 := Tryd.zeroValue20
  t37 := Tryd.underlying26
  a37 := Tryd.isAgg26
  z37 := Tryd.sizeOf26
  v37 := Tryd.zeroValue26
  t46 := Tryd.underlying64
  a46 := Tryd.isAgg64
  z46 := Tryd.sizeOf64
  v46 := Tryd.zeroValue64
  t51 := Tryd.underlying71
  a51 := Tryd.isAgg71
  z51 := Tryd.sizeOf71
  v51 := Tryd.zeroValue71
  t53 := Tryd.underlying32
  a53 := Tryd.isAgg32
  z53 := Tryd.sizeOf32
  v53 := Tryd.zeroValue32
  t171 := Tryd.underlying151
  a171 := Tryd.isAgg151
  z171 := Tryd.sizeOf151
  v171 := Tryd.zeroValue151
  t173 := Tryd.underlying154
  a173 := Tryd.isAgg154
  z173 := Tryd.sizeOf154
  v173 := Tryd.zeroValue154
  t212 := Tryd.underlying157
  a212 := Tryd.isAgg157
  z212 := Tryd.sizeOf157
  v212 := Tryd.zeroValue157
  t213 := Tryd.underlying158
  a213 := Tryd.isAgg158
  z213 := Tryd.sizeOf158
  t232 := Tryd.underlying162
  a232 := Tryd.isAgg162
  z232 := Tryd.sizeOf162
  v232 := Tryd.zeroValue162
  t233 := Tryd.underlying163
  a233 := Tryd.isAgg163
  z233 := Tryd.sizeOf163
  v233 := Tryd.zeroValue163
  g17 := by kernel_rfl
  g18 := by kernel_rfl
  g19 := by kernel_rfl
  i0 := by kernel_rfl
  i2 := by kernel_rfl
  i3 := by kernel_rfl
  i4 := by kernel_rfl
  i5 := by kernel_rfl
  i9 := by kernel_rfl
  i20 := by kernel_rfl
  i37 := by kernel_rfl
  i46 := by kernel_rfl
  i51 := by kernel_rfl
  i53 := by kernel_rfl
  i171 := by kernel_rfl
  i173 := by kernel_rfl
  i212 := by kernel_rfl
  i232 := by kernel_rfl
  i233 := by kernel_rfl
  m17 := by kernel_rfl
  m18 := by kernel_rfl
  m19 := by kernel_rfl }
open Go.RowKit Go.Sort Go.Lib in
/-- internal/strconv.Itoa: "Itoa is equivalent to FormatInt(int64(i), 10).": i's decimal numeral, for every int. (LAID: no walk: one application.) -/
theorem Tryd.internal_strconv_Itoa (n : Int) (h0 : -9223372036854775808 ≤ n) (h1 : n ≤ 9223372036854775807) (w : World) (htab : Lib.TabIs Tryd.prog w "internal/strconv.uint64pow10" .u64 Lib.pow10Tab) :
    Calls Tryd.prog 79 #[.int .i64 n] w fun e w' => e = .returned (.string ⟨(Lib.itoa n).toArray⟩) ∧ ∃ k os, w' = grow (w.drewN k) os := Any.internal_strconv_Itoa Tryd.laysM243 n h0 h1 w htab
def Tryd.lays243_ren : Go.Shelf.Ren := ⟨fun | 243 => 79 | 246 => 80 | 283 => 81 | 284 => 82 | 285 => 83 | 286 => 84 | 129 => 86 | 317 => 85 | 318 => 87 | 319 => 88 | 320 => 89 | 337 => 90 | 338 => 91 | n => n, fun | 3 => 3 | 9 => 9 | 2 => 2 | 4 => 4 | 171 => 151 | 0 => 0 | 53 => 32 | 37 => 26 | 5 => 5 | 173 => 154 | 212 => 157 | 51 => 71 | 20 => 20 | 213 => 158 | 46 => 64 | 232 => 162 | 233 => 163 | n => n, fun | 17 => 7 | 18 => 8 | 19 => 9 | n => n⟩
theorem Tryd.lays243 : Go.Proofs.Lays.n243 Tryd.prog Tryd.lays243_ren := {
  mixed := by kernel_rfl
  f129 := Tryd.func86.trans (congrArg some (by kernel_rfl))
  f243 := Tryd.func79.trans (congrArg some (by kernel_rfl))
  f246 := Tryd.func80.trans (congrArg some (by kernel_rfl))
  f283 := Tryd.func81.trans (congrArg some (by kernel_rfl))
  f284 := Tryd.func82.trans (congrArg some (by kernel_rfl))
  f285 := Tryd.func83.trans (congrArg some (by kernel_rfl))
  f286 := Tryd.func84.trans (congrArg some (by kernel_rfl))
  f317 := Tryd.func85.trans (congrArg some (by kernel_rfl))
  f318 := Tryd.func87.trans (congrArg some (by kernel_rfl))
  f319 := Tryd.func88.trans (congrArg some (by kernel_rfl))
  f320 := Tryd.func89.trans (congrArg some (by kernel_rfl))
  f337 := Tryd.func90.trans (congrArg some (by kernel_rfl))
  f338 := Tryd.func91.trans (congrArg some (by kernel_rfl))
  t0 := Tryd.underlying0
  a0 := Tryd.isAgg0
  z0 := Tryd.sizeOf0
  v0 := Tryd.zeroValue0
  t2 := Tryd.underlying2
  a2 := Tryd.isAgg2
  z2 := Tryd.sizeOf2
  v2 := Tryd.zeroValue2
  t3 := Tryd.underlying3
  a3 := Tryd.isAgg3
  z3 := Tryd.sizeOf3
  v3 := Tryd.zeroValue3
  t4 := Tryd.underlying4
  a4 := Tryd.isAgg4
  z4 := Tryd.sizeOf4
  v4 := Tryd.zeroValue4
  t5 := Tryd.underlying5
  a5 := Tryd.isAgg5
  z5 := Tryd.sizeOf5
  v5 := Tryd.zeroValue5
  t9 := Tryd.underlying9
  a9 := Tryd.isAgg9
  z9 := Tryd.sizeOf9
  v9 := Tryd.zeroValue9
  t20 := Tryd.underlying20
  a20 := Tryd.isAgg20
  z20 := Tryd.sizeOf20
  v20 := Tryd.zeroValue20
  t37 := Tryd.underlying26
  a37 := Tryd.isAgg26
  z37 := Tryd.sizeOf26
  v37 := Tryd.zeroValue26
  t46 := Tryd.underlying64
  a46 := Tryd.isAgg64
  z46 := Tryd.sizeOf64
  v46 := Tryd.zeroValue64
  t51 := Tryd.underlying71
  a51 := Tryd.isAgg71
  z51 := Tryd.sizeOf71
  v51 := Tryd.zeroValue71
  t53 := Tryd.underlying32
  a53 := Tryd.isAgg32
  z53 := Tryd.sizeOf32
  v53 := Tryd.zeroValue32
  t171 := Tryd.underlying151
  a171 := Tryd.isAgg151
  z171 := Tryd.sizeOf151
  v171 := Tryd.zeroValue151
  t173 := Tryd.underlying154
  a173 := Tryd.isAgg154
  z173 := Tryd.sizeOf154
  v173 := Tryd.zeroValue154
  t212 := Tryd.underlying157
  a212 := Tryd.isAgg157
  z212 := Tryd.sizeOf157
  v212 := Tryd.zeroValue157
  t213 := Tryd.underlying158
  a213 := Tryd.isAgg158
  z213 := Tryd.sizeOf158
  t232 := Tryd.underlying162
  a232 := Tryd.isAgg162
  z232 := Tryd.sizeOf162
  v232 := Tryd.zeroValue162
  t233 := Tryd.underlying163
  a233 := Tryd.isAgg163
  z233 := Tryd.sizeOf163
  v233 := Tryd.zeroValue163
  g17 := by kernel_rfl
  g18 := by kernel_rfl
  g19 := by kernel_rfl }
open Go.RowKit Go.Sort Go.Lib in
/-- THE ROAD WITHOUT THE TABLE: 0 <= i < 100. (LAID: no walk: one application.) -/
theorem Tryd.internal_strconv_Itoa_small (i : Nat) (hi : i < 100) (w : World) :
    Calls Tryd.prog 79 #[.int .i64 i] w fun e w' => e = .returned (.string ⟨(Lib.decDigits i).toArray⟩) ∧ w' = w := Any.internal_strconv_Itoa_small Tryd.lays243 i hi w
def Tryd.laysM171_ren : Go.Shelf.Ren := ⟨fun | 171 => 77 | 243 => 79 | 246 => 80 | 283 => 81 | 284 => 82 | 285 => 83 | 286 => 84 | 129 => 86 | 317 => 85 | 318 => 87 | 319 => 88 | 320 => 89 | 337 => 90 | 338 => 91 | n => n, fun | 3 => 3 | 9 => 9 | 2 => 2 | 4 => 4 | 171 => 151 | 0 => 0 | 53 => 32 | 37 => 26 | 5 => 5 | 173 => 154 | 212 => 157 | 51 => 71 | 20 => 20 | 213 => 158 | 46 => 64 | 232 => 162 | 233 => 163 | n => n, fun | 17 => 7 | 18 => 8 | 19 => 9 | n => n⟩
theorem Tryd.laysM171 : Go.Proofs.LaysM.n171 Tryd.prog Tryd.laysM171_ren := {
  mixed := by kernel_rfl
  f129 := Tryd.func86.trans (congrArg some (by kernel_rfl))
  f171 := Tryd.func77.trans (congrArg some (by kernel_rfl))
  f243 := Tryd.func79.trans (congrArg some (by kernel_rfl))
  f246 := Tryd.func80.trans (congrArg some (by kernel_rfl))
  f283 := Tryd.func81.trans (congrArg some (by kernel_rfl))
  f284 := Tryd.func82.trans (congrArg some (by kernel_rfl))
  f285 := Tryd.func83.trans (congrArg some (by kernel_rfl))
  f286 := Tryd.func84.trans (congrArg some (by kernel_rfl))
  f317 := Tryd.func85.trans (congrArg some (by kernel_rfl))
  f318 := Tryd.func87.trans (congrArg some (by kernel_rfl))
  f319 := Tryd.func88.trans (congrArg some (by kernel_rfl))
  f320 := Tryd.func89.trans (congrArg some (by kernel_rfl))
  f337 := Tryd.func90.trans (congrArg some (by kernel_rfl))
  f338 := Tryd.func91.trans (congrArg some (by kernel_rfl))
  t0 := Tryd.underlying0
  a0 := Tryd.isAgg0
  z0 := Tryd.sizeOf0
  v0 := Tryd.zeroValue0
  t2 := Tryd.underlying2
  a2 := Tryd.isAgg2
  z2 := Tryd.sizeOf2
  v2 := Tryd.zeroValue2
  t3 := Tryd.underlying3
  a3 := Tryd.isAgg3
  z3 := Tryd.sizeOf3
  v3 := Tryd.zeroValue3
  t4 := Tryd.underlying4
  a4 := Tryd.isAgg4
  z4 := Tryd.sizeOf4
  v4 := Tryd.zeroValue4
  t5 := Tryd.underlying5
  a5 := Tryd.isAgg5
  z5 := Tryd.sizeOf5
  v5 := Tryd.zeroValue5
  t9 := Tryd.underlying9
  a9 := Tryd.isAgg9
  z9 := Tryd.sizeOf9
  v9 := Tryd.zeroValue9
  t20 := Tryd.underlying20
  a20 := Tryd.isAgg20
  z20 := Tryd.sizeOf20
  v20 := Tryd.zeroValue20
  t37 := Tryd.underlying26
  a37 := Tryd.isAgg26
  z37 := Tryd.sizeOf26
  v37 := Tryd.zeroValue26
  t46 := Tryd.underlying64
  a46 := Tryd.isAgg64
  z46 := Tryd.sizeOf64
  v46 := Tryd.zeroValue64
  t51 := Tryd.underlying71
  a51 := Tryd.isAgg71
  z51 := Tryd.sizeOf71
  v51 := Tryd.zeroValue71
  t53 := Tryd.underlying32
  a53 := Tryd.isAgg32
  z53 := Tryd.sizeOf32
  v53 := Tryd.zeroValue32
  t171 := Tryd.underlying151
  a171 := Tryd.isAgg151
  z171 := Tryd.sizeOf151
  v171 := Tryd.zeroValue151
  t173 := Tryd.underlying154
  a173 := Tryd.isAgg154
  z173 := Tryd.sizeOf154
  v173 := Tryd.zeroValue154
  t212 := Tryd.underlying157
  a212 := Tryd.isAgg157
  z212 := Tryd.sizeOf157
  v212 := Tryd.zeroValue157
  t213 := Tryd.underlying158
  a213 := Tryd.isAgg158
  z213 := Tryd.sizeOf158
  t232 := Tryd.underlying162
  a232 := Tryd.isAgg162
  z232 := Tryd.sizeOf162
  v232 := Tryd.zeroValue162
  t233 := Tryd.underlying163
  a233 := Tryd.isAgg163
  z233 := Tryd.sizeOf163
  v233 := Tryd.zeroValue163
  g17 := by kernel_rfl
  g18 := by kernel_rfl
  g19 := by kernel_rfl
  i0 := by kernel_rfl
  i2 := by kernel_rfl
  i3 := by kernel_rfl
  i4 := by kernel_rfl
  i5 := by kernel_rfl
  i9 := by kernel_rfl
  i20 := by kernel_rfl
  i37 := by kernel_rfl
  i46 := by kernel_rfl
  i51 := by kernel_rfl
  i53 := by kernel_rfl
  i171 := by kernel_rfl
  i173 := by kernel_rfl
  i212 := by kernel_rfl
  i232 := by kernel_rfl
  i233 := by kernel_rfl
  m17 := by kernel_rfl
  m18 := by kernel_rfl
  m19 := by kernel_rfl }
open Go.RowKit Go.Sort Go.Lib in
/-- strconv.Itoa: "Itoa is equivalent to FormatInt(int64(i), 10).": i's DECIMAL NUMERAL ('Lib.itoa': a '-' where i is negative, then the digits), FOR EVERY int. The world behind the call: the world before it, new blocks behind the heap (the library's 'var a [24]byte'), draws. (LAID: no walk: one application.) -/
theorem Tryd.strconv_Itoa (n : Int) (h0 : -9223372036854775808 ≤ n) (h1 : n ≤ 9223372036854775807) (w : World) (htab : Lib.TabIs Tryd.prog w "internal/strconv.uint64pow10" .u64 Lib.pow10Tab) :
    Calls Tryd.prog 77 #[.int .i64 n] w fun e w' => e = .returned (.string ⟨(Lib.itoa n).toArray⟩) ∧ ∃ k os, w' = grow (w.drewN k) os := Any.strconv_Itoa Tryd.laysM171 n h0 h1 w htab
def Tryd.lays171_ren : Go.Shelf.Ren := ⟨fun | 171 => 77 | 243 => 79 | 246 => 80 | 283 => 81 | 284 => 82 | 285 => 83 | 286 => 84 | 129 => 86 | 317 => 85 | 318 => 87 | 319 => 88 | 320 => 89 | 337 => 90 | 338 => 91 | n => n, fun | 3 => 3 | 9 => 9 | 2 => 2 | 4 => 4 | 171 => 151 | 0 => 0 | 53 => 32 | 37 => 26 | 5 => 5 | 173 => 154 | 212 => 157 | 51 => 71 | 20 => 20 | 213 => 158 | 46 => 64 | 232 => 162 | 233 => 163 | n => n, fun | 17 => 7 | 18 => 8 | 19 => 9 | n => n⟩
theorem Tryd.lays171 : Go.Proofs.Lays.n171 Tryd.prog Tryd.lays171_ren := {
  mixed := by kernel_rfl
  f129 := Tryd.func86.trans (congrArg some (by kernel_rfl))
  f171 := Tryd.func77.trans (congrArg some (by kernel_rfl))
  f243 := Tryd.func79.trans (congrArg some (by kernel_rfl))
  f246 := Tryd.func80.trans (congrArg some (by kernel_rfl))
  f283 := Tryd.func81.trans (congrArg some (by kernel_rfl))
  f284 := Tryd.func82.trans (congrArg some (by kernel_rfl))
  f285 := Tryd.func83.trans (congrArg some (by kernel_rfl))
  f286 := Tryd.func84.trans (congrArg some (by kernel_rfl))
  f317 := Tryd.func85.trans (congrArg some (by kernel_rfl))
  f318 := Tryd.func87.trans (congrArg some (by kernel_rfl))
  f319 := Tryd.func88.trans (congrArg some (by kernel_rfl))
  f320 := Tryd.func89.trans (congrArg some (by kernel_rfl))
  f337 := Tryd.func90.trans (congrArg some (by kernel_rfl))
  f338 := Tryd.func91.trans (congrArg some (by kernel_rfl))
  t0 := Tryd.underlying0
  a0 := Tryd.isAgg0
  z0 := Tryd.sizeOf0
  v0 := Tryd.zeroValue0
  t2 := Tryd.underlying2
  a2 := Tryd.isAgg2
  z2 := Tryd.sizeOf2
  v2 := Tryd.zeroValue2
  t3 := Tryd.underlying3
  a3 := Tryd.isAgg3
  z3 := Tryd.sizeOf3
  v3 := Tryd.zeroValue3
  t4 := Tryd.underlying4
  a4 := Tryd.isAgg4
  z4 := Tryd.sizeOf4
  v4 := Tryd.zeroValue4
  t5 := Tryd.underlying5
  a5 := Tryd.isAgg5
  z5 := Tryd.sizeOf5
  v5 := Tryd.zeroValue5
  t9 := Tryd.underlying9
  a9 := Tryd.isAgg9
  z9 := Tryd.sizeOf9
  v9 := Tryd.zeroValue9
  t20 := Tryd.underlying20
  a20 := Tryd.isAgg20
  z20 := Tryd.sizeOf20
  v20 := Tryd.zeroValue20
  t37 := Tryd.underlying26
  a37 := Tryd.isAgg26
  z37 := Tryd.sizeOf26
  v37 := Tryd.zeroValue26
  t46 := Tryd.underlying64
  a46 := Tryd.isAgg64
  z46 := Tryd.sizeOf64
  v46 := Tryd.zeroValue64
  t51 := Tryd.underlying71
  a51 := Tryd.isAgg71
  z51 := Tryd.sizeOf71
  v51 := Tryd.zeroValue71
  t53 := Tryd.underlying32
  a53 := Tryd.isAgg32
  z53 := Tryd.sizeOf32
  v53 := Tryd.zeroValue32
  t171 := Tryd.underlying151
  a171 := Tryd.isAgg151
  z171 := Tryd.sizeOf151
  v171 := Tryd.zeroValue151
  t173 := Tryd.underlying154
  a173 := Tryd.isAgg154
  z173 := Tryd.sizeOf154
  v173 := Tryd.zeroValue154
  t212 := Tryd.underlying157
  a212 := Tryd.isAgg157
  z212 := Tryd.sizeOf157
  v212 := Tryd.zeroValue157
  t213 := Tryd.underlying158
  a213 := Tryd.isAgg158
  z213 := Tryd.sizeOf158
  t232 := Tryd.underlying162
  a232 := Tryd.isAgg162
  z232 := Tryd.sizeOf162
  v232 := Tryd.zeroValue162
  t233 := Tryd.underlying163
  a233 := Tryd.isAgg163
  z233 := Tryd.sizeOf163
  v233 := Tryd.zeroValue163
  g17 := by kernel_rfl
  g18 := by kernel_rfl
  g19 := by kernel_rfl }
open Go.RowKit Go.Sort Go.Lib in
/-- THE ROAD WITHOUT THE TABLE: 0 <= i < 100: NO PREMISE ON THE WORLD, AND THE WORLD IS AS IT WAS: a row that keeps its argument in that range need list no table ('laid = []'). (LAID: no walk: one application.) -/
theorem Tryd.strconv_Itoa_small (i : Nat) (hi : i < 100) (w : World) :
    Calls Tryd.prog 77 #[.int .i64 i] w fun e w' => e = .returned (.string ⟨(Lib.decDigits i).toArray⟩) ∧ w' = w := Any.strconv_Itoa_small Tryd.lays171 i hi w
def Tryd.laysM316_ren : Go.Shelf.Ren := ⟨fun | 316 => 76 | n => n, fun | 9 => 9 | 3 => 3 | 4 => 4 | 37 => 26 | 0 => 0 | 127 => 149 | 5 => 5 | n => n, fun | n => n⟩
theorem Tryd.laysM316 : Go.Proofs.LaysM.n316 Tryd.prog Tryd.laysM316_ren := {
  mixed := by kernel_rfl
  f316 := Tryd.func76.trans (congrArg some (by kernel_rfl))
  t0 := Tryd.underlying0
  a0 := Tryd.isAgg0
  z0 := Tryd.sizeOf0
  v0 := Tryd.zeroValue0
  t3 := Tryd.underlying3
  a3 := Tryd.isAgg3
  z3 := Tryd.sizeOf3
  v3 := Tryd.zeroValue3
  t4 := Tryd.underlying4
  a4 := Tryd.isAgg4
  z4 := Tryd.sizeOf4
  v4 := Tryd.zeroValue4
  t9 := Tryd.underlying9
  a9 := Tryd.isAgg9
  z9 := Tryd.sizeOf9
  v9 := Tryd.zeroValue9
  t37 := Tryd.underlying26
  a37 := Tryd.isAgg26
  z37 := Tryd.sizeOf26
  v37 := Tryd.zeroValue26
  t127 := Tryd.underlying149
  a127 := Tryd.isAgg149
  z127 := Tryd.sizeOf149
  v127 := Tryd.zeroValue149
  t5 := Tryd.underlying5
  a5 := Tryd.isAgg5
  z5 := Tryd.sizeOf5
  v5 := Tryd.zeroValue5
  i0 := by kernel_rfl
  i3 := by kernel_rfl
  i4 := by kernel_rfl
  i5 := by kernel_rfl
  i9 := by kernel_rfl
  i37 := by kernel_rfl
  i127 := by kernel_rfl }
open Go.RowKit in
/-- internal/stringslite.Clone (what strings.Clone calls): "Clone returns a fresh copy of s.": THE SAME BYTES. Of what was there nothing has turned (a new row is laid, and frozen, where s is not empty). (LAID: no walk: one application.) -/
theorem Tryd.stringslite_Clone (s : ByteArray) (w : World) (hlim : s.size ≤ 281474976710656) :
    Calls Tryd.prog 76 #[.string s] w fun e w' => e = .returned (.string s) ∧ Below w.heap.size w w' := Any.stringslite_Clone Tryd.laysM316 s w hlim
def Tryd.laysM279_ren : Go.Shelf.Ren := ⟨fun | 279 => 67 | 316 => 76 | n => n, fun | 9 => 9 | 168 => 128 | 75 => 59 | 210 => 142 | 3 => 3 | 4 => 4 | 37 => 26 | 0 => 0 | 127 => 149 | 80 => 75 | 5 => 5 | n => n, fun | 15 => 3 | n => n⟩
theorem Tryd.laysM279 : Go.Proofs.LaysM.n279 Tryd.prog Tryd.laysM279_ren := {
  mixed := by kernel_rfl
  f279 := Tryd.func67.trans (congrArg some (by kernel_rfl))
  f316 := Tryd.func76.trans (congrArg some (by kernel_rfl))
  t0 := Tryd.underlying0
  a0 := Tryd.isAgg0
  z0 := Tryd.sizeOf0
  v0 := Tryd.zeroValue0
  t3 := Tryd.underlying3
  a3 := Tryd.isAgg3
  z3 := Tryd.sizeOf3
  v3 := Tryd.zeroValue3
  t4 := Tryd.underlying4
  a4 := Tryd.isAgg4
  z4 := Tryd.sizeOf4
  v4 := Tryd.zeroValue4
  t9 := Tryd.underlying9
  a9 := Tryd.isAgg9
  z9 := Tryd.sizeOf9
  v9 := Tryd.zeroValue9
  t37 := Tryd.underlying26
  a37 := Tryd.isAgg26
  z37 := Tryd.sizeOf26
  v37 := Tryd.zeroValue26
  t75 := Tryd.underlying59
  a75 := Tryd.isAgg59
  z75 := Tryd.sizeOf59
  v75 := Tryd.zeroValue59
  t127 := Tryd.underlying149
  a127 := Tryd.isAgg149
  z127 := Tryd.sizeOf149
  v127 := Tryd.zeroValue149
  t168 := Tryd.underlying128
  a168 := Tryd.isAgg128
  z168 := Tryd.sizeOf128
  v168 := Tryd.zeroValue128
  t210 := Tryd.underlying142
  a210 := Tryd.isAgg142
  z210 := Tryd.sizeOf142
  v210 := Tryd.zeroValue142
  g15 := by kernel_rfl
  t5 := Tryd.underlying5
  a5 := Tryd.isAgg5
  z5 := Tryd.sizeOf5
  v5 := Tryd.zeroValue5
  t80 := Tryd.underlying75
  a80 := Tryd.isAgg75
  z80 := Tryd.sizeOf75
  v80 := Tryd.zeroValue75
  i0 := by kernel_rfl
  i3 := by kernel_rfl
  i4 := by kernel_rfl
  i5 := by kernel_rfl
  i9 := by kernel_rfl
  i37 := by kernel_rfl
  i75 := by kernel_rfl
  i80 := by kernel_rfl
  i127 := by kernel_rfl
  i168 := by kernel_rfl
  i210 := by kernel_rfl
  m15 := by kernel_rfl }
open Go.RowKit in
/-- strconv.syntaxError: '&NumError{fn, stringslite.Clone(str), ErrSyntax}': A POINTER TO A NEW BLOCK that holds fn, str's bytes, and what the variable ErrSyntax holds. Of what was there nothing has turned. (LAID: no walk: one application.) -/
theorem Tryd.strconv_syntaxError (fn s : ByteArray) (ev : Value) (w : World) (hlim : s.size ≤ 281474976710656) (hv : w.cell? ⟨3, 0, none⟩ = some ev) (hev : ev = .nilIface ∨ ∃ te pe, ev = .iface te pe) :
    Calls Tryd.prog 67 #[.string fn, .string s] w fun e w' => ∃ N, e = .returned (.pointer (some ⟨N, 0, none⟩)) ∧ w.heap.size ≤ N ∧ w'.heap[N]? = some (.cells #[.string fn, .string s, ev] 142 (0, 0)) ∧ Below w.heap.size w w' := Any.strconv_syntaxError Tryd.laysM279 fn s ev w hlim hv hev
def Tryd.laysC245_ren : Go.Shelf.Ren := ⟨fun | 245 => 61 | 279 => 67 | 280 => 68 | 281 => 69 | 282 => 70 | 316 => 76 | 171 => 77 | 205 => 36 | 243 => 79 | 246 => 80 | 283 => 81 | 284 => 82 | 285 => 83 | 286 => 84 | 129 => 86 | 317 => 85 | 318 => 87 | 319 => 88 | 320 => 89 | 337 => 90 | 338 => 91 | n => n, fun | 9 => 9 | 3 => 3 | 75 => 59 | 167 => 127 | 4 => 4 | 168 => 128 | 210 => 142 | 37 => 26 | 0 => 0 | 127 => 149 | 145 => 118 | 143 => 116 | 2 => 2 | 171 => 151 | 53 => 32 | 5 => 5 | 173 => 154 | 212 => 157 | 51 => 71 | 20 => 20 | 213 => 158 | 46 => 64 | 232 => 162 | 233 => 163 | 80 => 75 | n => n, fun | 15 => 3 | 16 => 4 | 17 => 7 | 18 => 8 | 19 => 9 | n => n⟩
theorem Tryd.laysC245 : Go.Proofs.LaysC.n245 Tryd.prog Tryd.laysC245_ren := {
  mixed := by kernel_rfl
  f129 := Tryd.func86.trans (congrArg some (by kernel_rfl))
  f171 := Tryd.func77.trans (congrArg some (by kernel_rfl))
  f205 := Tryd.func36.trans (congrArg some (by kernel_rfl))
  f243 := Tryd.func79.trans (congrArg some (by kernel_rfl))
  f245 := Tryd.func61.trans (congrArg some (by kernel_rfl))
  f246 := Tryd.func80.trans (congrArg some (by kernel_rfl))
  f279 := Tryd.func67.trans (congrArg some (by kernel_rfl))
  f280 := Tryd.func68.trans (congrArg some (by kernel_rfl))
  f281 := Tryd.func69.trans (congrArg some (by kernel_rfl))
  f282 := Tryd.func70.trans (congrArg some (by kernel_rfl))
  f283 := Tryd.func81.trans (congrArg some (by kernel_rfl))
  f284 := Tryd.func82.trans (congrArg some (by kernel_rfl))
  f285 := Tryd.func83.trans (congrArg some (by kernel_rfl))
  f286 := Tryd.func84.trans (congrArg some (by kernel_rfl))
  f316 := Tryd.func76.trans (congrArg some (by kernel_rfl))
  f317 := Tryd.func85.trans (congrArg some (by kernel_rfl))
  f318 := Tryd.func87.trans (congrArg some (by kernel_rfl))
  f319 := Tryd.func88.trans (congrArg some (by kernel_rfl))
  f320 := Tryd.func89.trans (congrArg some (by kernel_rfl))
  f337 := Tryd.func90.trans (congrArg some (by kernel_rfl))
  f338 := Tryd.func91.trans (congrArg some (by kernel_rfl))
  t0 := Tryd.underlying0
  a0 := Tryd.isAgg0
  z0 := Tryd.sizeOf0
  v0 := Tryd.zeroValue0
  t2 := Tryd.underlying2
  a2 := Tryd.isAgg2
  z2 := Tryd.sizeOf2
  v2 := Tryd.zeroValue2
  t3 := Tryd.underlying3
  a3 := Tryd.isAgg3
  z3 := Tryd.sizeOf3
  v3 := Tryd.zeroValue3
  t4 := Tryd.underlying4
  a4 := Tryd.isAgg4
  z4 := Tryd.sizeOf4
  v4 := Tryd.zeroValue4
  t5 := Tryd.underlying5
  a5 := Tryd.isAgg5
  z5 := Tryd.sizeOf5
  v5 := Tryd.zeroValue5
  t9 := Tryd.underlying9
  a9 := Tryd.isAgg9
  z9 := Tryd.sizeOf9
  v9 := Tryd.zeroValue9
  t20 := Tryd.underlying20
  a20 := Tryd.isAgg20
  z20 := Tryd.sizeOf20
  v20 := Tryd.zeroValue20
  t37 := Tryd.underlying26
  a37 := Tryd.isAgg26
  z37 := Tryd.sizeOf26
  v37 := Tryd.zeroValue26
  t46 := Tryd.underlying64
  a46 := Tryd.isAgg64
  z46 := Tryd.sizeOf64
  v46 := Tryd.zeroValue64
  t51 := Tryd.underlying71
  a51 := Tryd.isAgg71
  z51 := Tryd.sizeOf71
  v51 := Tryd.zeroValue71
  t53 := Tryd.underlying32
  a53 := Tryd.isAgg32
  z53 := Tryd.sizeOf32
  v53 := Tryd.zeroValue32
  t75 := Tryd.underlying59
  a75 := Tryd.isAgg59
  z75 := Tryd.sizeOf59
  v75 := Tryd.zeroValue59
  t127 := Tryd.underlying149
  a127 := Tryd.isAgg149
  z127 := Tryd.sizeOf149
  v127 := Tryd.zeroValue149
  t143 := Tryd.underlying116
  a143 := Tryd.isAgg116
  z143 := Tryd.sizeOf116
  v143 := Tryd.zeroValue116
  t145 := Tryd.underlying118
  a145 := Tryd.isAgg118
  z145 := Tryd.sizeOf118
  v145 := Tryd.zeroValue118
  t167 := Tryd.underlying127
  a167 := Tryd.isAgg127
  z167 := Tryd.sizeOf127
  v167 := Tryd.zeroValue127
  t168 := Tryd.underlying128
  a168 := Tryd.isAgg128
  z168 := Tryd.sizeOf128
  v168 := Tryd.zeroValue128
  t171 := Tryd.underlying151
  a171 := Tryd.isAgg151
  z171 := Tryd.sizeOf151
  v171 := Tryd.zeroValue151
  t173 := Tryd.underlying154
  a173 := Tryd.isAgg154
  z173 := Tryd.sizeOf154
  v173 := Tryd.zeroValue154
  t210 := Tryd.underlying142
  a210 := Tryd.isAgg142
  z210 := Tryd.sizeOf142
  v210 := Tryd.zeroValue142
  t212 := Tryd.underlying157
  a212 := Tryd.isAgg157
  z212 := Tryd.sizeOf157
  v212 := Tryd.zeroValue157
  t213 := Tryd.underlying158
  a213 := Tryd.isAgg158
  z213 := Tryd.sizeOf158
  t232 := Tryd.underlying162
  a232 := Tryd.isAgg162
  z232 := Tryd.sizeOf162
  v232 := Tryd.zeroValue162
  t233 := Tryd.underlying163
  a233 := Tryd.isAgg163
  z233 := Tryd.sizeOf163
  v233 := Tryd.zeroValue163
  g15 := by kernel_rfl
  g16 := by kernel_rfl
  g17 := by kernel_rfl
  g18 := by kernel_rfl
  g19 := by kernel_rfl
  t80 := Tryd.underlying75
  a80 := Tryd.isAgg75
  z80 := Tryd.sizeOf75
  v80 := Tryd.zeroValue75
  i0 := by kernel_rfl
  i2 := by kernel_rfl
  i3 := by kernel_rfl
  i4 := by kernel_rfl
  i5 := by kernel_rfl
  i9 := by kernel_rfl
  i20 := by kernel_rfl
  i37 := by kernel_rfl
  i46 := by kernel_rfl
  i51 := by kernel_rfl
  i53 := by kernel_rfl
  i75 := by kernel_rfl
  i80 := by kernel_rfl
  i127 := by kernel_rfl
  i143 := by kernel_rfl
  i145 := by kernel_rfl
  i167 := by kernel_rfl
  i168 := by kernel_rfl
  i171 := by kernel_rfl
  i173 := by kernel_rfl
  i210 := by kernel_rfl
  i212 := by kernel_rfl
  i232 := by kernel_rfl
  i233 := by kernel_rfl
  m15 := by kernel_rfl
  m16 := by kernel_rfl
  m17 := by kernel_rfl
  m18 := by kernel_rfl
  m19 := by kernel_rfl
  c0 := by kernel_rfl
  c2 := by kernel_rfl
  c3 := by kernel_rfl
  c4 := by kernel_rfl
  c5 := by kernel_rfl
  c9 := by kernel_rfl
  c20 := by kernel_rfl
  c37 := by kernel_rfl
  c46 := by kernel_rfl
  c51 := by kernel_rfl
  c53 := by kernel_rfl
  c75 := by kernel_rfl
  c80 := by kernel_rfl
  c127 := by kernel_rfl
  c143 := by kernel_rfl
  c145 := by kernel_rfl
  c167 := by kernel_rfl
  c168 := by kernel_rfl
  c171 := by kernel_rfl
  c173 := by kernel_rfl
  c210 := by kernel_rfl
  c212 := by kernel_rfl
  c213 := by kernel_rfl
  c232 := by kernel_rfl
  c233 := by kernel_rfl }
open Go.RowKit in
/-- strconv.toError, at the inner package's ErrSyntax: 'syntaxError(fn, s)' as an error: A *NumError IN A NEW BLOCK. (LAID: no walk: one application.) -/
theorem Tryd.strconv_toError_syntax (fn s : ByteArray) (base bits : Int) (ev : Value) (w : World) (hlim : s.size ≤ 281474976710656) (hv : w.cell? ⟨3, 0, none⟩ = some ev) (hev : ev = .nilIface ∨ ∃ te pe, ev = .iface te pe) :
    Calls Tryd.prog 61 #[.string fn, .string s, .int .i64 base, .int .i64 bits, .iface 127 (.int .i64 2)] w fun e w' => ∃ N, e = .returned (.iface 128 (.pointer (some ⟨N, 0, none⟩))) ∧ w.heap.size ≤ N ∧ w'.heap[N]? = some (.cells #[.string fn, .string s, ev] 142 (0, 0)) ∧ Below w.heap.size w w' := Any.strconv_toError_syntax Tryd.laysC245 fn s base bits ev w hlim hv hev
/-- internal/strconv.ParseBool, AT EVERY STRING THAT IT DOES NOT ACCEPT: false, and ErrSyntax. The world is as it was. (LAID: no walk: one application.) -/
theorem Tryd.internal_strconv_ParseBool_err (s : ByteArray) (h : Lib.parseBool s.data.toList = none) (w : World) :
    Calls Tryd.prog 60 #[.string s] w fun e w' => e = .returned (.tuple #[.bool false, (.iface 127 (.int .i64 2))]) ∧ w' = w := Any.internal_strconv_ParseBool_err Tryd.lays248 s h w
def Tryd.laysC175_ren : Go.Shelf.Ren := ⟨fun | 175 => 34 | 248 => 60 | 245 => 61 | 279 => 67 | 280 => 68 | 281 => 69 | 282 => 70 | 316 => 76 | 171 => 77 | 205 => 36 | 243 => 79 | 246 => 80 | 283 => 81 | 284 => 82 | 285 => 83 | 286 => 84 | 129 => 86 | 317 => 85 | 318 => 87 | 319 => 88 | 320 => 89 | 337 => 90 | 338 => 91 | n => n, fun | 9 => 9 | 4 => 4 | 75 => 59 | 87 => 65 | 3 => 3 | 167 => 127 | 168 => 128 | 210 => 142 | 37 => 26 | 0 => 0 | 127 => 149 | 145 => 118 | 143 => 116 | 2 => 2 | 171 => 151 | 53 => 32 | 5 => 5 | 173 => 154 | 212 => 157 | 51 => 71 | 20 => 20 | 213 => 158 | 46 => 64 | 232 => 162 | 233 => 163 | 80 => 75 | n => n, fun | 15 => 3 | 16 => 4 | 17 => 7 | 18 => 8 | 19 => 9 | n => n⟩
theorem Tryd.laysC175 : Go.Proofs.LaysC.n175 Tryd.prog Tryd.laysC175_ren := {
  mixed := by kernel_rfl
  f129 := Tryd.func86.trans (congrArg some (by kernel_rfl))
  f171 := Tryd.func77.trans (congrArg some (by kernel_rfl))
  f175 := Tryd.func34.trans (congrArg some (by kernel_rfl))
  f205 := Tryd.func36.trans (congrArg some (by kernel_rfl))
  f243 := Tryd.func79.trans (congrArg some (by kernel_rfl))
  f245 := Tryd.func61.trans (congrArg some (by kernel_rfl))
  f246 := Tryd.func80.trans (congrArg some (by kernel_rfl))
  f248 := Tryd.func60.trans (congrArg some (by kernel_rfl))
  f279 := Tryd.func67.trans (congrArg some (by kernel_rfl))
  f280 := Tryd.func68.trans (congrArg some (by kernel_rfl))
  f281 := Tryd.func69.trans (congrArg some (by kernel_rfl))
  f282 := Tryd.func70.trans (congrArg some (by kernel_rfl))
  f283 := Tryd.func81.trans (congrArg some (by kernel_rfl))
  f284 := Tryd.func82.trans (congrArg some (by kernel_rfl))
  f285 := Tryd.func83.trans (congrArg some (by kernel_rfl))
  f286 := Tryd.func84.trans (congrArg some (by kernel_rfl))
  f316 := Tryd.func76.trans (congrArg some (by kernel_rfl))
  f317 := Tryd.func85.trans (congrArg some (by kernel_rfl))
  f318 := Tryd.func87.trans (congrArg some (by kernel_rfl))
  f319 := Tryd.func88.trans (congrArg some (by kernel_rfl))
  f320 := Tryd.func89.trans (congrArg some (by kernel_rfl))
  f337 := Tryd.func90.trans (congrArg some (by kernel_rfl))
  f338 := Tryd.func91.trans (congrArg some (by kernel_rfl))
  t0 := Tryd.underlying0
  a0 := Tryd.isAgg0
  z0 := Tryd.sizeOf0
  v0 := Tryd.zeroValue0
  t2 := Tryd.underlying2
  a2 := Tryd.isAgg2
  z2 := Tryd.sizeOf2
  v2 := Tryd.zeroValue2
  t3 := Tryd.underlying3
  a3 := Tryd.isAgg3
  z3 := Tryd.sizeOf3
  v3 := Tryd.zeroValue3
  t4 := Tryd.underlying4
  a4 := Tryd.isAgg4
  z4 := Tryd.sizeOf4
  v4 := Tryd.zeroValue4
  t5 := Tryd.underlying5
  a5 := Tryd.isAgg5
  z5 := Tryd.sizeOf5
  v5 := Tryd.zeroValue5
  t9 := Tryd.underlying9
  a9 := Tryd.isAgg9
  z9 := Tryd.sizeOf9
  v9 := Tryd.zeroValue9
  t20 := Tryd.underlying20
  a20 := Tryd.isAgg20
  z20 := Tryd.sizeOf20
  v20 := Tryd.zeroValue20
  t37 := Tryd.underlying26
  a37 := Tryd.isAgg26
  z37 := Tryd.sizeOf26
  v37 := Tryd.zeroValue26
  t46 := Tryd.underlying64
  a46 := Tryd.isAgg64
  z46 := Tryd.sizeOf64
  v46 := Tryd.zeroValue64
  t51 := Tryd.underlying71
  a51 := Tryd.isAgg71
  z51 := Tryd.sizeOf71
  v51 := Tryd.zeroValue71
  t53 := Tryd.underlying32
  a53 := Tryd.isAgg32
  z53 := Tryd.sizeOf32
  v53 := Tryd.zeroValue32
  t75 := Tryd.underlying59
  a75 := Tryd.isAgg59
  z75 := Tryd.sizeOf59
  v75 := Tryd.zeroValue59
  t87 := Tryd.underlying65
  a87 := Tryd.isAgg65
  z87 := Tryd.sizeOf65
  v87 := Tryd.zeroValue65
  t127 := Tryd.underlying149
  a127 := Tryd.isAgg149
  z127 := Tryd.sizeOf149
  v127 := Tryd.zeroValue149
  t143 := Tryd.underlying116
  a143 := Tryd.isAgg116
  z143 := Tryd.sizeOf116
  v143 := Tryd.zeroValue116
  t145 := Tryd.underlying118
  a145 := Tryd.isAgg118
  z145 := Tryd.sizeOf118
  v145 := Tryd.zeroValue118
  t167 := Tryd.underlying127
  a167 := Tryd.isAgg127
  z167 := Tryd.sizeOf127
  v167 := Tryd.zeroValue127
  t168 := Tryd.underlying128
  a168 := Tryd.isAgg128
  z168 := Tryd.sizeOf128
  v168 := Tryd.zeroValue128
  t171 := Tryd.underlying151
  a171 := Tryd.isAgg151
  z171 := Tryd.sizeOf151
  v171 := Tryd.zeroValue151
  t173 := Tryd.underlying154
  a173 := Tryd.isAgg154
  z173 := Tryd.sizeOf154
  v173 := Tryd.zeroValue154
  t210 := Tryd.underlying142
  a210 := Tryd.isAgg142
  z210 := Tryd.sizeOf142
  v210 := Tryd.zeroValue142
  t212 := Tryd.underlying157
  a212 := Tryd.isAgg157
  z212 := Tryd.sizeOf157
  v212 := Tryd.zeroValue157
  t213 := Tryd.underlying158
  a213 := Tryd.isAgg158
  z213 := Tryd.sizeOf158
  t232 := Tryd.underlying162
  a232 := Tryd.isAgg162
  z232 := Tryd.sizeOf162
  v232 := Tryd.zeroValue162
  t233 := Tryd.underlying163
  a233 := Tryd.isAgg163
  z233 := Tryd.sizeOf163
  v233 := Tryd.zeroValue163
  g15 := by kernel_rfl
  g16 := by kernel_rfl
  g17 := by kernel_rfl
  g18 := by kernel_rfl
  g19 := by kernel_rfl
  t80 := Tryd.underlying75
  a80 := Tryd.isAgg75
  z80 := Tryd.sizeOf75
  v80 := Tryd.zeroValue75
  i0 := by kernel_rfl
  i2 := by kernel_rfl
  i3 := by kernel_rfl
  i4 := by kernel_rfl
  i5 := by kernel_rfl
  i9 := by kernel_rfl
  i20 := by kernel_rfl
  i37 := by kernel_rfl
  i46 := by kernel_rfl
  i51 := by kernel_rfl
  i53 := by kernel_rfl
  i75 := by kernel_rfl
  i80 := by kernel_rfl
  i87 := by kernel_rfl
  i127 := by kernel_rfl
  i143 := by kernel_rfl
  i145 := by kernel_rfl
  i167 := by kernel_rfl
  i168 := by kernel_rfl
  i171 := by kernel_rfl
  i173 := by kernel_rfl
  i210 := by kernel_rfl
  i212 := by kernel_rfl
  i232 := by kernel_rfl
  i233 := by kernel_rfl
  m15 := by kernel_rfl
  m16 := by kernel_rfl
  m17 := by kernel_rfl
  m18 := by kernel_rfl
  m19 := by kernel_rfl
  c0 := by kernel_rfl
  c2 := by kernel_rfl
  c3 := by kernel_rfl
  c4 := by kernel_rfl
  c5 := by kernel_rfl
  c9 := by kernel_rfl
  c20 := by kernel_rfl
  c37 := by kernel_rfl
  c46 := by kernel_rfl
  c51 := by kernel_rfl
  c53 := by kernel_rfl
  c75 := by kernel_rfl
  c80 := by kernel_rfl
  c87 := by kernel_rfl
  c127 := by kernel_rfl
  c143 := by kernel_rfl
  c145 := by kernel_rfl
  c167 := by kernel_rfl
  c168 := by kernel_rfl
  c171 := by kernel_rfl
  c173 := by kernel_rfl
  c210 := by kernel_rfl
  c212 := by kernel_rfl
  c213 := by kernel_rfl
  c232 := by kernel_rfl
  c233 := by kernel_rfl }
open Go.RowKit in
/-- strconv.ParseBool: ".. Any other value returns an error.": AT EVERY STRING THAT IS NONE OF THE TWELVE: false, AND AN ERROR THAT IS NOT nil: a *NumError in a new block N: {Func: "ParseBool", Num: s's bytes, Err: what the variable ErrSyntax holds}. Of what was there nothing has turned. (LAID: no walk: one application.) -/
theorem Tryd.strconv_ParseBool_err (s : ByteArray) (hlim : s.size ≤ 281474976710656) (h : Lib.parseBool s.data.toList = none) (ev : Value) (w : World) (hv : w.cell? ⟨3, 0, none⟩ = some ev) (hev : ev = .nilIface ∨ ∃ te pe, ev = .iface te pe) :
    Calls Tryd.prog 34 #[.string s] w fun e w' => ∃ N, e = .returned (.tuple #[.bool false, .iface 128 (.pointer (some ⟨N, 0, none⟩))]) ∧ w.heap.size ≤ N ∧ w'.heap[N]? = some (.cells #[.string ⟨#[80, 97, 114, 115, 101, 66, 111, 111, 108]⟩, .string s, ev] 142 (0, 0)) ∧ Below w.heap.size w w' := Any.strconv_ParseBool_err Tryd.laysC175 s hlim h ev w hv hev
open Go.RowKit in
theorem Tryd.strconv_ParseBool_err_var (s : ByteArray) (hlim : s.size ≤ 281474976710656) (h : Lib.parseBool s.data.toList = none) (tp : TypeId) (p : Value) (w : World) (hvar : w.var? Tryd.prog "strconv.ErrSyntax" = some #[.iface tp p]) :
    Calls Tryd.prog 34 #[.string s] w fun e w' => ∃ N, e = .returned (.tuple #[.bool false, .iface 128 (.pointer (some ⟨N, 0, none⟩))]) ∧ w.heap.size ≤ N ∧ w'.heap[N]? = some (.cells #[.string ⟨#[80, 97, 114, 115, 101, 66, 111, 111, 108]⟩, .string s, .iface tp p] 142 (0, 0)) ∧ Below w.heap.size w w' := Any.strconv_ParseBool_err_var Tryd.laysC175 s hlim h tp p w hvar
def Tryd.laysM280_ren : Go.Shelf.Ren := ⟨fun | 280 => 68 | 316 => 76 | n => n, fun | 9 => 9 | 168 => 128 | 75 => 59 | 210 => 142 | 3 => 3 | 4 => 4 | 37 => 26 | 0 => 0 | 127 => 149 | 80 => 75 | 5 => 5 | n => n, fun | 16 => 4 | n => n⟩
theorem Tryd.laysM280 : Go.Proofs.LaysM.n280 Tryd.prog Tryd.laysM280_ren := {
  mixed := by kernel_rfl
  f280 := Tryd.func68.trans (congrArg some (by kernel_rfl))
  f316 := Tryd.func76.trans (congrArg some (by kernel_rfl))
  t0 := Tryd.underlying0
  a0 := Tryd.isAgg0
  z0 := Tryd.sizeOf0
  v0 := Tryd.zeroValue0
  t3 := Tryd.underlying3
  a3 := Tryd.isAgg3
  z3 := Tryd.sizeOf3
  v3 := Tryd.zeroValue3
  t4 := Tryd.underlying4
  a4 := Tryd.isAgg4
  z4 := Tryd.sizeOf4
  v4 := Tryd.zeroValue4
  t9 := Tryd.underlying9
  a9 := Tryd.isAgg9
  z9 := Tryd.sizeOf9
  v9 := Tryd.zeroValue9
  t37 := Tryd.underlying26
  a37 := Tryd.isAgg26
  z37 := Tryd.sizeOf26
  v37 := Tryd.zeroValue26
  t75 := Tryd.underlying59
  a75 := Tryd.isAgg59
  z75 := Tryd.sizeOf59
  v75 := Tryd.zeroValue59
  t127 := Tryd.underlying149
  a127 := Tryd.isAgg149
  z127 := Tryd.sizeOf149
  v127 := Tryd.zeroValue149
  t168 := Tryd.underlying128
  a168 := Tryd.isAgg128
  z168 := Tryd.sizeOf128
  v168 := Tryd.zeroValue128
  t210 := Tryd.underlying142
  a210 := Tryd.isAgg142
  z210 := Tryd.sizeOf142
  v210 := Tryd.zeroValue142
  g16 := by kernel_rfl
  t5 := Tryd.underlying5
  a5 := Tryd.isAgg5
  z5 := Tryd.sizeOf5
  v5 := Tryd.zeroValue5
  t80 := Tryd.underlying75
  a80 := Tryd.isAgg75
  z80 := Tryd.sizeOf75
  v80 := Tryd.zeroValue75
  i0 := by kernel_rfl
  i3 := by kernel_rfl
  i4 := by kernel_rfl
  i5 := by kernel_rfl
  i9 := by kernel_rfl
  i37 := by kernel_rfl
  i75 := by kernel_rfl
  i80 := by kernel_rfl
  i127 := by kernel_rfl
  i168 := by kernel_rfl
  i210 := by kernel_rfl
  m16 := by kernel_rfl }
open Go.RowKit in
/-- strconv.rangeError: '&NumError{fn, stringslite.Clone(str), ErrRange}': A POINTER TO A NEW BLOCK that holds fn, str's bytes, and what the variable ErrRange holds. Of what was there nothing has turned. (LAID: no walk: one application.) -/
theorem Tryd.strconv_rangeError (fn s : ByteArray) (ev : Value) (w : World) (hlim : s.size ≤ 281474976710656) (hv : w.cell? ⟨4, 0, none⟩ = some ev) (hev : ev = .nilIface ∨ ∃ te pe, ev = .iface te pe) :
    Calls Tryd.prog 68 #[.string fn, .string s] w fun e w' => ∃ N, e = .returned (.pointer (some ⟨N, 0, none⟩)) ∧ w.heap.size ≤ N ∧ w'.heap[N]? = some (.cells #[.string fn, .string s, ev] 142 (0, 0)) ∧ Below w.heap.size w w' := Any.strconv_rangeError Tryd.laysM280 fn s ev w hlim hv hev
open Go.RowKit in
/-- strconv.toError, at the inner package's ErrRange: 'rangeError(fn, s)' as an error: A *NumError IN A NEW BLOCK. (LAID: no walk: one application.) -/
theorem Tryd.strconv_toError_range (fn s : ByteArray) (base bits : Int) (ev : Value) (w : World) (hlim : s.size ≤ 281474976710656) (hv : w.cell? ⟨4, 0, none⟩ = some ev) (hev : ev = .nilIface ∨ ∃ te pe, ev = .iface te pe) :
    Calls Tryd.prog 61 #[.string fn, .string s, .int .i64 base, .int .i64 bits, .iface 127 (.int .i64 1)] w fun e w' => ∃ N, e = .returned (.iface 128 (.pointer (some ⟨N, 0, none⟩))) ∧ w.heap.size ≤ N ∧ w'.heap[N]? = some (.cells #[.string fn, .string s, ev] 142 (0, 0)) ∧ Below w.heap.size w w' := Any.strconv_toError_range Tryd.laysC245 fn s base bits ev w hlim hv hev
def Tryd.lays199_ren : Go.Shelf.Ren := ⟨fun | 199 => 58 | 261 => 64 | 311 => 72 | 312 => 73 | n => n, fun | 21 => 21 | 4 => 4 | 51 => 71 | 141 => 123 | 0 => 0 | 196 => 134 | 193 => 131 | 3 => 3 | 198 => 136 | 49 => 70 | 194 => 132 | 201 => 139 | 226 => 144 | 46 => 64 | 227 => 145 | n => n, fun | 6 => 2 | n => n⟩
theorem Tryd.lays199 : Go.Proofs.Lays.n199 Tryd.prog Tryd.lays199_ren := {
  mixed := by kernel_rfl
  f199 := Tryd.func58.trans (congrArg some (by kernel_rfl))
  f261 := Tryd.func64.trans (congrArg some (by kernel_rfl))
  f311 := Tryd.func72.trans (congrArg some (by kernel_rfl))
  f312 := Tryd.func73.trans (congrArg some (by kernel_rfl))
  t0 := Tryd.underlying0
  a0 := Tryd.isAgg0
  z0 := Tryd.sizeOf0
  v0 := Tryd.zeroValue0
  t3 := Tryd.underlying3
  a3 := Tryd.isAgg3
  z3 := Tryd.sizeOf3
  v3 := Tryd.zeroValue3
  t4 := Tryd.underlying4
  a4 := Tryd.isAgg4
  z4 := Tryd.sizeOf4
  v4 := Tryd.zeroValue4
  t21 := Tryd.underlying21
  a21 := Tryd.isAgg21
  z21 := Tryd.sizeOf21
  v21 := Tryd.zeroValue21
  t46 := Tryd.underlying64
  a46 := Tryd.isAgg64
  z46 := Tryd.sizeOf64
  v46 := Tryd.zeroValue64
  t49 := Tryd.underlying70
  a49 := Tryd.isAgg70
  z49 := Tryd.sizeOf70
  v49 := Tryd.zeroValue70
  t51 := Tryd.underlying71
  a51 := Tryd.isAgg71
  z51 := Tryd.sizeOf71
  v51 := Tryd.zeroValue71
  t141 := Tryd.underlying123
  a141 := Tryd.isAgg123
  z141 := Tryd.sizeOf123
  v141 := Tryd.zeroValue123
  t193 := Tryd.underlying131
  a193 := Tryd.isAgg131
  z193 := Tryd.sizeOf131
  v193 := Tryd.zeroValue131
  t194 := Tryd.underlying132
  a194 := Tryd.isAgg132
  z194 := Tryd.sizeOf132
  v194 := Tryd.zeroValue132
  t196 := Tryd.underlying134
  a196 := Tryd.isAgg134
  z196 := Tryd.sizeOf134
  v196 := Tryd.zeroValue134
  t198 := Tryd.underlying136
  a198 := Tryd.isAgg136
  z198 := Tryd.sizeOf136
  v198 := Tryd.zeroValue136
  t201 := Tryd.underlying139
  a201 := Tryd.isAgg139
  z201 := Tryd.sizeOf139
  v201 := Tryd.zeroValue139
  t226 := Tryd.underlying144
  a226 := Tryd.isAgg144
  z226 := Tryd.sizeOf144
  v226 := Tryd.zeroValue144
  t227 := Tryd.underlying145
  a227 := Tryd.isAgg145
  z227 := Tryd.sizeOf145
  v227 := Tryd.zeroValue145
  g6 := by kernel_rfl }
open Go.RowKit Go.Lib in
theorem Tryd.unicode_IsSpace (r : Int) (w : World) (h0 : 0 ≤ r) (h : r ≤ 255) :
    Calls Tryd.prog 58 #[.int .i32 r] w fun e w' => e = .returned (.bool (Lib.isSpaceL r)) ∧ w' = w := Any.unicode_IsSpace Tryd.lays199 r w h0 h
def Tryd.lays197_ren : Go.Shelf.Ren := ⟨fun | 197 => 66 | 260 => 75 | n => n, fun | 9 => 9 | 21 => 21 | 3 => 3 | 4 => 4 | 5 => 5 | 105 => 125 | 119 => 114 | 0 => 0 | 46 => 64 | 139 => 148 | 138 => 147 | n => n, fun | 3 => 5 | 4 => 6 | n => n⟩
theorem Tryd.lays197 : Go.Proofs.Lays.n197 Tryd.prog Tryd.lays197_ren := {
  mixed := by kernel_rfl
  f197 := Tryd.func66.trans (congrArg some (by kernel_rfl))
  f260 := Tryd.func75.trans (congrArg some (by kernel_rfl))
  t0 := Tryd.underlying0
  a0 := Tryd.isAgg0
  z0 := Tryd.sizeOf0
  v0 := Tryd.zeroValue0
  t3 := Tryd.underlying3
  a3 := Tryd.isAgg3
  z3 := Tryd.sizeOf3
  v3 := Tryd.zeroValue3
  t4 := Tryd.underlying4
  a4 := Tryd.isAgg4
  z4 := Tryd.sizeOf4
  v4 := Tryd.zeroValue4
  t5 := Tryd.underlying5
  a5 := Tryd.isAgg5
  z5 := Tryd.sizeOf5
  v5 := Tryd.zeroValue5
  t9 := Tryd.underlying9
  a9 := Tryd.isAgg9
  z9 := Tryd.sizeOf9
  v9 := Tryd.zeroValue9
  t21 := Tryd.underlying21
  a21 := Tryd.isAgg21
  z21 := Tryd.sizeOf21
  v21 := Tryd.zeroValue21
  t46 := Tryd.underlying64
  a46 := Tryd.isAgg64
  z46 := Tryd.sizeOf64
  v46 := Tryd.zeroValue64
  t105 := Tryd.underlying125
  a105 := Tryd.isAgg125
  z105 := Tryd.sizeOf125
  v105 := Tryd.zeroValue125
  t119 := Tryd.underlying114
  a119 := Tryd.isAgg114
  z119 := Tryd.sizeOf114
  t138 := Tryd.underlying147
  a138 := Tryd.isAgg147
  z138 := Tryd.sizeOf147
  v138 := Tryd.zeroValue147
  t139 := Tryd.underlying148
  a139 := Tryd.isAgg148
  z139 := Tryd.sizeOf148
  v139 := Tryd.zeroValue148
  g3 := by kernel_rfl
  g4 := by kernel_rfl }
open Go.RowKit Go.Lib in
/-- unicode/utf8.DecodeRuneInString: "DecodeRuneInString is like DecodeRune but its input is a string.": ("DecodeRune unpacks the first UTF-8 encoding in p and returns the rune and its width in bytes."): WHERE s BEGINS WITH AN ASCII BYTE x: (x, 1). (LAID: no walk: one application.) -/
theorem Tryd.utf8_DecodeRuneInString_ascii (s : ByteArray) (x : UInt8) (w : World) (h0 : s.data.toList[0]? = some x) (hx : x.toNat < 128) :
    Calls Tryd.prog 66 #[.string s] w fun e w' => e = .returned (.tuple #[.int .i32 x.toNat, .int .i64 1]) ∧ w' = w := Any.utf8_DecodeRuneInString_ascii Tryd.lays197 s x w h0 hx
def Tryd.lays260_ren : Go.Shelf.Ren := ⟨fun | 260 => 75 | n => n, fun | 9 => 9 | 21 => 21 | 3 => 3 | 4 => 4 | 5 => 5 | 119 => 114 | 0 => 0 | 46 => 64 | 139 => 148 | 138 => 147 | n => n, fun | 3 => 5 | 4 => 6 | n => n⟩
theorem Tryd.lays260 : Go.Proofs.Lays.n260 Tryd.prog Tryd.lays260_ren := {
  mixed := by kernel_rfl
  f260 := Tryd.func75.trans (congrArg some (by kernel_rfl))
  t0 := Tryd.underlying0
  a0 := Tryd.isAgg0
  z0 := Tryd.sizeOf0
  v0 := Tryd.zeroValue0
  t3 := Tryd.underlying3
  a3 := Tryd.isAgg3
  z3 := Tryd.sizeOf3
  v3 := Tryd.zeroValue3
  t4 := Tryd.underlying4
  a4 := Tryd.isAgg4
  z4 := Tryd.sizeOf4
  v4 := Tryd.zeroValue4
  t5 := Tryd.underlying5
  a5 := Tryd.isAgg5
  z5 := Tryd.sizeOf5
  v5 := Tryd.zeroValue5
  t9 := Tryd.underlying9
  a9 := Tryd.isAgg9
  z9 := Tryd.sizeOf9
  v9 := Tryd.zeroValue9
  t21 := Tryd.underlying21
  a21 := Tryd.isAgg21
  z21 := Tryd.sizeOf21
  v21 := Tryd.zeroValue21
  t46 := Tryd.underlying64
  a46 := Tryd.isAgg64
  z46 := Tryd.sizeOf64
  v46 := Tryd.zeroValue64
  t119 := Tryd.underlying114
  a119 := Tryd.isAgg114
  z119 := Tryd.sizeOf114
  t138 := Tryd.underlying147
  a138 := Tryd.isAgg147
  z138 := Tryd.sizeOf147
  v138 := Tryd.zeroValue147
  t139 := Tryd.underlying148
  a139 := Tryd.isAgg148
  z139 := Tryd.sizeOf148
  v139 := Tryd.zeroValue148
  g3 := by kernel_rfl
  g4 := by kernel_rfl }
open Go.RowKit Go.Lib in
theorem Tryd.utf8_decodeRuneInStringSlow (s : ByteArray) (w : World) (hT : Lib.Utf8Tabs 5 6 w) :
    Calls Tryd.prog 75 #[.string s] w fun e w' => e = .returned (.tuple #[.int .i32 (Lib.decodeGo s).1, .int .i64 (Lib.decodeGo s).2]) ∧ Below w.heap.size w w' := Any.utf8_decodeRuneInStringSlow Tryd.lays260 s w hT
open Go.RowKit Go.Lib in
/-- **unicode/utf8.DecodeRuneInString AT EVERY STRING.** (LAID: no walk: one application.) -/
theorem Tryd.utf8_DecodeRuneInString (s : ByteArray) (w : World) (hT : Lib.Utf8Tabs 5 6 w) :
    Calls Tryd.prog 66 #[.string s] w fun e w' => e = .returned (.tuple #[.int .i32 (Lib.decodeGo s).1, .int .i64 (Lib.decodeGo s).2]) ∧ Below w.heap.size w w' := Any.utf8_DecodeRuneInString Tryd.lays197 s w hT
def Tryd.lays311_ren : Go.Shelf.Ren := ⟨fun | 311 => 72 | n => n, fun | 193 => 131 | 49 => 70 | 4 => 4 | 3 => 3 | 0 => 0 | 226 => 144 | 198 => 136 | 46 => 64 | n => n, fun | n => n⟩
theorem Tryd.lays311 : Go.Proofs.Lays.n311 Tryd.prog Tryd.lays311_ren := {
  mixed := by kernel_rfl
  f311 := Tryd.func72.trans (congrArg some (by kernel_rfl))
  t0 := Tryd.underlying0
  a0 := Tryd.isAgg0
  z0 := Tryd.sizeOf0
  v0 := Tryd.zeroValue0
  t3 := Tryd.underlying3
  a3 := Tryd.isAgg3
  z3 := Tryd.sizeOf3
  v3 := Tryd.zeroValue3
  t4 := Tryd.underlying4
  a4 := Tryd.isAgg4
  z4 := Tryd.sizeOf4
  v4 := Tryd.zeroValue4
  t46 := Tryd.underlying64
  a46 := Tryd.isAgg64
  z46 := Tryd.sizeOf64
  v46 := Tryd.zeroValue64
  t49 := Tryd.underlying70
  a49 := Tryd.isAgg70
  z49 := Tryd.sizeOf70
  v49 := Tryd.zeroValue70
  t193 := Tryd.underlying131
  a193 := Tryd.isAgg131
  z193 := Tryd.sizeOf131
  v193 := Tryd.zeroValue131
  t198 := Tryd.underlying136
  a198 := Tryd.isAgg136
  z198 := Tryd.sizeOf136
  v198 := Tryd.zeroValue136
  t226 := Tryd.underlying144
  a226 := Tryd.isAgg144
  z226 := Tryd.sizeOf144
  v226 := Tryd.zeroValue144 }
open Go.RowKit Go.Lib in
theorem Tryd.unicode_is16_white (R oR : Nat) (z : Nat) (w : World) (hz : z < 65536) (hz0 : 255 < z) (c6 : w.cell? ⟨R, oR + 6, none⟩ = some (.int .u16 160)) (c7 : w.cell? ⟨R, oR + 7, none⟩ = some (.int .u16 5760)) (c8 : w.cell? ⟨R, oR + 8, none⟩ = some (.int .u16 5600)) (c9 : w.cell? ⟨R, oR + 9, none⟩ = some (.int .u16 8192)) (c10 : w.cell? ⟨R, oR + 10, none⟩ = some (.int .u16 8202)) (c11 : w.cell? ⟨R, oR + 11, none⟩ = some (.int .u16 1)) (c12 : w.cell? ⟨R, oR + 12, none⟩ = some (.int .u16 8232)) (c13 : w.cell? ⟨R, oR + 13, none⟩ = some (.int .u16 8233)) (c14 : w.cell? ⟨R, oR + 14, none⟩ = some (.int .u16 1)) (c15 : w.cell? ⟨R, oR + 15, none⟩ = some (.int .u16 8239)) (c16 : w.cell? ⟨R, oR + 16, none⟩ = some (.int .u16 8287)) (c17 : w.cell? ⟨R, oR + 17, none⟩ = some (.int .u16 48)) (c18 : w.cell? ⟨R, oR + 18, none⟩ = some (.int .u16 12288)) (c19 : w.cell? ⟨R, oR + 19, none⟩ = some (.int .u16 12288)) (c20 : w.cell? ⟨R, oR + 20, none⟩ = some (.int .u16 1)) :
    Calls Tryd.prog 72 #[.slice (some ⟨R, oR + 6, none⟩) 5 5, .int .u16 z] w fun e w' => e = .returned (.bool (Lib.isSpaceR z)) ∧ Below w.heap.size w w' := Any.unicode_is16_white Tryd.lays311 R oR z w hz hz0 c6 c7 c8 c9 c10 c11 c12 c13 c14 c15 c16 c17 c18 c19 c20
def Tryd.lays261_ren : Go.Shelf.Ren := ⟨fun | 261 => 64 | 311 => 72 | 312 => 73 | n => n, fun | 141 => 123 | 21 => 21 | 4 => 4 | 0 => 0 | 196 => 134 | 193 => 131 | 3 => 3 | 51 => 71 | 198 => 136 | 49 => 70 | 194 => 132 | 201 => 139 | 226 => 144 | 46 => 64 | 227 => 145 | n => n, fun | n => n⟩
theorem Tryd.lays261 : Go.Proofs.Lays.n261 Tryd.prog Tryd.lays261_ren := {
  mixed := by kernel_rfl
  f261 := Tryd.func64.trans (congrArg some (by kernel_rfl))
  f311 := Tryd.func72.trans (congrArg some (by kernel_rfl))
  f312 := Tryd.func73.trans (congrArg some (by kernel_rfl))
  t0 := Tryd.underlying0
  a0 := Tryd.isAgg0
  z0 := Tryd.sizeOf0
  v0 := Tryd.zeroValue0
  t3 := Tryd.underlying3
  a3 := Tryd.isAgg3
  z3 := Tryd.sizeOf3
  v3 := Tryd.zeroValue3
  t4 := Tryd.underlying4
  a4 := Tryd.isAgg4
  z4 := Tryd.sizeOf4
  v4 := Tryd.zeroValue4
  t21 := Tryd.underlying21
  a21 := Tryd.isAgg21
  z21 := Tryd.sizeOf21
  v21 := Tryd.zeroValue21
  t46 := Tryd.underlying64
  a46 := Tryd.isAgg64
  z46 := Tryd.sizeOf64
  v46 := Tryd.zeroValue64
  t49 := Tryd.underlying70
  a49 := Tryd.isAgg70
  z49 := Tryd.sizeOf70
  v49 := Tryd.zeroValue70
  t51 := Tryd.underlying71
  a51 := Tryd.isAgg71
  z51 := Tryd.sizeOf71
  v51 := Tryd.zeroValue71
  t141 := Tryd.underlying123
  a141 := Tryd.isAgg123
  z141 := Tryd.sizeOf123
  v141 := Tryd.zeroValue123
  t193 := Tryd.underlying131
  a193 := Tryd.isAgg131
  z193 := Tryd.sizeOf131
  v193 := Tryd.zeroValue131
  t194 := Tryd.underlying132
  a194 := Tryd.isAgg132
  z194 := Tryd.sizeOf132
  v194 := Tryd.zeroValue132
  t196 := Tryd.underlying134
  a196 := Tryd.isAgg134
  z196 := Tryd.sizeOf134
  v196 := Tryd.zeroValue134
  t198 := Tryd.underlying136
  a198 := Tryd.isAgg136
  z198 := Tryd.sizeOf136
  v198 := Tryd.zeroValue136
  t201 := Tryd.underlying139
  a201 := Tryd.isAgg139
  z201 := Tryd.sizeOf139
  v201 := Tryd.zeroValue139
  t226 := Tryd.underlying144
  a226 := Tryd.isAgg144
  z226 := Tryd.sizeOf144
  v226 := Tryd.zeroValue144
  t227 := Tryd.underlying145
  a227 := Tryd.isAgg145
  z227 := Tryd.sizeOf145
  v227 := Tryd.zeroValue145 }
open Go.RowKit Go.Lib in
/-- unicode.isExcludingLatin(White_Space, r), r beyond U+00FF or negative. (LAID: no walk: one application.) -/
theorem Tryd.unicode_isExcludingLatin_white (T oT R oR : Nat) (r : Int) (w : World) (hlo : -2147483648 ≤ r) (hhi : r ≤ 2147483647) (hr : r < 0 ∨ 255 < r) (h2 : w.cell? ⟨T, oT, none⟩ = some (.slice (some ⟨R, oR, none⟩) 7 7)) (h3 : w.cell? ⟨T, oT + 1, none⟩ = some (.slice none 0 0)) (h4 : w.cell? ⟨T, oT + 2, none⟩ = some (.int .i64 2)) (h5 : ∀ i, i < 21 → w.cell? ⟨R, oR + i, none⟩ = some (.int .u16 (whiteT.getD i 0))) :
    Calls Tryd.prog 64 #[.pointer (some ⟨T, oT, none⟩), .int .i32 r] w fun e w' => e = .returned (.bool (Lib.isSpaceZ r)) ∧ Below w.heap.size w w' := Any.unicode_isExcludingLatin_white Tryd.lays261 T oT R oR r w hlo hhi hr h2 h3 h4 h5
open Go.RowKit Go.Lib in
/-- **unicode.IsSpace AT EVERY int32.** (LAID: no walk: one application.) -/
theorem Tryd.unicode_IsSpace_any (r : Int) (w : World) (hlo : -2147483648 ≤ r) (hhi : r ≤ 2147483647) (hW : Lib.WhiteTab 2 w) :
    Calls Tryd.prog 58 #[.int .i32 r] w fun e w' => e = .returned (.bool (Lib.isSpaceZ r)) ∧ Below w.heap.size w w' := Any.unicode_IsSpace_any Tryd.lays199 r w hlo hhi hW
def Tryd.lays271_ren : Go.Shelf.Ren := ⟨fun | 271 => 74 | 120 => 78 | 197 => 66 | 260 => 75 | n => n, fun | 9 => 9 | 21 => 21 | 3 => 3 | 4 => 4 | 5 => 5 | 105 => 125 | 119 => 114 | 0 => 0 | 46 => 64 | 139 => 148 | 138 => 147 | n => n, fun | 3 => 5 | 4 => 6 | n => n⟩
theorem Tryd.lays271 : Go.Proofs.Lays.n271 Tryd.prog Tryd.lays271_ren := {
  mixed := by kernel_rfl
  f120 := Tryd.func78.trans (congrArg some (by kernel_rfl))
  f197 := Tryd.func66.trans (congrArg some (by kernel_rfl))
  f260 := Tryd.func75.trans (congrArg some (by kernel_rfl))
  f271 := Tryd.func74.trans (congrArg some (by kernel_rfl))
  t0 := Tryd.underlying0
  a0 := Tryd.isAgg0
  z0 := Tryd.sizeOf0
  v0 := Tryd.zeroValue0
  t3 := Tryd.underlying3
  a3 := Tryd.isAgg3
  z3 := Tryd.sizeOf3
  v3 := Tryd.zeroValue3
  t4 := Tryd.underlying4
  a4 := Tryd.isAgg4
  z4 := Tryd.sizeOf4
  v4 := Tryd.zeroValue4
  t5 := Tryd.underlying5
  a5 := Tryd.isAgg5
  z5 := Tryd.sizeOf5
  v5 := Tryd.zeroValue5
  t9 := Tryd.underlying9
  a9 := Tryd.isAgg9
  z9 := Tryd.sizeOf9
  v9 := Tryd.zeroValue9
  t21 := Tryd.underlying21
  a21 := Tryd.isAgg21
  z21 := Tryd.sizeOf21
  v21 := Tryd.zeroValue21
  t46 := Tryd.underlying64
  a46 := Tryd.isAgg64
  z46 := Tryd.sizeOf64
  v46 := Tryd.zeroValue64
  t105 := Tryd.underlying125
  a105 := Tryd.isAgg125
  z105 := Tryd.sizeOf125
  v105 := Tryd.zeroValue125
  t119 := Tryd.underlying114
  a119 := Tryd.isAgg114
  z119 := Tryd.sizeOf114
  t138 := Tryd.underlying147
  a138 := Tryd.isAgg147
  z138 := Tryd.sizeOf147
  v138 := Tryd.zeroValue147
  t139 := Tryd.underlying148
  a139 := Tryd.isAgg148
  z139 := Tryd.sizeOf148
  v139 := Tryd.zeroValue148
  g3 := by kernel_rfl
  g4 := by kernel_rfl }
open Go.RowKit Go.Lib in
/-- **unicode/utf8.DecodeLastRuneInString AT EVERY STRING.** (LAID: no walk: one application.) -/
theorem Tryd.utf8_DecodeLastRuneInString (s : ByteArray) (w : World) (hs : s.size ≤ 9223372036854775807) (hT : Lib.Utf8Tabs 5 6 w) :
    Calls Tryd.prog 74 #[.string s] w fun e w' => e = .returned (.tuple #[.int .i32 (Lib.decodeLastL s.data.toList).1, .int .i64 (Lib.decodeLastL s.data.toList).2]) ∧ Below w.heap.size w w' := Any.utf8_DecodeLastRuneInString Tryd.lays271 s w hs hT
open Go.RowKit in
theorem Tryd.strings_TrimSpace_any (s : ByteArray) (w : World) (hs : s.size ≤ 9223372036854775807) (htab : Lib.TabIs Tryd.prog w "strings.asciiSpace" .u8 Lib.asciiSpaceTab) (hU8 : Lib.Utf8Tabs 5 6 w) (hWS : Lib.WhiteTab 2 w) :
    Calls Tryd.prog 31 #[.string s] w fun e w' => e = .returned (.string ⟨(Lib.trimSpaceD s.data.toList).toArray⟩) ∧ Below w.heap.size w w' := Any.strings_TrimSpace_any Tryd.lays163 Tryd.Space_Extra_163 s w hs htab hU8 hWS
open Go.RowKit Go.Lib in
theorem Tryd.unicode_is16_white_d (R oR : Nat) (z : Nat) (w : World) (hz : z < 65536) (hz0 : 255 < z) (c6 : w.cell? ⟨R, oR + 6, none⟩ = some (.int .u16 160)) (c7 : w.cell? ⟨R, oR + 7, none⟩ = some (.int .u16 5760)) (c8 : w.cell? ⟨R, oR + 8, none⟩ = some (.int .u16 5600)) (c9 : w.cell? ⟨R, oR + 9, none⟩ = some (.int .u16 8192)) (c10 : w.cell? ⟨R, oR + 10, none⟩ = some (.int .u16 8202)) (c11 : w.cell? ⟨R, oR + 11, none⟩ = some (.int .u16 1)) (c12 : w.cell? ⟨R, oR + 12, none⟩ = some (.int .u16 8232)) (c13 : w.cell? ⟨R, oR + 13, none⟩ = some (.int .u16 8233)) (c14 : w.cell? ⟨R, oR + 14, none⟩ = some (.int .u16 1)) (c15 : w.cell? ⟨R, oR + 15, none⟩ = some (.int .u16 8239)) (c16 : w.cell? ⟨R, oR + 16, none⟩ = some (.int .u16 8287)) (c17 : w.cell? ⟨R, oR + 17, none⟩ = some (.int .u16 48)) (c18 : w.cell? ⟨R, oR + 18, none⟩ = some (.int .u16 12288)) (c19 : w.cell? ⟨R, oR + 19, none⟩ = some (.int .u16 12288)) (c20 : w.cell? ⟨R, oR + 20, none⟩ = some (.int .u16 1)) :
    Calls Tryd.prog 72 #[.slice (some ⟨R, oR + 6, none⟩) 5 5, .int .u16 z] w fun e w' => e = .returned (.bool (Lib.isSpaceR z)) ∧ ∃ q, w' = w.drewN q := Any.unicode_is16_white_d Tryd.lays311 R oR z w hz hz0 c6 c7 c8 c9 c10 c11 c12 c13 c14 c15 c16 c17 c18 c19 c20
open Go.RowKit Go.Lib in
/-- unicode.isExcludingLatin(White_Space, r), r beyond U+00FF or negative. (LAID: no walk: one application.) -/
theorem Tryd.unicode_isExcludingLatin_white_d (T oT R oR : Nat) (r : Int) (w : World) (hlo : -2147483648 ≤ r) (hhi : r ≤ 2147483647) (hr : r < 0 ∨ 255 < r) (h2 : w.cell? ⟨T, oT, none⟩ = some (.slice (some ⟨R, oR, none⟩) 7 7)) (h3 : w.cell? ⟨T, oT + 1, none⟩ = some (.slice none 0 0)) (h4 : w.cell? ⟨T, oT + 2, none⟩ = some (.int .i64 2)) (h5 : ∀ i, i < 21 → w.cell? ⟨R, oR + i, none⟩ = some (.int .u16 (whiteT.getD i 0))) :
    Calls Tryd.prog 64 #[.pointer (some ⟨T, oT, none⟩), .int .i32 r] w fun e w' => e = .returned (.bool (Lib.isSpaceZ r)) ∧ ∃ q, w' = w.drewN q := Any.unicode_isExcludingLatin_white_d Tryd.lays261 T oT R oR r w hlo hhi hr h2 h3 h4 h5
open Go.RowKit Go.Lib in
/-- **unicode.IsSpace AT EVERY int32.** (LAID: no walk: one application.) -/
theorem Tryd.unicode_IsSpace_any_d (r : Int) (w : World) (hlo : -2147483648 ≤ r) (hhi : r ≤ 2147483647) (hW : Lib.WhiteTab 2 w) :
    Calls Tryd.prog 58 #[.int .i32 r] w fun e w' => e = .returned (.bool (Lib.isSpaceZ r)) ∧ ∃ q, w' = w.drewN q := Any.unicode_IsSpace_any_d Tryd.lays199 r w hlo hhi hW
open Go.RowKit Go.Lib in
theorem Tryd.unicode_is16_any (T : Array Rg) (R oR cap : Nat) (z : Nat) (w : World) (hz : z < 65536) (hT : RgTab .u16 R oR T w) (hok : RgOk 65536 T) (hn : T.size ≤ 1000000000) :
    Calls Tryd.prog 72 #[.slice (some ⟨R, oR, none⟩) T.size cap, .int .u16 z] w fun e w' => e = .returned (.bool (is16Go T z)) ∧ ∃ q, w' = w.drewN q := Any.unicode_is16_any Tryd.lays311 T R oR cap z w hz hT hok hn
def Tryd.lays312_ren : Go.Shelf.Ren := ⟨fun | 312 => 73 | n => n, fun | 194 => 132 | 51 => 71 | 4 => 4 | 3 => 3 | 0 => 0 | 227 => 145 | 201 => 139 | 46 => 64 | n => n, fun | n => n⟩
theorem Tryd.lays312 : Go.Proofs.Lays.n312 Tryd.prog Tryd.lays312_ren := {
  mixed := by kernel_rfl
  f312 := Tryd.func73.trans (congrArg some (by kernel_rfl))
  t0 := Tryd.underlying0
  a0 := Tryd.isAgg0
  z0 := Tryd.sizeOf0
  v0 := Tryd.zeroValue0
  t3 := Tryd.underlying3
  a3 := Tryd.isAgg3
  z3 := Tryd.sizeOf3
  v3 := Tryd.zeroValue3
  t4 := Tryd.underlying4
  a4 := Tryd.isAgg4
  z4 := Tryd.sizeOf4
  v4 := Tryd.zeroValue4
  t46 := Tryd.underlying64
  a46 := Tryd.isAgg64
  z46 := Tryd.sizeOf64
  v46 := Tryd.zeroValue64
  t51 := Tryd.underlying71
  a51 := Tryd.isAgg71
  z51 := Tryd.sizeOf71
  v51 := Tryd.zeroValue71
  t194 := Tryd.underlying132
  a194 := Tryd.isAgg132
  z194 := Tryd.sizeOf132
  v194 := Tryd.zeroValue132
  t201 := Tryd.underlying139
  a201 := Tryd.isAgg139
  z201 := Tryd.sizeOf139
  v201 := Tryd.zeroValue139
  t227 := Tryd.underlying145
  a227 := Tryd.isAgg145
  z227 := Tryd.sizeOf145
  v227 := Tryd.zeroValue145 }
open Go.RowKit Go.Lib in
theorem Tryd.unicode_is32_any (T : Array Rg) (R oR cap : Nat) (z : Nat) (w : World) (hz : z < 4294967296) (hT : RgTab .u32 R oR T w) (hok : RgOk 4294967296 T) (hn : T.size ≤ 1000000000) :
    Calls Tryd.prog 73 #[.slice (some ⟨R, oR, none⟩) T.size cap, .int .u32 z] w fun e w' => e = .returned (.bool (is32Go T z)) ∧ Below w.heap.size w w' := Any.unicode_is32_any Tryd.lays312 T R oR cap z w hz hT hok hn
open Go.RowKit Go.Lib in
theorem Tryd.unicode_isExcludingLatin_any (Tb oT : Nat) (T : RTab) (r : Int) (w : World) (hlo : -2147483648 ≤ r) (hhi : r ≤ 2147483647) (hA : RTabAt Tb oT T w) (hok : RTabOk T) :
    Calls Tryd.prog 64 #[.pointer (some ⟨Tb, oT, none⟩), .int .i32 r] w fun e w' => e = .returned (.bool (exclGo T r)) ∧ Below w.heap.size w w' := Any.unicode_isExcludingLatin_any Tryd.lays261 Tb oT T r w hlo hhi hA hok
def Tryd.laysPa42_ren : Go.Shelf.Ren := ⟨fun | 42 => 55 | n => n, fun | 3 => 3 | n => n, fun | n => n⟩
theorem Tryd.laysPa42 : Go.Proofs.Lays.p42 Tryd.prog Tryd.laysPa42_ren := {
  mixed := by kernel_rfl
  f42 := Tryd.func55.trans (congrArg some (by kernel_rfl))
  t3 := Tryd.underlying3
  a3 := Tryd.isAgg3
  z3 := Tryd.sizeOf3
  v3 := Tryd.zeroValue3 }
open Go.RowKit Go.Lib in
/-- encoding/hex.DecodedLen: "DecodedLen returns the length of a decoding of x source bytes. Specifically, it returns x / 2.": for 0 ≤ x. (LAID: no walk: one application.) -/
theorem Tryd.hex_DecodedLen (x : Int) (h0 : 0 ≤ x) (h1 : x < 9223372036854775808) (w : World) :
    Calls Tryd.prog 55 #[.int .i64 x] w fun e w' => e = .returned (.int .i64 (x / 2)) ∧ w' = w := Any.hex_DecodedLen Tryd.laysPa42 x h0 h1 w
def Tryd.laysPa44_ren : Go.Shelf.Ren := ⟨fun | 44 => 56 | n => n, fun | 30 => 26 | 3 => 3 | 35 => 59 | 4 => 4 | 0 => 0 | 5 => 5 | 9 => 9 | 47 => 121 | 46 => 64 | 45 => 75 | n => n, fun | 0 => 1 | n => n⟩
theorem Tryd.laysPa44 : Go.Proofs.Lays.p44 Tryd.prog Tryd.laysPa44_ren := {
  mixed := by kernel_rfl
  f44 := Tryd.func56.trans (congrArg some (by kernel_rfl))
  t0 := Tryd.underlying0
  a0 := Tryd.isAgg0
  z0 := Tryd.sizeOf0
  v0 := Tryd.zeroValue0
  t3 := Tryd.underlying3
  a3 := Tryd.isAgg3
  z3 := Tryd.sizeOf3
  v3 := Tryd.zeroValue3
  t4 := Tryd.underlying4
  a4 := Tryd.isAgg4
  z4 := Tryd.sizeOf4
  v4 := Tryd.zeroValue4
  t5 := Tryd.underlying5
  a5 := Tryd.isAgg5
  z5 := Tryd.sizeOf5
  v5 := Tryd.zeroValue5
  t9 := Tryd.underlying9
  a9 := Tryd.isAgg9
  z9 := Tryd.sizeOf9
  v9 := Tryd.zeroValue9
  t30 := Tryd.underlying26
  a30 := Tryd.isAgg26
  z30 := Tryd.sizeOf26
  v30 := Tryd.zeroValue26
  t35 := Tryd.underlying59
  a35 := Tryd.isAgg59
  z35 := Tryd.sizeOf59
  v35 := Tryd.zeroValue59
  t45 := Tryd.underlying75
  a45 := Tryd.isAgg75
  z45 := Tryd.sizeOf75
  v45 := Tryd.zeroValue75
  t46 := Tryd.underlying64
  a46 := Tryd.isAgg64
  z46 := Tryd.sizeOf64
  v46 := Tryd.zeroValue64
  t47 := Tryd.underlying121
  a47 := Tryd.isAgg121
  z47 := Tryd.sizeOf121
  v47 := Tryd.zeroValue121
  g0 := by kernel_rfl }
open Go.RowKit Go.Lib in
/-- encoding/hex.Decode, FOR EVERY src THAT IS NOT nil: "Decode decodes src into DecodedLen(len(src)) bytes, returning the actual number of bytes written to dst. Decode expects that src contains only hexadecimal characters and that src has even length. If the input is malformed, Decode returns the number of bytes decoded before the error.": dst: nd places from place od on of a row (block bd), with room for len(src) / 2 bytes; src: n cells of ANOTHER block, holding the numbers xs, each a byte's; 'ev': what the variable encoding/hex.ErrLength holds. IT RETURNS (how many bytes 'Hx.decode' gives, the error by how it ends: nil ¦ InvalidByteError(c) ¦ ErrLength's content); THE ROW THEN HOLDS those bytes from place od on ('Hx.rowP'); nothing else has turned. (LAID: no walk: one application.) -/
theorem Tryd.hex_Decode (bd od nd cd N : Nat) (f : Nat → Value) (bs os n cs : Nat) (xs : List Int) (w : World) (ev : Value) (hx : xs.length = n) (hr : ∀ i, i < n → 0 ≤ xs.getD i 0 ∧ xs.getD i 0 < 256) (hsrc : ∀ i, i < n → w.cell? ⟨bs, os + i, none⟩ = some (.int .u8 (xs.getD i 0))) (hrow : w.rowIs bd 5 N f) (hfit : od + nd ≤ N) (hlen : n / 2 ≤ nd) (hne : bd ≠ bs) (hbig : n ≤ 4611686018427387903) (hE : w.cell? ⟨1, 0, none⟩ = some ev) (hgb : 1 ≠ bd) :
    Calls Tryd.prog 56 #[.slice (some ⟨bd, od, none⟩) nd cd, .slice (some ⟨bs, os, none⟩) n cs] w fun e w' =>
      e = .returned (.tuple #[.int .i64 ((Hx.decode (Lib.bytesOf xs)).1.length : Int), Hx.errVal 121 ev (Hx.decode (Lib.bytesOf xs)).2]) ∧ w'.rowIs bd 5 N (Hx.rowP f od (Hx.decode (Lib.bytesOf xs)).1) ∧ w.grownBy w' (some bd) := Any.hex_Decode Tryd.laysPa44 bd od nd cd N f bs os n cs xs w ev hx hr hsrc hrow hfit hlen hne hbig hE hgb
def Tryd.laysPah43_ren : Go.Shelf.Ren := ⟨fun | 43 => 30 | 42 => 55 | 44 => 56 | n => n, fun | 9 => 9 | 30 => 26 | 35 => 59 | 3 => 3 | 38 => 110 | 4 => 4 | 0 => 0 | 5 => 5 | 47 => 121 | 46 => 64 | 45 => 75 | n => n, fun | 0 => 1 | n => n⟩
theorem Tryd.laysPah43 : Go.Proofs.Lays.ph43 Tryd.prog Tryd.laysPah43_ren := {
  mixed := by kernel_rfl
  f42 := Tryd.func55.trans (congrArg some (by kernel_rfl))
  f43 := Tryd.func30.trans (congrArg some (by kernel_rfl))
  f44 := Tryd.func56.trans (congrArg some (by kernel_rfl))
  t0 := Tryd.underlying0
  a0 := Tryd.isAgg0
  z0 := Tryd.sizeOf0
  v0 := Tryd.zeroValue0
  t3 := Tryd.underlying3
  a3 := Tryd.isAgg3
  z3 := Tryd.sizeOf3
  v3 := Tryd.zeroValue3
  t4 := Tryd.underlying4
  a4 := Tryd.isAgg4
  z4 := Tryd.sizeOf4
  v4 := Tryd.zeroValue4
  t5 := Tryd.underlying5
  a5 := Tryd.isAgg5
  z5 := Tryd.sizeOf5
  v5 := Tryd.zeroValue5
  t9 := Tryd.underlying9
  a9 := Tryd.isAgg9
  z9 := Tryd.sizeOf9
  v9 := Tryd.zeroValue9
  t30 := Tryd.underlying26
  a30 := Tryd.isAgg26
  z30 := Tryd.sizeOf26
  v30 := Tryd.zeroValue26
  t35 := Tryd.underlying59
  a35 := Tryd.isAgg59
  z35 := Tryd.sizeOf59
  v35 := Tryd.zeroValue59
  t38 := Tryd.underlying110
  a38 := Tryd.isAgg110
  z38 := Tryd.sizeOf110
  v38 := Tryd.zeroValue110
  t45 := Tryd.underlying75
  a45 := Tryd.isAgg75
  z45 := Tryd.sizeOf75
  v45 := Tryd.zeroValue75
  t46 := Tryd.underlying64
  a46 := Tryd.isAgg64
  z46 := Tryd.sizeOf64
  v46 := Tryd.zeroValue64
  t47 := Tryd.underlying121
  a47 := Tryd.isAgg121
  z47 := Tryd.sizeOf121
  v47 := Tryd.zeroValue121
  g0 := by kernel_rfl
  info5 := by kernel_rfl }
open Go.RowKit Go.Lib in
/-- encoding/hex.DecodeString, FOR EVERY s: "DecodeString returns the bytes represented by the hexadecimal string s. DecodeString expects that src contains only hexadecimal characters and that src has even length. If the input is malformed, DecodeString returns the bytes decoded before the error.": 'ev': what the variable encoding/hex.ErrLength holds. IT RETURNS (a slice at the head of A NEW BLOCK, the first that the call lays, of as many bytes as 'Hx.decode s' gives, capacity len(s) / 2; the error by how the decoding ends: nil ¦ InvalidByteError(c) ¦ ErrLength's content); THAT BLOCK IS A ROW WHICH HOLDS THOSE BYTES ('Hx.rowP'); what was there before the call is as it was ('Below'). IT ASKS len(s) ≤ 2^48. (LAID: no walk: one application.) -/
theorem Tryd.hex_DecodeString (s : ByteArray) (w : World) (ev : Value) (hE : w.cell? ⟨1, 0, none⟩ = some ev) (hbig : s.size ≤ 281474976710656) :
    Calls Tryd.prog 30 #[.string s] w fun e w' =>
      e = .returned (.tuple #[.slice (some ⟨w.heap.size, 0, none⟩) (Hx.decode s.data.toList).1.length (s.size / 2), Hx.errVal 121 ev (Hx.decode s.data.toList).2]) ∧
      w'.rowIs w.heap.size 5 (s.size / 2) (Hx.rowP (fun _ => .int .u8 0) 0 (Hx.decode s.data.toList).1) ∧ Below w.heap.size w w' := Any.hex_DecodeString Tryd.laysPah43 s w ev hE hbig
open Go.RowKit Go.Lib in
/-- encoding/hex.DecodeString: the result slice OWNS the bytes decoded. (LAID: no walk: one application.) -/
theorem Tryd.hex_DecodeString_owns (s : ByteArray) (w : World) (ev : Value) (hE : w.cell? ⟨1, 0, none⟩ = some ev) (hbig : s.size ≤ 281474976710656) :
    Calls Tryd.prog 30 #[.string s] w fun e w' => ∃ v, e = .returned (.tuple #[v, Hx.errVal 121 ev (Hx.decode s.data.toList).2]) ∧
      w'.ownsRow w.heap.size 5 1 v (Hx.decode s.data.toList).1.length ((Hx.decode s.data.toList).1.map fun b => Value.int .u8 (b.toNat : Int)) ∧ Below w.heap.size w w' := Any.hex_DecodeString_owns Tryd.laysPah43 s w ev hE hbig
open Go.RowKit Go.Lib in
/-- encoding/hex.Decode AT A src THAT IS nil: nothing is written; it returns (0, nil). (dst: whatever value.) (LAID: no walk: one application.) -/
theorem Tryd.hex_Decode_nil (dst : Value) (w : World) :
    Calls Tryd.prog 56 #[dst, .slice none 0 0] w fun e w' => e = .returned (.tuple #[.int .i64 0, .nilIface]) ∧ w' = w := Any.hex_Decode_nil Tryd.laysPa44 dst w
end Go.Proofs
