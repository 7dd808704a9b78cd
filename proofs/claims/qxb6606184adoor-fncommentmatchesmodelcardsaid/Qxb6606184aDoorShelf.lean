/-
  DERIVED: THE SHELF's CONTRACTS AT THIS DUMP, IN PLAIN WORDS (tools/lay-plain.mjs out of 'Qxb6606184aDoorShelf.lean', which tools/lay-shelf.mjs wrote): THE SAME DECLARATIONS UNDER THE SAME NAMES: 'import', 'namespace', 'open', 'def', 'theorem' AND NOTHING ELSE: no command of the shelf's: FOR A HAND-IN. Each laying: the table of numbers ('.._ren') and one theorem, a field a fact of the dump's own or the kernel's comparison; each contract: ONE APPLICATION.
-/
import Derived.Shelf.Small.Utf8
import Derived.Shelf.Small.Strs
import Derived.Shelf.Strconv.Atoi
import Derived.Shelf.Strings.Search1
import Derived.Shelf.Strings.Search2
import Derived.Shelf.Strings.Search3
import Derived.Shelf.LaysM
import Derived.Shelf.Strings.Shaped
import Derived.Shelf.Strings.Prefix
import Derived.Shelf.Strings.Runes
import Derived.Shelf.Strings.IndexAny
import Derived.Shelf.Strings.AsciiSet
import Derived.Shelf.Strings.IndexAnyAll
import Derived.Test.Qxb6606184aDoorProg
namespace Go.Proofs
open Go.Shelf
def Tryd.lays119_ren : Go.Shelf.Ren := ⟨fun | 119 => 37 | n => n, fun | 21 => 21 | 4 => 4 | n => n, fun | n => n⟩
theorem Tryd.lays119 : Go.Proofs.Lays.n119 Tryd.prog Tryd.lays119_ren := {
  mixed := by kernel_rfl
  f119 := Tryd.func37.trans (congrArg some (by kernel_rfl))
  t4 := Tryd.underlying4
  a4 := Tryd.isAgg4
  z4 := Tryd.sizeOf4
  v4 := Tryd.zeroValue4
  t21 := Tryd.underlying21
  a21 := Tryd.isAgg21
  z21 := Tryd.sizeOf21
  v21 := Tryd.zeroValue21 }
/-- utf8.ValidRune: "ValidRune reports whether r can be legally encoded as UTF-8. Code points that are out of range or a surrogate half are illegal.": IT RETURNS 'Lib.validRune r'; the world is as it was. (LAID: no walk: one application.) -/
theorem Tryd.utf8_ValidRune (r : Int) (w : World) :
    Calls Tryd.prog 37 #[.int .i32 r] w fun e w' => e = .returned (.bool (Lib.validRune r)) ∧ w' = w := Any.utf8_ValidRune Tryd.lays119 r w
def Tryd.lays137_ren : Go.Shelf.Ren := ⟨fun | 137 => 36 | 217 => 42 | 266 => 49 | n => n, fun | 9 => 9 | 5 => 5 | 3 => 3 | n => n, fun | n => n⟩
theorem Tryd.lays137 : Go.Proofs.Lays.n137 Tryd.prog Tryd.lays137_ren := {
  mixed := by kernel_rfl
  f137 := Tryd.func36.trans (congrArg some (by kernel_rfl))
  f217 := Tryd.func42.trans (congrArg some (by kernel_rfl))
  f266 := Tryd.func49.trans (congrArg some (by kernel_rfl))
  t3 := Tryd.underlying3
  a3 := Tryd.isAgg3
  z3 := Tryd.sizeOf3
  v3 := Tryd.zeroValue3
  t5 := Tryd.underlying5
  a5 := Tryd.isAgg5
  z5 := Tryd.sizeOf5
  v5 := Tryd.zeroValue5
  t9 := Tryd.underlying9
  a9 := Tryd.isAgg9
  z9 := Tryd.sizeOf9
  v9 := Tryd.zeroValue9 }
open Go.RowKit in
/-- strings.IndexByte: "IndexByte returns the index of the first instance of c in s, or -1 if c is not present in s.": IT RETURNS 'Lib.indexByte s c'; the world is as it was. (LAID: no walk: one application.) -/
theorem Tryd.strings_IndexByte (s : ByteArray) (c : Int) (w : World) :
    Calls Tryd.prog 36 #[.string s, .int .u8 c] w fun e w' => e = .returned (.int .i64 (Lib.indexByte s.data.toList c.toNat.toUInt8)) ∧ w' = w := Any.strings_IndexByte Tryd.lays137 s c w
def Tryd.lays244_ren : Go.Shelf.Ren := ⟨fun | 244 => 40 | 247 => 44 | 287 => 51 | 321 => 55 | 322 => 56 | n => n, fun | 9 => 9 | 3 => 3 | 75 => 50 | 4 => 4 | 5 => 5 | 167 => 59 | 37 => 60 | 0 => 0 | 85 => 61 | 2 => 2 | 53 => 69 | 175 => 70 | 46 => 56 | 21 => 21 | 80 => 97 | n => n, fun | n => n⟩
theorem Tryd.lays244 : Go.Proofs.Lays.n244 Tryd.prog Tryd.lays244_ren := {
  mixed := by kernel_rfl
  f244 := Tryd.func40.trans (congrArg some (by kernel_rfl))
  f247 := Tryd.func44.trans (congrArg some (by kernel_rfl))
  f287 := Tryd.func51.trans (congrArg some (by kernel_rfl))
  f321 := Tryd.func55.trans (congrArg some (by kernel_rfl))
  f322 := Tryd.func56.trans (congrArg some (by kernel_rfl))
  t0 := Tryd.underlying0
  a0 := Tryd.isAgg0
  z0 := Tryd.sizeOf0
  v0 := Tryd.zeroValue0
  t2 := Tryd.underlying2
  a2 := Tryd.isAgg2
  z2 := Tryd.sizeOf2
  v2 := Tryd.zeroValue2
  t3 := Tryd.underlying3
  a3 := Tryd.isAgg3
  z3 := Tryd.sizeOf3
  v3 := Tryd.zeroValue3
  t4 := Tryd.underlying4
  a4 := Tryd.isAgg4
  z4 := Tryd.sizeOf4
  v4 := Tryd.zeroValue4
  t5 := Tryd.underlying5
  a5 := Tryd.isAgg5
  z5 := Tryd.sizeOf5
  v5 := Tryd.zeroValue5
  t9 := Tryd.underlying9
  a9 := Tryd.isAgg9
  z9 := Tryd.sizeOf9
  v9 := Tryd.zeroValue9
  t21 := Tryd.underlying21
  a21 := Tryd.isAgg21
  z21 := Tryd.sizeOf21
  v21 := Tryd.zeroValue21
  t37 := Tryd.underlying60
  a37 := Tryd.isAgg60
  z37 := Tryd.sizeOf60
  v37 := Tryd.zeroValue60
  t46 := Tryd.underlying56
  a46 := Tryd.isAgg56
  z46 := Tryd.sizeOf56
  v46 := Tryd.zeroValue56
  t53 := Tryd.underlying69
  a53 := Tryd.isAgg69
  z53 := Tryd.sizeOf69
  v53 := Tryd.zeroValue69
  t75 := Tryd.underlying50
  a75 := Tryd.isAgg50
  z75 := Tryd.sizeOf50
  v75 := Tryd.zeroValue50
  t85 := Tryd.underlying61
  a85 := Tryd.isAgg61
  z85 := Tryd.sizeOf61
  v85 := Tryd.zeroValue61
  t167 := Tryd.underlying59
  a167 := Tryd.isAgg59
  z167 := Tryd.sizeOf59
  v167 := Tryd.zeroValue59
  t175 := Tryd.underlying70
  a175 := Tryd.isAgg70
  z175 := Tryd.sizeOf70
  v175 := Tryd.zeroValue70 }
def Tryd.lays172_ren : Go.Shelf.Ren := ⟨fun | 172 => 34 | 244 => 40 | 245 => 41 | 247 => 44 | 279 => 45 | 280 => 46 | 281 => 47 | 282 => 48 | 287 => 51 | 316 => 52 | 171 => 54 | 205 => 53 | 321 => 55 | 322 => 56 | 243 => 57 | 246 => 58 | 283 => 59 | 284 => 60 | 285 => 61 | 286 => 62 | 129 => 64 | 317 => 63 | 318 => 65 | 319 => 66 | 320 => 67 | 337 => 68 | 338 => 69 | n => n, fun | 9 => 9 | 3 => 3 | 75 => 50 | 76 => 51 | 4 => 4 | 5 => 5 | 167 => 59 | 37 => 60 | 0 => 0 | 85 => 61 | 2 => 2 | 168 => 63 | 53 => 69 | 175 => 70 | 46 => 56 | 210 => 74 | 127 => 78 | 145 => 81 | 143 => 79 | 21 => 21 | 171 => 83 | 173 => 86 | 212 => 89 | 51 => 66 | 20 => 20 | 213 => 90 | 232 => 93 | 233 => 94 | 80 => 97 | n => n, fun | 15 => 1 | 16 => 2 | 17 => 3 | 18 => 4 | 19 => 5 | n => n⟩
theorem Tryd.lays172 : Go.Proofs.Lays.n172 Tryd.prog Tryd.lays172_ren := {
  mixed := by kernel_rfl
  f129 := Tryd.func64.trans (congrArg some (by kernel_rfl))
  f171 := Tryd.func54.trans (congrArg some (by kernel_rfl))
  f172 := Tryd.func34.trans (congrArg some (by kernel_rfl))
  f205 := Tryd.func53.trans (congrArg some (by kernel_rfl))
  f243 := Tryd.func57.trans (congrArg some (by kernel_rfl))
  f244 := Tryd.func40.trans (congrArg some (by kernel_rfl))
  f245 := Tryd.func41.trans (congrArg some (by kernel_rfl))
  f246 := Tryd.func58.trans (congrArg some (by kernel_rfl))
  f247 := Tryd.func44.trans (congrArg some (by kernel_rfl))
  f279 := Tryd.func45.trans (congrArg some (by kernel_rfl))
  f280 := Tryd.func46.trans (congrArg some (by kernel_rfl))
  f281 := Tryd.func47.trans (congrArg some (by kernel_rfl))
  f282 := Tryd.func48.trans (congrArg some (by kernel_rfl))
  f283 := Tryd.func59.trans (congrArg some (by kernel_rfl))
  f284 := Tryd.func60.trans (congrArg some (by kernel_rfl))
  f285 := Tryd.func61.trans (congrArg some (by kernel_rfl))
  f286 := Tryd.func62.trans (congrArg some (by kernel_rfl))
  f287 := Tryd.func51.trans (congrArg some (by kernel_rfl))
  f316 := Tryd.func52.trans (congrArg some (by kernel_rfl))
  f317 := Tryd.func63.trans (congrArg some (by kernel_rfl))
  f318 := Tryd.func65.trans (congrArg some (by kernel_rfl))
  f319 := Tryd.func66.trans (congrArg some (by kernel_rfl))
  f320 := Tryd.func67.trans (congrArg some (by kernel_rfl))
  f321 := Tryd.func55.trans (congrArg some (by kernel_rfl))
  f322 := Tryd.func56.trans (congrArg some (by kernel_rfl))
  f337 := Tryd.func68.trans (congrArg some (by kernel_rfl))
  f338 := Tryd.func69.trans (congrArg some (by kernel_rfl))
  t0 := Tryd.underlying0
  a0 := Tryd.isAgg0
  z0 := Tryd.sizeOf0
  v0 := Tryd.zeroValue0
  t2 := Tryd.underlying2
  a2 := Tryd.isAgg2
  z2 := Tryd.sizeOf2
  v2 := Tryd.zeroValue2
  t3 := Tryd.underlying3
  a3 := Tryd.isAgg3
  z3 := Tryd.sizeOf3
  v3 := Tryd.zeroValue3
  t4 := Tryd.underlying4
  a4 := Tryd.isAgg4
  z4 := Tryd.sizeOf4
  v4 := Tryd.zeroValue4
  t5 := Tryd.underlying5
  a5 := Tryd.isAgg5
  z5 := Tryd.sizeOf5
  v5 := Tryd.zeroValue5
  t9 := Tryd.underlying9
  a9 := Tryd.isAgg9
  z9 := Tryd.sizeOf9
  v9 := Tryd.zeroValue9
  t20 := Tryd.underlying20
  a20 := Tryd.isAgg20
  z20 := Tryd.sizeOf20
  v20 := Tryd.zeroValue20
  t21 := Tryd.underlying21
  a21 := Tryd.isAgg21
  z21 := Tryd.sizeOf21
  v21 := Tryd.zeroValue21
  t37 := Tryd.underlying60
  a37 := Tryd.isAgg60
  z37 := Tryd.sizeOf60
  v37 := Tryd.zeroValue60
  t46 := Tryd.underlying56
  a46 := Tryd.isAgg56
  z46 := Tryd.sizeOf56
  v46 := Tryd.zeroValue56
  t51 := Tryd.underlying66
  a51 := Tryd.isAgg66
  z51 := Tryd.sizeOf66
  v51 := Tryd.zeroValue66
  t53 := Tryd.underlying69
  a53 := Tryd.isAgg69
  z53 := Tryd.sizeOf69
  v53 := Tryd.zeroValue69
  t75 := Tryd.underlying50
  a75 := Tryd.isAgg50
  z75 := Tryd.sizeOf50
  v75 := Tryd.zeroValue50
  t76 := Tryd.underlying51
  a76 := Tryd.isAgg51
  z76 := Tryd.sizeOf51
  v76 := Tryd.zeroValue51
  t85 := Tryd.underlying61
  a85 := Tryd.isAgg61
  z85 := Tryd.sizeOf61
  v85 := Tryd.zeroValue61
  t127 := Tryd.underlying78
  a127 := Tryd.isAgg78
  z127 := Tryd.sizeOf78
  v127 := Tryd.zeroValue78
  t143 := Tryd.underlying79
  a143 := Tryd.isAgg79
  z143 := Tryd.sizeOf79
  v143 := Tryd.zeroValue79
  t145 := Tryd.underlying81
  a145 := Tryd.isAgg81
  z145 := Tryd.sizeOf81
  v145 := Tryd.zeroValue81
  t167 := Tryd.underlying59
  a167 := Tryd.isAgg59
  z167 := Tryd.sizeOf59
  v167 := Tryd.zeroValue59
  t168 := Tryd.underlying63
  a168 := Tryd.isAgg63
  z168 := Tryd.sizeOf63
  v168 := Tryd.zeroValue63
  t171 := Tryd.underlying83
  a171 := Tryd.isAgg83
  z171 := Tryd.sizeOf83
  v171 := Tryd.zeroValue83
  t173 := Tryd.underlying86
  a173 := Tryd.isAgg86
  z173 := Tryd.sizeOf86
  v173 := Tryd.zeroValue86
  t175 := Tryd.underlying70
  a175 := Tryd.isAgg70
  z175 := Tryd.sizeOf70
  v175 := Tryd.zeroValue70
  t210 := Tryd.underlying74
  a210 := Tryd.isAgg74
  z210 := Tryd.sizeOf74
  v210 := Tryd.zeroValue74
  t212 := Tryd.underlying89
  a212 := Tryd.isAgg89
  z212 := Tryd.sizeOf89
  v212 := Tryd.zeroValue89
  t213 := Tryd.underlying90
  a213 := Tryd.isAgg90
  z213 := Tryd.sizeOf90
  t232 := Tryd.underlying93
  a232 := Tryd.isAgg93
  z232 := Tryd.sizeOf93
  v232 := Tryd.zeroValue93
  t233 := Tryd.underlying94
  a233 := Tryd.isAgg94
  z233 := Tryd.sizeOf94
  v233 := Tryd.zeroValue94
  g15 := by kernel_rfl
  g16 := by kernel_rfl
  g17 := by kernel_rfl
  g18 := by kernel_rfl
  g19 := by kernel_rfl }
open Go.RowKit in
/-- strconv.Atoi: "Atoi is equivalent to ParseInt(s, 10, 0), converted to type int.": AT A DECIMAL NUMERAL OF AT MOST 18 BYTES: its value, and a nil error. The world behind the call: the one new row that the library's '[]byte(s)' lays. (LAID: no walk: one application.) -/
theorem Tryd.strconv_Atoi (s : ByteArray) (n : Int) (hl : s.size ≤ 18) (h : Lib.atoi s.data.toList = some n) (w : World) :
    Calls Tryd.prog 34 #[.string s] w fun e w' => e = .returned (.tuple #[.int .i64 n, .nilIface]) ∧ ∃ t, w' = Lib.bytesWorld w 5 t := Any.strconv_Atoi Tryd.lays172 s n hl h w
def Tryd.lays217_ren : Go.Shelf.Ren := ⟨fun | 217 => 42 | 266 => 49 | n => n, fun | 9 => 9 | 5 => 5 | 3 => 3 | n => n, fun | n => n⟩
theorem Tryd.lays217 : Go.Proofs.Lays.n217 Tryd.prog Tryd.lays217_ren := {
  mixed := by kernel_rfl
  f217 := Tryd.func42.trans (congrArg some (by kernel_rfl))
  f266 := Tryd.func49.trans (congrArg some (by kernel_rfl))
  t3 := Tryd.underlying3
  a3 := Tryd.isAgg3
  z3 := Tryd.sizeOf3
  v3 := Tryd.zeroValue3
  t5 := Tryd.underlying5
  a5 := Tryd.isAgg5
  z5 := Tryd.sizeOf5
  v5 := Tryd.zeroValue5
  t9 := Tryd.underlying9
  a9 := Tryd.isAgg9
  z9 := Tryd.sizeOf9
  v9 := Tryd.zeroValue9 }
def Tryd.lays224_ren : Go.Shelf.Ren := ⟨fun | 224 => 38 | n => n, fun | 3 => 3 | n => n, fun | n => n⟩
theorem Tryd.lays224 : Go.Proofs.Lays.n224 Tryd.prog Tryd.lays224_ren := {
  mixed := by kernel_rfl
  f224 := Tryd.func38.trans (congrArg some (by kernel_rfl))
  t3 := Tryd.underlying3
  a3 := Tryd.isAgg3
  z3 := Tryd.sizeOf3
  v3 := Tryd.zeroValue3 }
def Tryd.lays314_ren : Go.Shelf.Ren := ⟨fun | 314 => 50 | n => n, fun | 9 => 9 | 51 => 66 | 3 => 3 | 4 => 4 | 5 => 5 | 46 => 56 | n => n, fun | n => n⟩
theorem Tryd.lays314 : Go.Proofs.Lays.n314 Tryd.prog Tryd.lays314_ren := {
  mixed := by kernel_rfl
  f314 := Tryd.func50.trans (congrArg some (by kernel_rfl))
  t3 := Tryd.underlying3
  a3 := Tryd.isAgg3
  z3 := Tryd.sizeOf3
  v3 := Tryd.zeroValue3
  t4 := Tryd.underlying4
  a4 := Tryd.isAgg4
  z4 := Tryd.sizeOf4
  v4 := Tryd.zeroValue4
  t5 := Tryd.underlying5
  a5 := Tryd.isAgg5
  z5 := Tryd.sizeOf5
  v5 := Tryd.zeroValue5
  t9 := Tryd.underlying9
  a9 := Tryd.isAgg9
  z9 := Tryd.sizeOf9
  v9 := Tryd.zeroValue9
  t46 := Tryd.underlying56
  a46 := Tryd.isAgg56
  z46 := Tryd.sizeOf56
  v46 := Tryd.zeroValue56
  t51 := Tryd.underlying66
  a51 := Tryd.isAgg66
  z51 := Tryd.sizeOf66
  v51 := Tryd.zeroValue66 }
def Tryd.lays267_ren : Go.Shelf.Ren := ⟨fun | 267 => 43 | 314 => 50 | n => n, fun | 9 => 9 | 3 => 3 | 146 => 67 | 51 => 66 | 4 => 4 | 5 => 5 | 46 => 56 | n => n, fun | n => n⟩
theorem Tryd.lays267 : Go.Proofs.Lays.n267 Tryd.prog Tryd.lays267_ren := {
  mixed := by kernel_rfl
  f267 := Tryd.func43.trans (congrArg some (by kernel_rfl))
  f314 := Tryd.func50.trans (congrArg some (by kernel_rfl))
  t3 := Tryd.underlying3
  a3 := Tryd.isAgg3
  z3 := Tryd.sizeOf3
  v3 := Tryd.zeroValue3
  t4 := Tryd.underlying4
  a4 := Tryd.isAgg4
  z4 := Tryd.sizeOf4
  v4 := Tryd.zeroValue4
  t5 := Tryd.underlying5
  a5 := Tryd.isAgg5
  z5 := Tryd.sizeOf5
  v5 := Tryd.zeroValue5
  t9 := Tryd.underlying9
  a9 := Tryd.isAgg9
  z9 := Tryd.sizeOf9
  v9 := Tryd.zeroValue9
  t46 := Tryd.underlying56
  a46 := Tryd.isAgg56
  z46 := Tryd.sizeOf56
  v46 := Tryd.zeroValue56
  t51 := Tryd.underlying66
  a51 := Tryd.isAgg66
  z51 := Tryd.sizeOf66
  v51 := Tryd.zeroValue66
  t146 := Tryd.underlying67
  a146 := Tryd.isAgg67
  z146 := Tryd.sizeOf67
  v146 := Tryd.zeroValue67 }
def Tryd.lays219_ren : Go.Shelf.Ren := ⟨fun | 219 => 35 | 217 => 42 | 225 => 39 | 224 => 38 | 267 => 43 | 266 => 49 | 314 => 50 | n => n, fun | 9 => 9 | 3 => 3 | 4 => 4 | 5 => 5 | 46 => 56 | 146 => 67 | 51 => 66 | n => n, fun | 1 => 0 | n => n⟩
theorem Tryd.lays219 : Go.Proofs.Lays.n219 Tryd.prog Tryd.lays219_ren := {
  mixed := by kernel_rfl
  f217 := Tryd.func42.trans (congrArg some (by kernel_rfl))
  f219 := Tryd.func35.trans (congrArg some (by kernel_rfl))
  f224 := Tryd.func38.trans (congrArg some (by kernel_rfl))
  f225 := Tryd.func39.trans (congrArg some (by kernel_rfl))
  f266 := Tryd.func49.trans (congrArg some (by kernel_rfl))
  f267 := Tryd.func43.trans (congrArg some (by kernel_rfl))
  f314 := Tryd.func50.trans (congrArg some (by kernel_rfl))
  t3 := Tryd.underlying3
  a3 := Tryd.isAgg3
  z3 := Tryd.sizeOf3
  v3 := Tryd.zeroValue3
  t4 := Tryd.underlying4
  a4 := Tryd.isAgg4
  z4 := Tryd.sizeOf4
  v4 := Tryd.zeroValue4
  t5 := Tryd.underlying5
  a5 := Tryd.isAgg5
  z5 := Tryd.sizeOf5
  v5 := Tryd.zeroValue5
  t9 := Tryd.underlying9
  a9 := Tryd.isAgg9
  z9 := Tryd.sizeOf9
  v9 := Tryd.zeroValue9
  t46 := Tryd.underlying56
  a46 := Tryd.isAgg56
  z46 := Tryd.sizeOf56
  v46 := Tryd.zeroValue56
  t51 := Tryd.underlying66
  a51 := Tryd.isAgg66
  z51 := Tryd.sizeOf66
  v51 := Tryd.zeroValue66
  t146 := Tryd.underlying67
  a146 := Tryd.isAgg67
  z146 := Tryd.sizeOf67
  v146 := Tryd.zeroValue67
  g1 := by kernel_rfl }
def Tryd.lays143_ren : Go.Shelf.Ren := ⟨fun | 143 => 26 | 219 => 35 | 217 => 42 | 225 => 39 | 224 => 38 | 267 => 43 | 266 => 49 | 314 => 50 | n => n, fun | 9 => 9 | 3 => 3 | 4 => 4 | 5 => 5 | 46 => 56 | 146 => 67 | 51 => 66 | n => n, fun | 1 => 0 | n => n⟩
theorem Tryd.lays143 : Go.Proofs.Lays.n143 Tryd.prog Tryd.lays143_ren := {
  mixed := by kernel_rfl
  f143 := Tryd.func26.trans (congrArg some (by kernel_rfl))
  f217 := Tryd.func42.trans (congrArg some (by kernel_rfl))
  f219 := Tryd.func35.trans (congrArg some (by kernel_rfl))
  f224 := Tryd.func38.trans (congrArg some (by kernel_rfl))
  f225 := Tryd.func39.trans (congrArg some (by kernel_rfl))
  f266 := Tryd.func49.trans (congrArg some (by kernel_rfl))
  f267 := Tryd.func43.trans (congrArg some (by kernel_rfl))
  f314 := Tryd.func50.trans (congrArg some (by kernel_rfl))
  t3 := Tryd.underlying3
  a3 := Tryd.isAgg3
  z3 := Tryd.sizeOf3
  v3 := Tryd.zeroValue3
  t4 := Tryd.underlying4
  a4 := Tryd.isAgg4
  z4 := Tryd.sizeOf4
  v4 := Tryd.zeroValue4
  t5 := Tryd.underlying5
  a5 := Tryd.isAgg5
  z5 := Tryd.sizeOf5
  v5 := Tryd.zeroValue5
  t9 := Tryd.underlying9
  a9 := Tryd.isAgg9
  z9 := Tryd.sizeOf9
  v9 := Tryd.zeroValue9
  t46 := Tryd.underlying56
  a46 := Tryd.isAgg56
  z46 := Tryd.sizeOf56
  v46 := Tryd.zeroValue56
  t51 := Tryd.underlying66
  a51 := Tryd.isAgg66
  z51 := Tryd.sizeOf66
  v51 := Tryd.zeroValue66
  t146 := Tryd.underlying67
  a146 := Tryd.isAgg67
  z146 := Tryd.sizeOf67
  v146 := Tryd.zeroValue67
  g1 := by kernel_rfl }
open Go.RowKit Go.Lib in
/-- strings.Index: "Index returns the index of the first instance of substr in s, or -1 if substr is not present in s.": IT RETURNS 'Lib.index s substr'; the world is as it was. (LAID: no walk: one application.) -/
theorem Tryd.strings_Index (s sub : ByteArray) (m : Int) (w : World) (hs : s.size < 4294967281) (hm : w.cell? ⟨0, 0, none⟩ = some (.int .i64 m)) :
    Calls Tryd.prog 26 #[.string s, .string sub] w fun e w' => e = .returned (.int .i64 (Lib.index s.data.toList sub.data.toList)) ∧ w' = w := Any.strings_Index Tryd.lays143 s sub m w hs hm
def Tryd.laysM219_ren : Go.Shelf.Ren := ⟨fun | 219 => 35 | 217 => 42 | 225 => 39 | 224 => 38 | 267 => 43 | 266 => 49 | 314 => 50 | n => n, fun | 9 => 9 | 3 => 3 | 4 => 4 | 5 => 5 | 46 => 56 | 146 => 67 | 51 => 66 | n => n, fun | 1 => 0 | n => n⟩
theorem Tryd.laysM219 : Go.Proofs.LaysM.n219 Tryd.prog Tryd.laysM219_ren := {
  mixed := by kernel_rfl
  f217 := Tryd.func42.trans (congrArg some (by kernel_rfl))
  f219 := Tryd.func35.trans (congrArg some (by kernel_rfl))
  f224 := Tryd.func38.trans (congrArg some (by kernel_rfl))
  f225 := Tryd.func39.trans (congrArg some (by kernel_rfl))
  f266 := Tryd.func49.trans (congrArg some (by kernel_rfl))
  f267 := Tryd.func43.trans (congrArg some (by kernel_rfl))
  f314 := Tryd.func50.trans (congrArg some (by kernel_rfl))
  t3 := Tryd.underlying3
  a3 := Tryd.isAgg3
  z3 := Tryd.sizeOf3
  v3 := Tryd.zeroValue3
  t4 := Tryd.underlying4
  a4 := Tryd.isAgg4
  z4 := Tryd.sizeOf4
  v4 := Tryd.zeroValue4
  t5 := Tryd.underlying5
  a5 := Tryd.isAgg5
  z5 := Tryd.sizeOf5
  v5 := Tryd.zeroValue5
  t9 := Tryd.underlying9
  a9 := Tryd.isAgg9
  z9 := Tryd.sizeOf9
  v9 := Tryd.zeroValue9
  t46 := Tryd.underlying56
  a46 := Tryd.isAgg56
  z46 := Tryd.sizeOf56
  v46 := Tryd.zeroValue56
  t51 := Tryd.underlying66
  a51 := Tryd.isAgg66
  z51 := Tryd.sizeOf66
  v51 := Tryd.zeroValue66
  t146 := Tryd.underlying67
  a146 := Tryd.isAgg67
  z146 := Tryd.sizeOf67
  v146 := Tryd.zeroValue67
  g1 := by kernel_rfl
  i3 := by kernel_rfl
  i4 := by kernel_rfl
  i5 := by kernel_rfl
  i9 := by kernel_rfl
  i46 := by kernel_rfl
  i51 := by kernel_rfl
  i146 := by kernel_rfl
  m1 := by kernel_rfl
  s1_3 := fun w h => Go.Proofs.cell_of_shapedOpen_int (zero := #[.int .i64 0]) (t := 3) h (of_decide_eq_true (by kernel_rfl)) (by kernel_rfl) rfl (by kernel_rfl) (by kernel_rfl) Tryd.underlying3 }
def Tryd.laysM143_ren : Go.Shelf.Ren := ⟨fun | 143 => 26 | 219 => 35 | 217 => 42 | 225 => 39 | 224 => 38 | 267 => 43 | 266 => 49 | 314 => 50 | n => n, fun | 9 => 9 | 3 => 3 | 4 => 4 | 5 => 5 | 46 => 56 | 146 => 67 | 51 => 66 | n => n, fun | 1 => 0 | n => n⟩
theorem Tryd.laysM143 : Go.Proofs.LaysM.n143 Tryd.prog Tryd.laysM143_ren := {
  mixed := by kernel_rfl
  f143 := Tryd.func26.trans (congrArg some (by kernel_rfl))
  f217 := Tryd.func42.trans (congrArg some (by kernel_rfl))
  f219 := Tryd.func35.trans (congrArg some (by kernel_rfl))
  f224 := Tryd.func38.trans (congrArg some (by kernel_rfl))
  f225 := Tryd.func39.trans (congrArg some (by kernel_rfl))
  f266 := Tryd.func49.trans (congrArg some (by kernel_rfl))
  f267 := Tryd.func43.trans (congrArg some (by kernel_rfl))
  f314 := Tryd.func50.trans (congrArg some (by kernel_rfl))
  t3 := Tryd.underlying3
  a3 := Tryd.isAgg3
  z3 := Tryd.sizeOf3
  v3 := Tryd.zeroValue3
  t4 := Tryd.underlying4
  a4 := Tryd.isAgg4
  z4 := Tryd.sizeOf4
  v4 := Tryd.zeroValue4
  t5 := Tryd.underlying5
  a5 := Tryd.isAgg5
  z5 := Tryd.sizeOf5
  v5 := Tryd.zeroValue5
  t9 := Tryd.underlying9
  a9 := Tryd.isAgg9
  z9 := Tryd.sizeOf9
  v9 := Tryd.zeroValue9
  t46 := Tryd.underlying56
  a46 := Tryd.isAgg56
  z46 := Tryd.sizeOf56
  v46 := Tryd.zeroValue56
  t51 := Tryd.underlying66
  a51 := Tryd.isAgg66
  z51 := Tryd.sizeOf66
  v51 := Tryd.zeroValue66
  t146 := Tryd.underlying67
  a146 := Tryd.isAgg67
  z146 := Tryd.sizeOf67
  v146 := Tryd.zeroValue67
  g1 := by kernel_rfl
  i3 := by kernel_rfl
  i4 := by kernel_rfl
  i5 := by kernel_rfl
  i9 := by kernel_rfl
  i46 := by kernel_rfl
  i51 := by kernel_rfl
  i146 := by kernel_rfl
  m1 := by kernel_rfl
  s1_3 := fun w h => Go.Proofs.cell_of_shapedOpen_int (zero := #[.int .i64 0]) (t := 3) h (of_decide_eq_true (by kernel_rfl)) (by kernel_rfl) rfl (by kernel_rfl) (by kernel_rfl) Tryd.underlying3 }
open Go.RowKit Go.Lib in
theorem Tryd.strings_Index_shaped (s sub : ByteArray) (w : World) (h : w.ShapedOpen Tryd.prog) (hs : s.size < 4294967281) :
    Calls Tryd.prog 26 #[.string s, .string sub] w fun e w' => e = .returned (.int .i64 (Lib.index s.data.toList sub.data.toList)) ∧ w' = w := Any.strings_Index_shaped Tryd.laysM143 s sub w h hs
def Tryd.lays206_ren : Go.Shelf.Ren := ⟨fun | 206 => 28 | n => n, fun | 9 => 9 | 4 => 4 | 3 => 3 | n => n, fun | n => n⟩
theorem Tryd.lays206 : Go.Proofs.Lays.n206 Tryd.prog Tryd.lays206_ren := {
  mixed := by kernel_rfl
  f206 := Tryd.func28.trans (congrArg some (by kernel_rfl))
  t3 := Tryd.underlying3
  a3 := Tryd.isAgg3
  z3 := Tryd.sizeOf3
  v3 := Tryd.zeroValue3
  t4 := Tryd.underlying4
  a4 := Tryd.isAgg4
  z4 := Tryd.sizeOf4
  v4 := Tryd.zeroValue4
  t9 := Tryd.underlying9
  a9 := Tryd.isAgg9
  z9 := Tryd.sizeOf9
  v9 := Tryd.zeroValue9 }
def Tryd.lays99_ren : Go.Shelf.Ren := ⟨fun | 99 => 21 | 206 => 28 | n => n, fun | 9 => 9 | 4 => 4 | 3 => 3 | n => n, fun | n => n⟩
theorem Tryd.lays99 : Go.Proofs.Lays.n99 Tryd.prog Tryd.lays99_ren := {
  mixed := by kernel_rfl
  f99 := Tryd.func21.trans (congrArg some (by kernel_rfl))
  f206 := Tryd.func28.trans (congrArg some (by kernel_rfl))
  t3 := Tryd.underlying3
  a3 := Tryd.isAgg3
  z3 := Tryd.sizeOf3
  v3 := Tryd.zeroValue3
  t4 := Tryd.underlying4
  a4 := Tryd.isAgg4
  z4 := Tryd.sizeOf4
  v4 := Tryd.zeroValue4
  t9 := Tryd.underlying9
  a9 := Tryd.isAgg9
  z9 := Tryd.sizeOf9
  v9 := Tryd.zeroValue9 }
open Go.RowKit Go.Lib in
/-- strings.HasPrefix: "HasPrefix reports whether the string s begins with prefix.": IT RETURNS 'Lib.hasPrefix s prefix'; the world is as it was. (LAID: no walk: one application.) -/
theorem Tryd.strings_HasPrefix (s p : ByteArray) (w : World) :
    Calls Tryd.prog 21 #[.string s, .string p] w fun e w' => e = .returned (.bool (Lib.hasPrefix s.data.toList p.data.toList)) ∧ w' = w := Any.strings_HasPrefix Tryd.lays99 s p w
def Tryd.lays152_ren : Go.Shelf.Ren := ⟨fun | 152 => 29 | 137 => 36 | 119 => 37 | 224 => 38 | 225 => 39 | 217 => 42 | 266 => 49 | n => n, fun | 9 => 9 | 21 => 21 | 3 => 3 | 4 => 4 | 5 => 5 | 0 => 0 | 46 => 56 | n => n, fun | n => n⟩
theorem Tryd.lays152 : Go.Proofs.Lays.n152 Tryd.prog Tryd.lays152_ren := {
  mixed := by kernel_rfl
  f119 := Tryd.func37.trans (congrArg some (by kernel_rfl))
  f137 := Tryd.func36.trans (congrArg some (by kernel_rfl))
  f152 := Tryd.func29.trans (congrArg some (by kernel_rfl))
  f217 := Tryd.func42.trans (congrArg some (by kernel_rfl))
  f224 := Tryd.func38.trans (congrArg some (by kernel_rfl))
  f225 := Tryd.func39.trans (congrArg some (by kernel_rfl))
  f266 := Tryd.func49.trans (congrArg some (by kernel_rfl))
  t0 := Tryd.underlying0
  a0 := Tryd.isAgg0
  z0 := Tryd.sizeOf0
  v0 := Tryd.zeroValue0
  t3 := Tryd.underlying3
  a3 := Tryd.isAgg3
  z3 := Tryd.sizeOf3
  v3 := Tryd.zeroValue3
  t4 := Tryd.underlying4
  a4 := Tryd.isAgg4
  z4 := Tryd.sizeOf4
  v4 := Tryd.zeroValue4
  t5 := Tryd.underlying5
  a5 := Tryd.isAgg5
  z5 := Tryd.sizeOf5
  v5 := Tryd.zeroValue5
  t9 := Tryd.underlying9
  a9 := Tryd.isAgg9
  z9 := Tryd.sizeOf9
  v9 := Tryd.zeroValue9
  t21 := Tryd.underlying21
  a21 := Tryd.isAgg21
  z21 := Tryd.sizeOf21
  v21 := Tryd.zeroValue21
  t46 := Tryd.underlying56
  a46 := Tryd.isAgg56
  z46 := Tryd.sizeOf56
  v46 := Tryd.zeroValue56 }
open Go.RowKit Go.Lib in
theorem Tryd.strings_IndexRune_ascii (s : ByteArray) (r : Int) (w : World) (h0 : 0 ≤ r) (h1 : r < 128) :
    Calls Tryd.prog 29 #[.string s, .int .i32 r] w fun e w' => e = .returned (.int .i64 (Lib.indexByte s.data.toList r.toNat.toUInt8)) ∧ w' = w := Any.strings_IndexRune_ascii Tryd.lays152 s r w h0 h1
def Tryd.lays226_ren : Go.Shelf.Ren := ⟨fun | 226 => 30 | n => n, fun | 3 => 3 | 4 => 4 | n => n, fun | n => n⟩
theorem Tryd.lays226 : Go.Proofs.Lays.n226 Tryd.prog Tryd.lays226_ren := {
  mixed := by kernel_rfl
  f226 := Tryd.func30.trans (congrArg some (by kernel_rfl))
  t3 := Tryd.underlying3
  a3 := Tryd.isAgg3
  z3 := Tryd.sizeOf3
  v3 := Tryd.zeroValue3
  t4 := Tryd.underlying4
  a4 := Tryd.isAgg4
  z4 := Tryd.sizeOf4
  v4 := Tryd.zeroValue4 }
def Tryd.lays153_ren : Go.Shelf.Ren := ⟨fun | 153 => 23 | 152 => 29 | 226 => 30 | 227 => 31 | 228 => 32 | 137 => 36 | 119 => 37 | 224 => 38 | 225 => 39 | 217 => 42 | 266 => 49 | n => n, fun | 9 => 9 | 3 => 3 | 4 => 4 | 5 => 5 | 21 => 21 | 117 => 47 | 116 => 46 | 0 => 0 | 46 => 56 | 124 => 57 | n => n, fun | n => n⟩
theorem Tryd.lays153 : Go.Proofs.Lays.n153 Tryd.prog Tryd.lays153_ren := {
  mixed := by kernel_rfl
  f119 := Tryd.func37.trans (congrArg some (by kernel_rfl))
  f137 := Tryd.func36.trans (congrArg some (by kernel_rfl))
  f152 := Tryd.func29.trans (congrArg some (by kernel_rfl))
  f153 := Tryd.func23.trans (congrArg some (by kernel_rfl))
  f217 := Tryd.func42.trans (congrArg some (by kernel_rfl))
  f224 := Tryd.func38.trans (congrArg some (by kernel_rfl))
  f225 := Tryd.func39.trans (congrArg some (by kernel_rfl))
  f226 := Tryd.func30.trans (congrArg some (by kernel_rfl))
  f227 := Tryd.func31.trans (congrArg some (by kernel_rfl))
  f228 := Tryd.func32.trans (congrArg some (by kernel_rfl))
  f266 := Tryd.func49.trans (congrArg some (by kernel_rfl))
  t0 := Tryd.underlying0
  a0 := Tryd.isAgg0
  z0 := Tryd.sizeOf0
  v0 := Tryd.zeroValue0
  t3 := Tryd.underlying3
  a3 := Tryd.isAgg3
  z3 := Tryd.sizeOf3
  v3 := Tryd.zeroValue3
  t4 := Tryd.underlying4
  a4 := Tryd.isAgg4
  z4 := Tryd.sizeOf4
  v4 := Tryd.zeroValue4
  t5 := Tryd.underlying5
  a5 := Tryd.isAgg5
  z5 := Tryd.sizeOf5
  v5 := Tryd.zeroValue5
  t9 := Tryd.underlying9
  a9 := Tryd.isAgg9
  z9 := Tryd.sizeOf9
  v9 := Tryd.zeroValue9
  t21 := Tryd.underlying21
  a21 := Tryd.isAgg21
  z21 := Tryd.sizeOf21
  v21 := Tryd.zeroValue21
  t46 := Tryd.underlying56
  a46 := Tryd.isAgg56
  z46 := Tryd.sizeOf56
  v46 := Tryd.zeroValue56
  t116 := Tryd.underlying46
  a116 := Tryd.isAgg46
  z116 := Tryd.sizeOf46
  t117 := Tryd.underlying47
  a117 := Tryd.isAgg47
  z117 := Tryd.sizeOf47
  v117 := Tryd.zeroValue47
  t124 := Tryd.underlying57
  a124 := Tryd.isAgg57
  z124 := Tryd.sizeOf57
  v124 := Tryd.zeroValue57 }
open Go.RowKit Go.Lib in
/-- chars is one ASCII byte. (LAID: no walk: one application.) -/
theorem Tryd.strings_IndexAny_one (s chars : ByteArray) (w : World) (h1 : chars.size = 1) (hascii : ∀ (j : Nat) b, chars.data.toList[j]? = some b → b.toNat < 128) :
    Calls Tryd.prog 23 #[.string s, .string chars] w fun e w' => e = .returned (.int .i64 (Lib.indexAny s.data.toList chars.data.toList)) ∧ w' = w := Any.strings_IndexAny_one Tryd.lays153 s chars w h1 hascii
open Go.RowKit Go.Lib in
/-- s of at most 8 bytes; chars of two or more: 'for i, c := range s { if IndexRune(chars, c) >= 0 { return i } }'. One block more: the model's iterator over s. (LAID: no walk: one application.) -/
theorem Tryd.strings_IndexAny_short (s chars : ByteArray) (w : World) (h2 : 2 ≤ chars.size) (h8 : s.size ≤ 8) (hascii : ∀ (j : Nat) b, s.data.toList[j]? = some b → b.toNat < 128) :
    Calls Tryd.prog 23 #[.string s, .string chars] w fun e w' => e = .returned (.int .i64 (Lib.indexAny s.data.toList chars.data.toList)) ∧ ∃ pos, w' = w.iter s pos := Any.strings_IndexAny_short Tryd.lays153 s chars w h2 h8 hascii
def Tryd.lays227_ren : Go.Shelf.Ren := ⟨fun | 227 => 31 | n => n, fun | 9 => 9 | 116 => 46 | 4 => 4 | 0 => 0 | 3 => 3 | 5 => 5 | n => n, fun | n => n⟩
theorem Tryd.lays227 : Go.Proofs.Lays.n227 Tryd.prog Tryd.lays227_ren := {
  mixed := by kernel_rfl
  f227 := Tryd.func31.trans (congrArg some (by kernel_rfl))
  t0 := Tryd.underlying0
  a0 := Tryd.isAgg0
  z0 := Tryd.sizeOf0
  v0 := Tryd.zeroValue0
  t3 := Tryd.underlying3
  a3 := Tryd.isAgg3
  z3 := Tryd.sizeOf3
  v3 := Tryd.zeroValue3
  t4 := Tryd.underlying4
  a4 := Tryd.isAgg4
  z4 := Tryd.sizeOf4
  v4 := Tryd.zeroValue4
  t5 := Tryd.underlying5
  a5 := Tryd.isAgg5
  z5 := Tryd.sizeOf5
  v5 := Tryd.zeroValue5
  t9 := Tryd.underlying9
  a9 := Tryd.isAgg9
  z9 := Tryd.sizeOf9
  v9 := Tryd.zeroValue9
  t116 := Tryd.underlying46
  a116 := Tryd.isAgg46
  z116 := Tryd.sizeOf46 }
def Tryd.lays228_ren : Go.Shelf.Ren := ⟨fun | 228 => 32 | n => n, fun | 124 => 57 | 5 => 5 | 4 => 4 | 0 => 0 | 116 => 46 | n => n, fun | n => n⟩
theorem Tryd.lays228 : Go.Proofs.Lays.n228 Tryd.prog Tryd.lays228_ren := {
  mixed := by kernel_rfl
  f228 := Tryd.func32.trans (congrArg some (by kernel_rfl))
  t0 := Tryd.underlying0
  a0 := Tryd.isAgg0
  z0 := Tryd.sizeOf0
  v0 := Tryd.zeroValue0
  t4 := Tryd.underlying4
  a4 := Tryd.isAgg4
  z4 := Tryd.sizeOf4
  v4 := Tryd.zeroValue4
  t5 := Tryd.underlying5
  a5 := Tryd.isAgg5
  z5 := Tryd.sizeOf5
  v5 := Tryd.zeroValue5
  t116 := Tryd.underlying46
  a116 := Tryd.isAgg46
  z116 := Tryd.sizeOf46
  t124 := Tryd.underlying57
  a124 := Tryd.isAgg57
  z124 := Tryd.sizeOf57
  v124 := Tryd.zeroValue57 }
open Go.RowKit Go.Lib in
theorem Tryd.strings_IndexAny_long (hv116 : ∀ w, (zeroValue 46).run Tryd.prog w = .ok (.agg (Array.replicate 256 (.bool false))) w) (s chars : ByteArray) (w : World) (h2 : 2 ≤ chars.size) (h8 : 8 < s.size) (hs : s.size < 4294967281) (hcs : chars.size < 4294967281) (hascii : ∀ (j : Nat) b, chars.data.toList[j]? = some b → b.toNat < 128) :
    Calls Tryd.prog 23 #[.string s, .string chars] w fun e w' => e = .returned (.int .i64 (Lib.indexAny s.data.toList chars.data.toList)) ∧ w' = ((w.alloc (.cells (Lib.setCells chars.data.toList) 46)).alloc (.cells (Lib.setCells chars.data.toList) 46)) := Any.strings_IndexAny_long Tryd.lays153 hv116 (by kernel_rfl) s chars w h2 h8 hs hcs hascii
end Go.Proofs
