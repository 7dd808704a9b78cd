/-
  DERIVED: THE SHELF's CONTRACTS AT THIS DUMP, IN PLAIN WORDS (tools/lay-plain.mjs out of 'Qxb6605297aShelf.lean', which tools/lay-shelf.mjs wrote): THE SAME DECLARATIONS UNDER THE SAME NAMES: 'import', 'namespace', 'open', 'def', 'theorem' AND NOTHING ELSE: no command of the shelf's: FOR A HAND-IN. Each laying: the table of numbers ('.._ren') and one theorem, a field a fact of the dump's own or the kernel's comparison; each contract: ONE APPLICATION.
-/
import Derived.Shelf.Strings.Builder1
import Derived.Shelf.Small.Utf8
import Derived.Shelf.Small.Strs
import Derived.Shelf.Strings.BuilderF
import Derived.Shelf.Strings.BuilderK
import Derived.Shelf.Strings.Search1
import Derived.Shelf.Strings.Prefix
import Derived.Shelf.Strings.Runes
import Derived.Shelf.Strings.IndexAny
import Derived.Shelf.Strings.AsciiSet
import Derived.Shelf.Strings.IndexAnyAll
import Derived.Shelf.Strings.BuilderCap
import Derived.Test.Qxb6605297aProg
namespace Go.Proofs
open Go.Shelf
def Try.lays169_ren : Go.Shelf.Ren := ⟨fun | 169 => 17 | n => n, fun | 70 => 32 | 9 => 9 | 0 => 0 | 72 => 34 | 37 => 29 | 127 => 53 | 3 => 3 | 5 => 5 | n => n, fun | n => n⟩
theorem Try.lays169 : Go.Proofs.Lays.n169 Try.prog Try.lays169_ren := {
  mixed := by kernel_rfl
  f169 := Try.func17.trans (congrArg some (by kernel_rfl))
  t0 := Try.underlying0
  a0 := Try.isAgg0
  z0 := Try.sizeOf0
  v0 := Try.zeroValue0
  t3 := Try.underlying3
  a3 := Try.isAgg3
  z3 := Try.sizeOf3
  v3 := Try.zeroValue3
  t9 := Try.underlying9
  a9 := Try.isAgg9
  z9 := Try.sizeOf9
  v9 := Try.zeroValue9
  t37 := Try.underlying29
  a37 := Try.isAgg29
  z37 := Try.sizeOf29
  v37 := Try.zeroValue29
  t70 := Try.underlying32
  a70 := Try.isAgg32
  z70 := Try.sizeOf32
  v70 := Try.zeroValue32
  t72 := Try.underlying34
  a72 := Try.isAgg34
  z72 := Try.sizeOf34
  v72 := Try.zeroValue34
  t127 := Try.underlying53
  a127 := Try.isAgg53
  z127 := Try.sizeOf53
  v127 := Try.zeroValue53 }
theorem Try.Builder_Extra_169 : Builder.Extra Try.prog Try.lays169_ren := {
  sizeBuilder := by kernel_rfl
  liesBuilder := by kernel_rfl
  t5 := Try.underlying5
  a5 := Try.isAgg5
  z5 := Try.sizeOf5
  v5 := Try.zeroValue5
  infoByte := by kernel_rfl
  cellsByte := by kernel_rfl
  sizeByte := by kernel_rfl
  neB5 := by decide }
open Go.RowKit in
/-- (*strings.Builder).String: "String returns the accumulated string.": WHATEVER THE BUILDER HOLDS. (LAID: no walk: one application.) -/
theorem Try.Builder_String_any (B b : Nat) (l : List UInt8) (w : World) (h : Lib.IsBuilder 34 5 B b (Lib.byteCells l) w) (hBw : B ≤ w.heap.size) :
    Calls Try.prog 17 #[.pointer (some ⟨b, 0, none⟩)] w fun e w' => e = .returned (.string ⟨l.toArray⟩) ∧ Below B w w' := Any.Builder_String_any Try.lays169 Try.Builder_Extra_169 B b l w h hBw
def Try.lays119_ren : Go.Shelf.Ren := ⟨fun | 119 => 26 | n => n, fun | 21 => 21 | 4 => 4 | n => n, fun | n => n⟩
theorem Try.lays119 : Go.Proofs.Lays.n119 Try.prog Try.lays119_ren := {
  mixed := by kernel_rfl
  f119 := Try.func26.trans (congrArg some (by kernel_rfl))
  t4 := Try.underlying4
  a4 := Try.isAgg4
  z4 := Try.sizeOf4
  v4 := Try.zeroValue4
  t21 := Try.underlying21
  a21 := Try.isAgg21
  z21 := Try.sizeOf21
  v21 := Try.zeroValue21 }
/-- utf8.ValidRune: "ValidRune reports whether r can be legally encoded as UTF-8. Code points that are out of range or a surrogate half are illegal.": IT RETURNS 'Lib.validRune r'; the world is as it was. (LAID: no walk: one application.) -/
theorem Try.utf8_ValidRune (r : Int) (w : World) :
    Calls Try.prog 26 #[.int .i32 r] w fun e w' => e = .returned (.bool (Lib.validRune r)) ∧ w' = w := Any.utf8_ValidRune Try.lays119 r w
def Try.lays137_ren : Go.Shelf.Ren := ⟨fun | 137 => 25 | 217 => 30 | 266 => 31 | n => n, fun | 9 => 9 | 5 => 5 | 3 => 3 | n => n, fun | n => n⟩
theorem Try.lays137 : Go.Proofs.Lays.n137 Try.prog Try.lays137_ren := {
  mixed := by kernel_rfl
  f137 := Try.func25.trans (congrArg some (by kernel_rfl))
  f217 := Try.func30.trans (congrArg some (by kernel_rfl))
  f266 := Try.func31.trans (congrArg some (by kernel_rfl))
  t3 := Try.underlying3
  a3 := Try.isAgg3
  z3 := Try.sizeOf3
  v3 := Try.zeroValue3
  t5 := Try.underlying5
  a5 := Try.isAgg5
  z5 := Try.sizeOf5
  v5 := Try.zeroValue5
  t9 := Try.underlying9
  a9 := Try.isAgg9
  z9 := Try.sizeOf9
  v9 := Try.zeroValue9 }
open Go.RowKit in
/-- strings.IndexByte: "IndexByte returns the index of the first instance of c in s, or -1 if c is not present in s.": IT RETURNS 'Lib.indexByte s c'; the world is as it was. (LAID: no walk: one application.) -/
theorem Try.strings_IndexByte (s : ByteArray) (c : Int) (w : World) :
    Calls Try.prog 25 #[.string s, .int .u8 c] w fun e w' => e = .returned (.int .i64 (Lib.indexByte s.data.toList c.toNat.toUInt8)) ∧ w' = w := Any.strings_IndexByte Try.lays137 s c w
def Try.lays99_ren : Go.Shelf.Ren := ⟨fun | 99 => 15 | 206 => 24 | n => n, fun | 9 => 9 | 4 => 4 | 3 => 3 | n => n, fun | n => n⟩
theorem Try.lays99 : Go.Proofs.Lays.n99 Try.prog Try.lays99_ren := {
  mixed := by kernel_rfl
  f99 := Try.func15.trans (congrArg some (by kernel_rfl))
  f206 := Try.func24.trans (congrArg some (by kernel_rfl))
  t3 := Try.underlying3
  a3 := Try.isAgg3
  z3 := Try.sizeOf3
  v3 := Try.zeroValue3
  t4 := Try.underlying4
  a4 := Try.isAgg4
  z4 := Try.sizeOf4
  v4 := Try.zeroValue4
  t9 := Try.underlying9
  a9 := Try.isAgg9
  z9 := Try.sizeOf9
  v9 := Try.zeroValue9 }
open Go.RowKit Go.Lib in
/-- strings.HasPrefix: "HasPrefix reports whether the string s begins with prefix.": IT RETURNS 'Lib.hasPrefix s prefix'; the world is as it was. (LAID: no walk: one application.) -/
theorem Try.strings_HasPrefix (s p : ByteArray) (w : World) :
    Calls Try.prog 15 #[.string s, .string p] w fun e w' => e = .returned (.bool (Lib.hasPrefix s.data.toList p.data.toList)) ∧ w' = w := Any.strings_HasPrefix Try.lays99 s p w
def Try.lays101_ren : Go.Shelf.Ren := ⟨fun | 101 => 11 | 208 => 18 | 206 => 24 | n => n, fun | 9 => 9 | 4 => 4 | 3 => 3 | n => n, fun | n => n⟩
theorem Try.lays101 : Go.Proofs.Lays.n101 Try.prog Try.lays101_ren := {
  mixed := by kernel_rfl
  f101 := Try.func11.trans (congrArg some (by kernel_rfl))
  f206 := Try.func24.trans (congrArg some (by kernel_rfl))
  f208 := Try.func18.trans (congrArg some (by kernel_rfl))
  t3 := Try.underlying3
  a3 := Try.isAgg3
  z3 := Try.sizeOf3
  v3 := Try.zeroValue3
  t4 := Try.underlying4
  a4 := Try.isAgg4
  z4 := Try.sizeOf4
  v4 := Try.zeroValue4
  t9 := Try.underlying9
  a9 := Try.isAgg9
  z9 := Try.sizeOf9
  v9 := Try.zeroValue9 }
open Go.RowKit Go.Lib in
/-- strings.TrimPrefix: "TrimPrefix returns s without the provided leading prefix string. If s doesn't start with prefix, s is returned unchanged.": IT RETURNS 'Lib.trimPrefix s prefix'; the world is as it was. (LAID: no walk: one application.) -/
theorem Try.strings_TrimPrefix (s p : ByteArray) (w : World) :
    Calls Try.prog 11 #[.string s, .string p] w fun e w' => e = .returned (.string ⟨(Lib.trimPrefix s.data.toList p.data.toList).toArray⟩) ∧ w' = w := Any.strings_TrimPrefix Try.lays101 s p w
def Try.lays152_ren : Go.Shelf.Ren := ⟨fun | 152 => 19 | 137 => 25 | 119 => 26 | 224 => 27 | 225 => 28 | 217 => 30 | 266 => 31 | n => n, fun | 9 => 9 | 21 => 21 | 3 => 3 | 4 => 4 | 5 => 5 | 0 => 0 | 46 => 56 | n => n, fun | n => n⟩
theorem Try.lays152 : Go.Proofs.Lays.n152 Try.prog Try.lays152_ren := {
  mixed := by kernel_rfl
  f119 := Try.func26.trans (congrArg some (by kernel_rfl))
  f137 := Try.func25.trans (congrArg some (by kernel_rfl))
  f152 := Try.func19.trans (congrArg some (by kernel_rfl))
  f217 := Try.func30.trans (congrArg some (by kernel_rfl))
  f224 := Try.func27.trans (congrArg some (by kernel_rfl))
  f225 := Try.func28.trans (congrArg some (by kernel_rfl))
  f266 := Try.func31.trans (congrArg some (by kernel_rfl))
  t0 := Try.underlying0
  a0 := Try.isAgg0
  z0 := Try.sizeOf0
  v0 := Try.zeroValue0
  t3 := Try.underlying3
  a3 := Try.isAgg3
  z3 := Try.sizeOf3
  v3 := Try.zeroValue3
  t4 := Try.underlying4
  a4 := Try.isAgg4
  z4 := Try.sizeOf4
  v4 := Try.zeroValue4
  t5 := Try.underlying5
  a5 := Try.isAgg5
  z5 := Try.sizeOf5
  v5 := Try.zeroValue5
  t9 := Try.underlying9
  a9 := Try.isAgg9
  z9 := Try.sizeOf9
  v9 := Try.zeroValue9
  t21 := Try.underlying21
  a21 := Try.isAgg21
  z21 := Try.sizeOf21
  v21 := Try.zeroValue21
  t46 := Try.underlying56
  a46 := Try.isAgg56
  z46 := Try.sizeOf56
  v46 := Try.zeroValue56 }
open Go.RowKit Go.Lib in
theorem Try.strings_IndexRune_ascii (s : ByteArray) (r : Int) (w : World) (h0 : 0 ≤ r) (h1 : r < 128) :
    Calls Try.prog 19 #[.string s, .int .i32 r] w fun e w' => e = .returned (.int .i64 (Lib.indexByte s.data.toList r.toNat.toUInt8)) ∧ w' = w := Any.strings_IndexRune_ascii Try.lays152 s r w h0 h1
def Try.lays153_ren : Go.Shelf.Ren := ⟨fun | 153 => 12 | 152 => 19 | 226 => 20 | 227 => 21 | 228 => 22 | 137 => 25 | 119 => 26 | 224 => 27 | 225 => 28 | 217 => 30 | 266 => 31 | n => n, fun | 9 => 9 | 3 => 3 | 4 => 4 | 5 => 5 | 21 => 21 | 117 => 49 | 116 => 48 | 0 => 0 | 46 => 56 | 124 => 57 | n => n, fun | n => n⟩
theorem Try.lays153 : Go.Proofs.Lays.n153 Try.prog Try.lays153_ren := {
  mixed := by kernel_rfl
  f119 := Try.func26.trans (congrArg some (by kernel_rfl))
  f137 := Try.func25.trans (congrArg some (by kernel_rfl))
  f152 := Try.func19.trans (congrArg some (by kernel_rfl))
  f153 := Try.func12.trans (congrArg some (by kernel_rfl))
  f217 := Try.func30.trans (congrArg some (by kernel_rfl))
  f224 := Try.func27.trans (congrArg some (by kernel_rfl))
  f225 := Try.func28.trans (congrArg some (by kernel_rfl))
  f226 := Try.func20.trans (congrArg some (by kernel_rfl))
  f227 := Try.func21.trans (congrArg some (by kernel_rfl))
  f228 := Try.func22.trans (congrArg some (by kernel_rfl))
  f266 := Try.func31.trans (congrArg some (by kernel_rfl))
  t0 := Try.underlying0
  a0 := Try.isAgg0
  z0 := Try.sizeOf0
  v0 := Try.zeroValue0
  t3 := Try.underlying3
  a3 := Try.isAgg3
  z3 := Try.sizeOf3
  v3 := Try.zeroValue3
  t4 := Try.underlying4
  a4 := Try.isAgg4
  z4 := Try.sizeOf4
  v4 := Try.zeroValue4
  t5 := Try.underlying5
  a5 := Try.isAgg5
  z5 := Try.sizeOf5
  v5 := Try.zeroValue5
  t9 := Try.underlying9
  a9 := Try.isAgg9
  z9 := Try.sizeOf9
  v9 := Try.zeroValue9
  t21 := Try.underlying21
  a21 := Try.isAgg21
  z21 := Try.sizeOf21
  v21 := Try.zeroValue21
  t46 := Try.underlying56
  a46 := Try.isAgg56
  z46 := Try.sizeOf56
  v46 := Try.zeroValue56
  t116 := Try.underlying48
  a116 := Try.isAgg48
  z116 := Try.sizeOf48
  t117 := Try.underlying49
  a117 := Try.isAgg49
  z117 := Try.sizeOf49
  v117 := Try.zeroValue49
  t124 := Try.underlying57
  a124 := Try.isAgg57
  z124 := Try.sizeOf57
  v124 := Try.zeroValue57 }
open Go.RowKit Go.Lib in
theorem Try.strings_IndexAny_long (hv116 : ∀ w, (zeroValue 48).run Try.prog w = .ok (.agg (Array.replicate 256 (.bool false))) w) (s chars : ByteArray) (w : World) (h2 : 2 ≤ chars.size) (h8 : 8 < s.size) (hs : s.size < 4294967281) (hcs : chars.size < 4294967281) (hascii : ∀ (j : Nat) b, chars.data.toList[j]? = some b → b.toNat < 128) :
    Calls Try.prog 12 #[.string s, .string chars] w fun e w' => e = .returned (.int .i64 (Lib.indexAny s.data.toList chars.data.toList)) ∧ w' = ((w.alloc (.cells (Lib.setCells chars.data.toList) 48)).alloc (.cells (Lib.setCells chars.data.toList) 48)) := Any.strings_IndexAny_long Try.lays153 hv116 (by kernel_rfl) s chars w h2 h8 hs hcs hascii
/-! ### laid by hand: the table that the tool would not lay -/
def Try.lays167_ren : Go.Shelf.Ren := ⟨fun | 167 => 14 | 240 => 23 | 276 => 29 | n => n, fun | 0 => 0 | 3 => 3 | 4 => 4 | 5 => 5 | 9 => 9 | 20 => 20 | 37 => 29 | 70 => 32 | 72 => 34 | 75 => 38 | 80 => 44 | 164 => 58 | 76 => 39 | 127 => 53 | n => n, fun | n => n⟩
theorem Try.lays167 : Go.Proofs.Lays.n167 Try.prog Try.lays167_ren := {
  mixed := by kernel_rfl
  f167 := Try.func14.trans (congrArg some (by kernel_rfl))
  f240 := Try.func23.trans (congrArg some (by kernel_rfl))
  f276 := Try.func29.trans (congrArg some (by kernel_rfl))
  t0 := Try.underlying0
  a0 := Try.isAgg0
  z0 := Try.sizeOf0
  v0 := Try.zeroValue0
  t4 := Try.underlying4
  a4 := Try.isAgg4
  z4 := Try.sizeOf4
  v4 := Try.zeroValue4
  t5 := Try.underlying5
  a5 := Try.isAgg5
  z5 := Try.sizeOf5
  v5 := Try.zeroValue5
  t9 := Try.underlying9
  a9 := Try.isAgg9
  z9 := Try.sizeOf9
  v9 := Try.zeroValue9
  t20 := Try.underlying20
  a20 := Try.isAgg20
  z20 := Try.sizeOf20
  v20 := Try.zeroValue20
  t37 := Try.underlying29
  a37 := Try.isAgg29
  z37 := Try.sizeOf29
  v37 := Try.zeroValue29
  t70 := Try.underlying32
  a70 := Try.isAgg32
  z70 := Try.sizeOf32
  v70 := Try.zeroValue32
  t72 := Try.underlying34
  a72 := Try.isAgg34
  z72 := Try.sizeOf34
  v72 := Try.zeroValue34
  t75 := Try.underlying38
  a75 := Try.isAgg38
  z75 := Try.sizeOf38
  v75 := Try.zeroValue38
  t164 := Try.underlying58
  a164 := Try.isAgg58
  z164 := Try.sizeOf58
  v164 := Try.zeroValue58
}
def Try.lays166_ren : Go.Shelf.Ren := ⟨fun | 166 => 13 | 240 => 23 | 276 => 29 | n => n, fun | 0 => 0 | 3 => 3 | 4 => 4 | 5 => 5 | 9 => 9 | 20 => 20 | 37 => 29 | 70 => 32 | 72 => 34 | 75 => 38 | 80 => 44 | 164 => 58 | 76 => 39 | 127 => 53 | n => n, fun | n => n⟩
theorem Try.lays166 : Go.Proofs.Lays.n166 Try.prog Try.lays166_ren := {
  mixed := by kernel_rfl
  f166 := Try.func13.trans (congrArg some (by kernel_rfl))
  f240 := Try.func23.trans (congrArg some (by kernel_rfl))
  f276 := Try.func29.trans (congrArg some (by kernel_rfl))
  t0 := Try.underlying0
  a0 := Try.isAgg0
  z0 := Try.sizeOf0
  v0 := Try.zeroValue0
  t3 := Try.underlying3
  a3 := Try.isAgg3
  z3 := Try.sizeOf3
  v3 := Try.zeroValue3
  t4 := Try.underlying4
  a4 := Try.isAgg4
  z4 := Try.sizeOf4
  v4 := Try.zeroValue4
  t9 := Try.underlying9
  a9 := Try.isAgg9
  z9 := Try.sizeOf9
  v9 := Try.zeroValue9
  t20 := Try.underlying20
  a20 := Try.isAgg20
  z20 := Try.sizeOf20
  v20 := Try.zeroValue20
  t37 := Try.underlying29
  a37 := Try.isAgg29
  z37 := Try.sizeOf29
  v37 := Try.zeroValue29
  t70 := Try.underlying32
  a70 := Try.isAgg32
  z70 := Try.sizeOf32
  v70 := Try.zeroValue32
  t72 := Try.underlying34
  a72 := Try.isAgg34
  z72 := Try.sizeOf34
  v72 := Try.zeroValue34
  t75 := Try.underlying38
  a75 := Try.isAgg38
  z75 := Try.sizeOf38
  v75 := Try.zeroValue38
  t164 := Try.underlying58
  a164 := Try.isAgg58
  z164 := Try.sizeOf58
  v164 := Try.zeroValue58
}
theorem Try.Builder_Extra_167 : Builder.Extra Try.prog Try.lays167_ren where
  sizeBuilder := by kernel_rfl
  liesBuilder := by kernel_rfl
  t5 := Try.underlying5
  a5 := Try.isAgg5
  z5 := Try.sizeOf5
  v5 := Try.zeroValue5
  infoByte := by kernel_rfl
  cellsByte := by kernel_rfl
  sizeByte := by kernel_rfl
  neB5 := by decide
theorem Try.Builder_Extra_166 : Builder.Extra Try.prog Try.lays166_ren where
  sizeBuilder := by kernel_rfl
  liesBuilder := by kernel_rfl
  t5 := Try.underlying5
  a5 := Try.isAgg5
  z5 := Try.sizeOf5
  v5 := Try.zeroValue5
  infoByte := by kernel_rfl
  cellsByte := by kernel_rfl
  sizeByte := by kernel_rfl
  neB5 := by decide
open Go.RowKit in
theorem Try.Builder_WriteByte (B b : Nat) (bs : List Value) (c : Int) (w : World) (h : Lib.IsBuilder 34 5 B b bs w) (hlen : bs.length + 1 ≤ 140737488355328) (hBw : B ≤ w.heap.size) :
    Calls Try.prog 14 #[.pointer (some ⟨b, 0, none⟩), .int .u8 c] w fun e w' => e = .returned .nilIface ∧ (Lib.BuilderAt 34 5 B b (.pointer (some ⟨b, 0, none⟩)) (bs ++ [.int .u8 c]) w' ∧ Below B w w') := Any.Builder_WriteByte Try.lays167 Try.Builder_Extra_167 B b bs c w h hlen hBw
open Go.RowKit in
theorem Try.Builder_WriteString (B b : Nat) (bs : List Value) (s : ByteArray) (w : World) (h : Lib.IsBuilder 34 5 B b bs w) (hlen : bs.length + s.size ≤ 140737488355328) (hBw : B ≤ w.heap.size) :
    Calls Try.prog 13 #[.pointer (some ⟨b, 0, none⟩), .string s] w fun e w' => e = .returned (.tuple #[.int .i64 s.size, .nilIface]) ∧ (Lib.BuilderAt 34 5 B b (.pointer (some ⟨b, 0, none⟩)) (bs ++ Lib.strCells s) w' ∧ Below B w w') := Any.Builder_WriteString Try.lays166 Try.Builder_Extra_166 B b bs s w h hlen hBw
open Go.RowKit in
theorem Try.Builder_WriteByte_k (B b : Nat) (bs : List Value) (c : Int) (w : World) (h : Lib.IsBuilderF 34 5 B b bs w) (hlen : bs.length + 1 ≤ 140737488355328) (hBw : B ≤ w.heap.size) :
    Calls Try.prog 14 #[.pointer (some ⟨b, 0, none⟩), .int .u8 c] w fun e w' => e = .returned .nilIface ∧ (Lib.BuilderAtF 34 5 B b (.pointer (some ⟨b, 0, none⟩)) (bs ++ [.int .u8 c]) w' ∧ Below B w w' ∧ Lib.OthersKept 5 (some b) w w') := Any.Builder_WriteByte_k Try.lays167 Try.Builder_Extra_167 B b bs c w h hlen hBw
open Go.RowKit in
theorem Try.Builder_WriteString_k (B b : Nat) (bs : List Value) (s : ByteArray) (w : World) (h : Lib.IsBuilderF 34 5 B b bs w) (hlen : bs.length + s.size ≤ 140737488355328) (hBw : B ≤ w.heap.size) :
    Calls Try.prog 13 #[.pointer (some ⟨b, 0, none⟩), .string s] w fun e w' => e = .returned (.tuple #[.int .i64 s.size, .nilIface]) ∧ (Lib.BuilderAtF 34 5 B b (.pointer (some ⟨b, 0, none⟩)) (bs ++ Lib.strCells s) w' ∧ Below B w w' ∧ Lib.OthersKept 5 (some b) w w') := Any.Builder_WriteString_k Try.lays166 Try.Builder_Extra_166 B b bs s w h hlen hBw
open Go.RowKit in
theorem Try.Builder_String_any_k (B b : Nat) (l : List UInt8) (w : World) (h : Lib.IsBuilderF 34 5 B b (Lib.byteCells l) w) (hBw : B ≤ w.heap.size) :
    Calls Try.prog 17 #[.pointer (some ⟨b, 0, none⟩)] w fun e w' => e = .returned (.string ⟨l.toArray⟩) ∧ (Lib.IsBuilderF 34 5 B b (Lib.byteCells l) w' ∧ Below B w w' ∧ Lib.OthersKept 5 (some b) w w') := Any.Builder_String_any_k Try.lays169 Try.Builder_Extra_169 B b l w h hBw
end Go.Proofs
