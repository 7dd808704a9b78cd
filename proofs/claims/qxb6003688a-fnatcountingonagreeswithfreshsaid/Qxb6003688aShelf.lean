/-
  DERIVED: THE SHELF's CONTRACTS AT THIS DUMP, IN PLAIN WORDS (tools/lay-plain.mjs out of 'Qxb6003688aShelf.lean', which tools/lay-shelf.mjs wrote): THE SAME DECLARATIONS UNDER THE SAME NAMES: 'import', 'namespace', 'open', 'def', 'theorem' AND NOTHING ELSE: no command of the shelf's: FOR A HAND-IN. Each laying: the table of numbers ('.._ren') and one theorem, a field a fact of the dump's own or the kernel's comparison; each contract: ONE APPLICATION.
-/
import Derived.Ground.SlbNamesProg
import Derived.Shelf.Bytes.SlCountOne
import Derived.Shelf.Bytes.SlIndexAt
import Derived.Shelf.LaysM
import Derived.Shelf.Bytes.SlCountWhole
import Derived.Shelf.Bytes.SlSmallAll
import Derived.Shelf.Spec.RuneCount
import Derived.Shelf.Spec.NilArms
import Derived.Test.Qxb6003688aProg
namespace Go.Proofs
open Go.Shelf
def Try.laysSlB13_ren : Go.Shelf.Ren := ⟨fun | 13 => 23 | 24 => 25 | 25 => 30 | 12 => 31 | 31 => 33 | 19 => 35 | 20 => 29 | 21 => 36 | 22 => 37 | 23 => 38 | 29 => 39 | 30 => 40 | n => n, fun | 22 => 22 | 3 => 3 | 4 => 4 | 0 => 0 | 5 => 5 | 9 => 9 | 33 => 59 | 40 => 60 | 39 => 38 | n => n, fun | 0 => 0 | n => n⟩
theorem Try.laysSlB13 : Go.Proofs.SlLaysB.n13 Try.prog Try.laysSlB13_ren := {
  mixed := by kernel_rfl
  f13 := Try.func23.trans (congrArg some (by kernel_rfl))
  f25 := Try.func30.trans (congrArg some (by kernel_rfl))
  t0 := Try.underlying0
  a0 := Try.isAgg0
  z0 := Try.sizeOf0
  v0 := Try.zeroValue0
  t3 := Try.underlying3
  a3 := Try.isAgg3
  z3 := Try.sizeOf3
  v3 := Try.zeroValue3
  t4 := Try.underlying4
  a4 := Try.isAgg4
  z4 := Try.sizeOf4
  v4 := Try.zeroValue4
  t5 := Try.underlying5
  a5 := Try.isAgg5
  z5 := Try.sizeOf5
  v5 := Try.zeroValue5
  t22 := Try.underlying22
  a22 := Try.isAgg22
  z22 := Try.sizeOf22
  v22 := Try.zeroValue22 }
open Go.RowKit Go.Lib in
/-- The same, s AT WHATEVER ADDRESS, its cells as 'open_ints' hands them ('a.add i'). (LAID: no walk: one application.) -/
theorem Try.bytes_Count_one_at (a : Addr) (n c b2 o2 d : Nat) (xs : List Int) (cv : Int) (w : World) (hx : xs.length = n) (hc : ∀ i, i < n → w.cell? (a.add i) = some (.int .u8 (xs.getD i 0))) (hc2 : w.cell? ⟨b2, o2, none⟩ = some (.int .u8 cv)) :
    Calls Try.prog 23 #[.slice (some a) n c, .slice (some ⟨b2, o2, none⟩) 1 d] w fun e w' => e = .returned (.int .i64 (Lib.countByte (Lib.bytesOf xs) cv.toNat.toUInt8)) ∧ w' = w := Any.bytes_Count_one_at Try.laysSlB13 a n c b2 o2 d xs cv w hx hc hc2
open Go.RowKit Go.Lib in
/-- The same where s is nil: 0. (LAID: no walk: one application.) -/
theorem Try.bytes_Count_one_nil (b2 o2 d : Nat) (cv : Int) (w : World) (hc2 : w.cell? ⟨b2, o2, none⟩ = some (.int .u8 cv)) :
    Calls Try.prog 23 #[.slice none 0 0, .slice (some ⟨b2, o2, none⟩) 1 d] w fun e w' => e = .returned (.int .i64 0) ∧ w' = w := Any.bytes_Count_one_nil Try.laysSlB13 b2 o2 d cv w hc2
def Try.laysM185_ren : Go.Shelf.Ren := ⟨fun | 185 => 31 | 187 => 35 | 115 => 29 | 253 => 36 | 224 => 37 | 254 => 38 | 255 => 39 | 291 => 40 | n => n, fun | 37 => 22 | 3 => 3 | 4 => 4 | 0 => 0 | 5 => 5 | 46 => 59 | 9 => 9 | 146 => 60 | 51 => 38 | n => n, fun | 1 => 0 | n => n⟩
theorem Try.laysM185 : Go.Proofs.LaysM.n185 Try.prog Try.laysM185_ren := {
  mixed := by kernel_rfl
  f115 := Try.func29.trans (congrArg some (by kernel_rfl))
  f185 := Try.func31.trans (congrArg some (by kernel_rfl))
  f187 := Try.func35.trans (congrArg some (by kernel_rfl))
  f224 := Try.func37.trans (congrArg some (by kernel_rfl))
  f253 := Try.func36.trans (congrArg some (by kernel_rfl))
  f254 := Try.func38.trans (congrArg some (by kernel_rfl))
  f255 := Try.func39.trans (congrArg some (by kernel_rfl))
  f291 := Try.func40.trans (congrArg some (by kernel_rfl))
  t0 := Try.underlying0
  a0 := Try.isAgg0
  z0 := Try.sizeOf0
  v0 := Try.zeroValue0
  t3 := Try.underlying3
  a3 := Try.isAgg3
  z3 := Try.sizeOf3
  v3 := Try.zeroValue3
  t4 := Try.underlying4
  a4 := Try.isAgg4
  z4 := Try.sizeOf4
  v4 := Try.zeroValue4
  t5 := Try.underlying5
  a5 := Try.isAgg5
  z5 := Try.sizeOf5
  v5 := Try.zeroValue5
  t9 := Try.underlying9
  a9 := Try.isAgg9
  z9 := Try.sizeOf9
  v9 := Try.zeroValue9
  t37 := Try.underlying22
  a37 := Try.isAgg22
  z37 := Try.sizeOf22
  v37 := Try.zeroValue22
  t46 := Try.underlying59
  a46 := Try.isAgg59
  z46 := Try.sizeOf59
  v46 := Try.zeroValue59
  t51 := Try.underlying38
  a51 := Try.isAgg38
  z51 := Try.sizeOf38
  v51 := Try.zeroValue38
  t146 := Try.underlying60
  a146 := Try.isAgg60
  z146 := Try.sizeOf60
  v146 := Try.zeroValue60
  g1 := by kernel_rfl
  i0 := by kernel_rfl
  i3 := by kernel_rfl
  i4 := by kernel_rfl
  i5 := by kernel_rfl
  i9 := by kernel_rfl
  i37 := by kernel_rfl
  i46 := by kernel_rfl
  i51 := by kernel_rfl
  i146 := by kernel_rfl
  m1 := by kernel_rfl
  s1_3 := fun w h => Go.Proofs.cell_of_shapedOpen_int (zero := #[.int .i64 0]) (t := 3) h (of_decide_eq_true (by kernel_rfl)) (by kernel_rfl) rfl (by kernel_rfl) (by kernel_rfl) Try.underlying3 }
def Try.laysSlC13_ren : Go.Shelf.Ren := ⟨fun | 13 => 23 | 24 => 25 | 25 => 30 | 12 => 31 | 31 => 33 | 19 => 35 | 20 => 29 | 21 => 36 | 22 => 37 | 23 => 38 | 29 => 39 | 30 => 40 | n => n, fun | 22 => 22 | 3 => 3 | 4 => 4 | 0 => 0 | 5 => 5 | 9 => 9 | 33 => 59 | 40 => 60 | 39 => 38 | n => n, fun | 0 => 0 | n => n⟩
theorem Try.laysSlC13 : Go.Proofs.SlLaysC.n13 Try.prog Try.laysSlC13_ren := {
  mixed := by kernel_rfl
  f12 := Try.func31.trans (congrArg some (by kernel_rfl))
  f13 := Try.func23.trans (congrArg some (by kernel_rfl))
  f19 := Try.func35.trans (congrArg some (by kernel_rfl))
  f20 := Try.func29.trans (congrArg some (by kernel_rfl))
  f21 := Try.func36.trans (congrArg some (by kernel_rfl))
  f22 := Try.func37.trans (congrArg some (by kernel_rfl))
  f23 := Try.func38.trans (congrArg some (by kernel_rfl))
  f25 := Try.func30.trans (congrArg some (by kernel_rfl))
  f29 := Try.func39.trans (congrArg some (by kernel_rfl))
  f30 := Try.func40.trans (congrArg some (by kernel_rfl))
  t0 := Try.underlying0
  a0 := Try.isAgg0
  z0 := Try.sizeOf0
  v0 := Try.zeroValue0
  t3 := Try.underlying3
  a3 := Try.isAgg3
  z3 := Try.sizeOf3
  v3 := Try.zeroValue3
  t4 := Try.underlying4
  a4 := Try.isAgg4
  z4 := Try.sizeOf4
  v4 := Try.zeroValue4
  t5 := Try.underlying5
  a5 := Try.isAgg5
  z5 := Try.sizeOf5
  v5 := Try.zeroValue5
  t9 := Try.underlying9
  a9 := Try.isAgg9
  z9 := Try.sizeOf9
  v9 := Try.zeroValue9
  t22 := Try.underlying22
  a22 := Try.isAgg22
  z22 := Try.sizeOf22
  v22 := Try.zeroValue22
  t33 := Try.underlying59
  a33 := Try.isAgg59
  z33 := Try.sizeOf59
  v33 := Try.zeroValue59
  t39 := Try.underlying38
  a39 := Try.isAgg38
  z39 := Try.sizeOf38
  v39 := Try.zeroValue38
  t40 := Try.underlying60
  a40 := Try.isAgg60
  z40 := Try.sizeOf60
  v40 := Try.zeroValue60
  g0 := by kernel_rfl }
open Go.RowKit Go.Lib in
/-- bytes.Count at a separator of two bytes or more: "Count counts the number of non-overlapping instances of sep in s.": 'Lib.count' of the two lists of bytes. (LAID: no walk: one application.) -/
theorem Try.bytes_Count_at (a1 a2 : Addr) (n c1 k c2 : Nat) (xs ys : List Int) (m : Int) (w : World) (hx : xs.length = n) (hy : ys.length = k) (hr1 : ∀ x ∈ xs, 0 ≤ x ∧ x < 256) (hr2 : ∀ y ∈ ys, 0 ≤ y ∧ y < 256) (hc1 : ∀ i, i < n → w.cell? (a1.add i) = some (.int .u8 (xs.getD i 0))) (hc2 : ∀ i, i < k → w.cell? (a2.add i) = some (.int .u8 (ys.getD i 0))) (hcap : n ≤ c1) (hs : n < 4294967281) (hk : k ≤ 9223372036854775807) (h2 : 2 ≤ k) (hm : w.cell? ⟨0, 0, none⟩ = some (.int .i64 m)) :
    Calls Try.prog 23 #[.slice (some a1) n c1, .slice (some a2) k c2] w fun e w' => e = .returned (.int .i64 (Lib.count (Lib.bytesOf xs) (Lib.bytesOf ys))) ∧ ∃ q, w' = w.drewN q := Any.bytes_Count_at Try.laysSlC13 a1 a2 n c1 k c2 xs ys m w hx hy hr1 hr2 hc1 hc2 hcap hs hk h2 hm
open Go.RowKit Go.Lib in
/-- bytes.Count at a separator of two bytes or more where s is nil: 0. (LAID: no walk: one application.) -/
theorem Try.bytes_Count_nil (p2 : Option Addr) (k c2 : Nat) (w : World) (h2 : 2 ≤ k) (hk : k ≤ 9223372036854775807) :
    Calls Try.prog 23 #[.slice none 0 0, .slice p2 k c2] w fun e w' => e = .returned (.int .i64 0) ∧ w' = w := Any.bytes_Count_nil Try.laysSlC13 p2 k c2 w h2 hk
def Try.laysnb117_ren : Go.Shelf.Ren := ⟨fun | 117 => 22 | 115 => 29 | n => n, fun | 37 => 22 | 4 => 4 | 3 => 3 | 9 => 9 | 5 => 5 | n => n, fun | n => n⟩
theorem Try.laysnb117 : Go.Proofs.Lays.nb117 Try.prog Try.laysnb117_ren := {
  mixed := by kernel_rfl
  f115 := Try.func29.trans (congrArg some (by kernel_rfl))
  f117 := Try.func22.trans (congrArg some (by kernel_rfl))
  t3 := Try.underlying3
  a3 := Try.isAgg3
  z3 := Try.sizeOf3
  v3 := Try.zeroValue3
  t4 := Try.underlying4
  a4 := Try.isAgg4
  z4 := Try.sizeOf4
  v4 := Try.zeroValue4
  t9 := Try.underlying9
  a9 := Try.isAgg9
  z9 := Try.sizeOf9
  v9 := Try.zeroValue9
  t37 := Try.underlying22
  a37 := Try.isAgg22
  z37 := Try.sizeOf22
  v37 := Try.zeroValue22
  t5 := Try.underlying5
  a5 := Try.isAgg5
  z5 := Try.sizeOf5
  v5 := Try.zeroValue5 }
/-- bytes.HasSuffix: WHOLE: each argument nil, or of no byte at whatever address, or at an address with its cells. (LAID: no walk: one application.) -/
theorem Try.bytes_HasSuffix_all (p1 p2 : Option Addr) (n c m d : Nat) (xs ys : List Int) (w : World) (hx : xs.length = n) (hy : ys.length = m) (hnc : n ≤ c) (hbig : n ≤ 9223372036854775807) (h1 : Lib.BytesIn w p1 n xs) (h2 : Lib.BytesIn w p2 m ys) :
    Calls Try.prog 22 #[.slice p1 n c, .slice p2 m d] w fun e w' => e = .returned (.bool (Lib.hasSuffix (Lib.bytesOf xs) (Lib.bytesOf ys))) ∧ w' = w := Any.bytes_HasSuffix_all Try.laysnb117 p1 p2 n c m d xs ys w hx hy hnc hbig h1 h2
def Try.lays7_31_ren : Go.Shelf.Ren := ⟨fun | 31 => 25 | 48 => 33 | n => n, fun | 30 => 22 | 3 => 3 | 4 => 4 | 0 => 0 | 5 => 5 | 9 => 9 | n => n, fun | n => n⟩
theorem Try.lays7_31 : Go.Proofs.Lays7.n31 Try.prog Try.lays7_31_ren := {
  mixed := by kernel_rfl
  f31 := Try.func25.trans (congrArg some (by kernel_rfl))
  f48 := Try.func33.trans (congrArg some (by kernel_rfl))
  t0 := Try.underlying0
  a0 := Try.isAgg0
  z0 := Try.sizeOf0
  v0 := Try.zeroValue0
  i0 := by kernel_rfl
  t3 := Try.underlying3
  a3 := Try.isAgg3
  z3 := Try.sizeOf3
  v3 := Try.zeroValue3
  i3 := by kernel_rfl
  t4 := Try.underlying4
  a4 := Try.isAgg4
  z4 := Try.sizeOf4
  v4 := Try.zeroValue4
  i4 := by kernel_rfl
  t5 := Try.underlying5
  a5 := Try.isAgg5
  z5 := Try.sizeOf5
  v5 := Try.zeroValue5
  i5 := by kernel_rfl
  t9 := Try.underlying9
  a9 := Try.isAgg9
  z9 := Try.sizeOf9
  v9 := Try.zeroValue9
  i9 := by kernel_rfl
  t30 := Try.underlying22
  a30 := Try.isAgg22
  z30 := Try.sizeOf22
  v30 := Try.zeroValue22
  i30 := by kernel_rfl }
theorem Try.utf8_RuneCount (s : ByteArray) (b off cap : Nat) (w : World) (hcap : s.size ≤ cap) (hp : ∀ j, j < s.size → w.cell? ⟨b, off + j, none⟩ = some (.int .u8 (s.get! j).toNat)) (hs : s.size < 9223372036854775807) :
    Calls Try.prog 25 #[.slice (some ⟨b, off, none⟩) s.size cap] w fun e w' => e = .returned (.int .i64 (Lib.runeCount s)) ∧ (w' = w ∨ ∃ t pos, w' = w.iter t pos) := Any7.utf8_RuneCount Try.lays7_31 s b off cap w hcap hp hs
theorem Try.utf8_RuneCount_nil (w : World) :
    Calls Try.prog 25 #[.slice none 0 0] w fun e w' => e = .returned (.int .i64 0) ∧ w' = w := Any7.utf8_RuneCount_nil Try.lays7_31 w
end Go.Proofs
