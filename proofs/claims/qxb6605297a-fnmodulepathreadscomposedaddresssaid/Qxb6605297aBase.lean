import Derived.Test.Qxb6605297aProg
import Derived.WalkKit
import Derived.WalkSpells
namespace Go.Proofs.Qxb6605297a
open Go.RowKit

theorem hide {p : Prop} (h : p) : Hid p := h
theorem unhide {p : Prop} (h : Hid p) : p := h
theorem ret_int {k : IntKind} {a b : Int} (h : a = b) : Ending.returned (.int k a) = .returned (.int k b) := by rw [h]
theorem ret_bool {a b : Bool} (h : a = b) : Ending.returned (.bool a) = .returned (.bool b) := by rw [h]
theorem at_of {s : ByteArray} {k : Nat} (h : k < s.size) : s.data.toList[k]? = some s[k] := by
  rw [List.getElem?_eq_getElem (by simpa using h)]; rfl
theorem at_past {s : ByteArray} {k : Nat} (h : s.size ≤ k) : s.data.toList[k]? = none := by
  rw [List.getElem?_eq_none]; simpa using h
theorem len_of (s : ByteArray) : s.data.toList.length = s.size := by simp
theorem u8_yes {c d : UInt8} {n : Int} (h : c = d) (hn : (d.toNat : Int) = n) : ((c.toNat : Int) == n) = true ∧ ((c.toNat : Int) != n) = false := by
  subst h; subst hn; simp
theorem u8_no {c d : UInt8} {n : Int} (h : c ≠ d) (hn : (d.toNat : Int) = n) : ((c.toNat : Int) == n) = false ∧ ((c.toNat : Int) != n) = true := by
  have : c.toNat ≠ d.toNat := fun e => h (UInt8.toNat_inj.1 e)
  subst hn; simp; omega
end Go.Proofs.Qxb6605297a
