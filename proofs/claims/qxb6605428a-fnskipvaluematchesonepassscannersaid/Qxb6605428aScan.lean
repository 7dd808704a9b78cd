import Derived.Test.Qxb6605428aProg
import Derived.Test.Qxb6605428aPlain
import Derived.WalkKit
import Derived.WalkSpells
namespace Go.Proofs.Qxb6605428a
open Go.RowKit Plain

theorem hide {p : Prop} (h : p) : Hid p := h
theorem unhide {p : Prop} (h : Hid p) : p := h
theorem ret_int {k : IntKind} {a b : Int} (h : a = b) : Ending.returned (.int k a) = .returned (.int k b) := by rw [h]

theorem at_of {s : ByteArray} {k : Nat} (h : k < s.size) : s.data.toList[k]? = some s[k] := by
  rw [List.getElem?_eq_getElem (by simpa using h)]; rfl
theorem at_past {s : ByteArray} {k : Nat} (h : s.size ≤ k) : s.data.toList[k]? = none := by
  rw [List.getElem?_eq_none]; simpa using h
theorem len_of (s : ByteArray) : s.data.toList.length = s.size := by simp

/-- a byte's test in the walk's two forms, out of the byte itself -/
theorem u8_yes {c d : UInt8} {n : Int} (h : c = d) (hn : (d.toNat : Int) = n) : ((c.toNat : Int) == n) = true ∧ ((c.toNat : Int) != n) = false := by
  subst h; subst hn; simp
theorem u8_no {c d : UInt8} {n : Int} (h : c ≠ d) (hn : (d.toNat : Int) = n) : ((c.toNat : Int) == n) = false ∧ ((c.toNat : Int) != n) = true := by
  have : c.toNat ≠ d.toNat := fun e => h (UInt8.toNat_inj.1 e)
  subst hn; simp; omega

set_option maxHeartbeats 400000 in
theorem scan_any (s : ByteArray) (i : Int) (w : World) (hs : s.size ≤ 1048576) (hi : 0 ≤ i) (hi2 : i ≤ 9223372036854775807) :
    Calls Try.prog 9 #[.string s, .int .i64 i] w fun e w' => e = .returned (.int .i64 (skipS s.data.toList i.toNat)) ∧ w' = w := by
  obtain ⟨n, rfl⟩ := Int.eq_ofNat_of_zero_le hi
  rw [Int.toNat_natCast]
  by_cases hlt : n < s.size
  · by_cases hq : s[n] = 34
    · obtain ⟨q1, q2⟩ := u8_yes (n := 34) hq rfl
      have H := hide (show skipS s.data.toList n = fin s.data.toList false (n + 1) from by unfold skipS; rw [at_of hlt, hq]; simp)
      clear hq
      go_enter Try.func9, Try.ntmps9
      go_wp2
      go_loop [5, 6] (fun j _ => ∃ k : Nat, k ≤ s.size + 1 ∧ j = .int .i64 k ∧ fin s.data.toList false (n + 1) = fin s.data.toList false k) (fun j _ => s.size + 1 - (intOf j).toNat)
      case atStart => exact ⟨n + 1, by omega, by go_num, rfl⟩
      case round =>
        obtain ⟨k, hk, rfl, hf⟩ := hrel
        have HF := hide hf
        clear hf
        by_cases hkl : k < s.size
        · by_cases hb : s[k] = 92
          · obtain ⟨q3, q4⟩ := u8_yes (n := 92) hb rfl
            have H2 := hide (fin_bs2 (by rw [at_of hkl, hb]))
            clear hb
            go_wp2
            go_round
            case rel => exact ⟨k + 2, by omega, by go_num, (unhide HF).trans (unhide H2)⟩
            case measure => simp [intOf]; omega
          · obtain ⟨q3, q4⟩ := u8_no (n := 92) hb rfl
            by_cases hq : s[k] = 34
            · obtain ⟨q5, q6⟩ := u8_yes (n := 34) hq rfl
              have H2 := hide (fin_q (by rw [at_of hkl, hq]))
              clear hb hq
              go_wp2
              go_ret
              exact ⟨ret_int (by rw [unhide H, unhide HF, unhide H2]; omega), rfl⟩
            · obtain ⟨q5, q6⟩ := u8_no (n := 34) hq rfl
              have H2 := hide (fin_other (at_of hkl) hb hq)
              clear hb hq
              go_wp2
              go_round
              case rel => exact ⟨k + 1, by omega, by go_num, (unhide HF).trans (unhide H2)⟩
              case measure => simp [intOf]; omega
        · have H2 := hide (fin_past (l := s.data.toList) (e := false) (j := k) (by rw [len_of]; omega))
          go_wp2
          go_ret
          exact ⟨ret_int (by rw [unhide H, unhide HF, unhide H2]), rfl⟩
    · obtain ⟨q1, q2⟩ := u8_no (n := 34) hq rfl
      have H := hide (show skipS s.data.toList n = -1 from by unfold skipS; rw [at_of hlt]; simp [hq])
      clear hq
      go_enter Try.func9, Try.ntmps9
      go_wp2
      go_ret
      exact ⟨ret_int (unhide H).symm, rfl⟩
  · go_enter Try.func9, Try.ntmps9
    go_wp2
    go_ret
    exact ⟨ret_int (by unfold skipS; rw [at_past (by omega)]; simp), rfl⟩
end Go.Proofs.Qxb6605428a
