import Derived.Test.Qxb6605428aSkip
namespace Go.Proofs.Qxb6605428a
open Go.RowKit Plain

theorem ret_bool {a b : Bool} (h : a = b) : Ending.returned (.bool a) = .returned (.bool b) := by rw [h]

theorem del_idx_no {c : UInt8} (h : isDel c = false) : Lib.indexByte [44, 125, 93, 32, 9, 10, 13] c = -1 := by
  simp only [isDel, Bool.or_eq_false_iff, beq_eq_false_iff_ne] at h
  obtain ⟨⟨⟨⟨⟨⟨h1, h2⟩, h3⟩, h4⟩, h5⟩, h6⟩, h7⟩ := h
  have n1 : ((44 : UInt8) == c) = false := by simpa using Ne.symm h1
  have n2 : ((125 : UInt8) == c) = false := by simpa using Ne.symm h2
  have n3 : ((93 : UInt8) == c) = false := by simpa using Ne.symm h3
  have n4 : ((32 : UInt8) == c) = false := by simpa using Ne.symm h4
  have n5 : ((9 : UInt8) == c) = false := by simpa using Ne.symm h5
  have n6 : ((10 : UInt8) == c) = false := by simpa using Ne.symm h6
  have n7 : ((13 : UInt8) == c) = false := by simpa using Ne.symm h7
  simp [Lib.indexByte, n1, n2, n3, n4, n5, n6, n7]

theorem del_cases {c : UInt8} (h : isDel c = true) : c = 44 ∨ c = 125 ∨ c = 93 ∨ c = 32 ∨ c = 9 ∨ c = 10 ∨ c = 13 := by
  simp only [isDel, Bool.or_eq_true, beq_iff_eq] at h
  rcases h with (((((h | h) | h) | h) | h) | h) | h <;> simp [h]

theorem del_idx_yes {c : UInt8} (h : isDel c = true) : ∃ r : Nat, Lib.indexByte [44, 125, 93, 32, 9, 10, 13] c = r ∧ r ≤ 6 := by
  rcases del_cases h with rfl | rfl | rfl | rfl | rfl | rfl | rfl
  · exact ⟨0, by decide, by omega⟩
  · exact ⟨1, by decide, by omega⟩
  · exact ⟨2, by decide, by omega⟩
  · exact ⟨3, by decide, by omega⟩
  · exact ⟨4, by decide, by omega⟩
  · exact ⟨5, by decide, by omega⟩
  · exact ⟨6, by decide, by omega⟩

theorem idx_del (c : UInt8) (r : Int) (w : World) (h : Hid (Lib.indexByte [44, 125, 93, 32, 9, 10, 13] c = r)) :
    Calls Try.prog 16 #[.string { data := #[44, 125, 93, 32, 9, 10, 13] }, .int .u8 (c.toNat : Int)] w fun e w' => e = .returned (.int .i64 r) ∧ w' = w := by
  have e := idx_any { data := #[44, 125, 93, 32, 9, 10, 13] } (c.toNat : Int) w
  have e2 : (c.toNat : Int).toNat.toUInt8 = c := by simp
  rw [e2] at e
  rw [← unhide h]
  exact e

set_option maxHeartbeats 400000 in
theorem del_any (c : UInt8) (w : World) :
    Calls Try.prog 17 #[.int .u8 (c.toNat : Int)] w fun e w' => e = .returned (.bool (isDel c)) ∧ w' = w := by
  by_cases h1 : c = 44
  · subst h1; go_enter Try.func17, Try.ntmps17; go_wp2; go_ret; exact ⟨rfl, rfl⟩
  by_cases h2 : c = 125
  · subst h2; go_enter Try.func17, Try.ntmps17; go_wp2; go_ret; exact ⟨rfl, rfl⟩
  by_cases h3 : c = 93
  · subst h3; go_enter Try.func17, Try.ntmps17; go_wp2; go_ret; exact ⟨rfl, rfl⟩
  by_cases h4 : c = 32
  · subst h4; go_enter Try.func17, Try.ntmps17; go_wp2; go_ret; exact ⟨rfl, rfl⟩
  by_cases h5 : c = 9
  · subst h5; go_enter Try.func17, Try.ntmps17; go_wp2; go_ret; exact ⟨rfl, rfl⟩
  by_cases h6 : c = 10
  · subst h6; go_enter Try.func17, Try.ntmps17; go_wp2; go_ret; exact ⟨rfl, rfl⟩
  by_cases h7 : c = 13
  · subst h7; go_enter Try.func17, Try.ntmps17; go_wp2; go_ret; exact ⟨rfl, rfl⟩
  have hd : isDel c = false := by simp [isDel, h1, h2, h3, h4, h5, h6, h7]
  have q1 := (u8_no (n := 44) h1 rfl).1
  have q2 := (u8_no (n := 125) h2 rfl).1
  have q3 := (u8_no (n := 93) h3 rfl).1
  have q4 := (u8_no (n := 32) h4 rfl).1
  have q5 := (u8_no (n := 9) h5 rfl).1
  have q6 := (u8_no (n := 10) h6 rfl).1
  have q7 := (u8_no (n := 13) h7 rfl).1
  rw [hd]
  clear h1 h2 h3 h4 h5 h6 h7 hd
  go_enter Try.func17, Try.ntmps17
  go_wp2
  go_ret
  exact ⟨rfl, rfl⟩

theorem del_yes (c : UInt8) (w : World) (h : Hid (isDel c = true)) :
    Calls Try.prog 17 #[.int .u8 (c.toNat : Int)] w fun e w' => e = .returned (.bool true) ∧ w' = w := by
  rw [← unhide h]; exact del_any c w
theorem del_no (c : UInt8) (w : World) (h : Hid (isDel c = false)) :
    Calls Try.prog 17 #[.int .u8 (c.toNat : Int)] w fun e w' => e = .returned (.bool false) ∧ w' = w := by
  rw [← unhide h]; exact del_any c w
end Go.Proofs.Qxb6605428a
