import Derived.Test.Qxb6605428aVal2
namespace Go.Proofs.Qxb6605428a
open Go.RowKit Plain

set_option maxHeartbeats 800000 in
theorem skipval_any (s : ByteArray) (i : Int) (w : World) (hs : s.size ≤ 1048576) (hi : 0 ≤ i) (hi2 : i ≤ 9223372036854775807) :
    Calls Try.prog 12 #[.string s, .int .i64 i] w fun e w' => e = .returned (.int .i64 (skipV s.data.toList i.toNat)) ∧ w' = w := by
  obtain ⟨n, rfl⟩ := Int.eq_ofNat_of_zero_le hi
  rw [Int.toNat_natCast]
  by_cases hlt : n < s.size
  · by_cases h1 : s[n] = 44 ∨ s[n] = 58 ∨ s[n] = 125 ∨ s[n] = 93
    · have H := hide (skipV_bad hlt h1)
      have q1 := (u8_no (n := 34) (c := s[n]) (d := 34) (by rcases h1 with h | h | h | h <;> rw [h] <;> decide) rfl).1
      have q2 := (u8_no (n := 123) (c := s[n]) (d := 123) (by rcases h1 with h | h | h | h <;> rw [h] <;> decide) rfl).1
      have q3 := (u8_no (n := 91) (c := s[n]) (d := 91) (by rcases h1 with h | h | h | h <;> rw [h] <;> decide) rfl).1
      have hq : (((s[n].toNat : Int) == 44) = true) ∨ (((s[n].toNat : Int) == 44) = false ∧ ((s[n].toNat : Int) == 58) = true) ∨
          (((s[n].toNat : Int) == 44) = false ∧ ((s[n].toNat : Int) == 58) = false ∧ ((s[n].toNat : Int) == 125) = true) ∨
          (((s[n].toNat : Int) == 44) = false ∧ ((s[n].toNat : Int) == 58) = false ∧ ((s[n].toNat : Int) == 125) = false ∧ ((s[n].toNat : Int) == 93) = true) := by
        rcases h1 with h | h | h | h <;> rw [h] <;> decide
      clear h1
      rcases hq with p1 | ⟨p1, p2⟩ | ⟨p1, p2, p3⟩ | ⟨p1, p2, p3, p4⟩
      all_goals
        go_enter Try.func12, Try.ntmps12
        go_wp2
        go_ret
        exact ⟨ret_int (unhide H).symm, rfl⟩
    · by_cases h2 : s[n] = 34
      · have H := hide (skipV_quote hlt h2).symm
        have q1 := (u8_yes (n := 34) h2 rfl).1
        clear h1 h2
        go_enter Try.func12, Try.ntmps12
        go_wp2_with (go_at_call 8; refine (skip_at _ _ _ _ hs hlt H).mono ?_; rintro e w' ⟨rfl, rfl⟩)
        go_ret
        exact ⟨rfl, rfl⟩
      · by_cases h3 : s[n] = 123 ∨ s[n] = 91
        · exact skipval_open s n w hs hlt h3
        · refine skipval_plain s n w hs hlt h1 ?_
          rintro (h | h)
          · exact h2 h
          · exact h3 h
  · go_enter Try.func12, Try.ntmps12
    go_wp2
    go_ret
    exact ⟨ret_int (skipV_past (by omega)).symm, rfl⟩
end Go.Proofs.Qxb6605428a
