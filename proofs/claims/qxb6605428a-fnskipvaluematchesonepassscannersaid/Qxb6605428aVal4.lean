import Derived.Test.Qxb6605428aVal2
namespace Go.Proofs.Qxb6605428a
open Go.RowKit Plain

set_option maxHeartbeats 800000 in
theorem scanval_plain (s : ByteArray) (n : Nat) (w : World) (hs : s.size ≤ 1048576) (hlt : n < s.size)
    (h1 : ¬ (s[n] = 44 ∨ s[n] = 58 ∨ s[n] = 125 ∨ s[n] = 93)) (h2 : ¬ (s[n] = 34 ∨ s[n] = 123 ∨ s[n] = 91)) :
    Calls Try.prog 14 #[.string s, .int .i64 n] w fun e w' => e = .returned (.int .i64 (skipV s.data.toList n)) ∧ w' = w := by
  have H := hide (skipV_plain hlt h1 h2)
  simp only [not_or] at h1 h2
  have q1 := (u8_no (n := 44) h1.1 rfl).1
  have q2 := (u8_no (n := 58) h1.2.1 rfl).1
  have q3 := (u8_no (n := 125) h1.2.2.1 rfl).1
  have q4 := (u8_no (n := 93) h1.2.2.2 rfl).1
  have q5 := (u8_no (n := 34) h2.1 rfl).2
  have q6 := (u8_no (n := 123) h2.2.1 rfl).2
  have q7 := (u8_no (n := 91) h2.2.2 rfl).2
  clear h1 h2
  have hz0 : decide (s.size ≤ n) = false := by simp; omega
  go_enter Try.func14, Try.ntmps14
  go_wp2
  go_loop [6] (fun j => ∃ k : Nat, k ≤ s.size ∧ j = .int .i64 k ∧ plainEnd s.data.toList n = plainEnd s.data.toList k) (fun j => s.size - (intOf j).toNat)
  case atStart => exact ⟨n, by omega, rfl, rfl⟩
  case round =>
    obtain ⟨k, hk, rfl, hf⟩ := hrel
    have HF := hide hf
    clear hf q1 q2 q3 q4 q5 q6 q7
    by_cases hkl : k < s.size
    · cases hd : isDel s[k]
      · have H2 := hide (plainEnd_go (at_of hkl) hd)
        have HI := hide hd
        clear hd
        go_wp2_with (go_at_call 17; refine (del_no _ _ HI).mono ?_; rintro e w' ⟨rfl, rfl⟩)
        go_round
        case rel => exact ⟨k + 1, by omega, by go_num, (unhide HF).trans (unhide H2)⟩
        case measure => simp [intOf]; omega
      · have H2 := hide (plainEnd_stop (at_of hkl) hd)
        have HI := hide hd
        clear hd
        go_wp2_with (go_at_call 17; refine (del_yes _ _ HI).mono ?_; rintro e w' ⟨rfl, rfl⟩)
        go_ret
        exact ⟨ret_int (by rw [unhide H, unhide HF, unhide H2]), rfl⟩
    · have H2 := hide (plainEnd_past (l := s.data.toList) (j := k) (by rw [len_of]; omega))
      go_wp2_with fail
      go_ret
      exact ⟨ret_int (by rw [unhide H, unhide HF, unhide H2]), rfl⟩

set_option maxHeartbeats 1600000 in
theorem scanval_open (s : ByteArray) (n : Nat) (w : World) (hs : s.size ≤ 1048576) (hlt : n < s.size) (hc : s[n] = 34 ∨ s[n] = 123 ∨ s[n] = 91) :
    Calls Try.prog 14 #[.string s, .int .i64 n] w fun e w' => e = .returned (.int .i64 (skipV s.data.toList n)) ∧ w' = w := by
  have H := hide (skipV_open hlt hc)
  have HC := hide hc
  have q1 := (u8_no (n := 44) (c := s[n]) (d := 44) (by rcases hc with h | h | h <;> rw [h] <;> decide) rfl).1
  have q2 := (u8_no (n := 58) (c := s[n]) (d := 58) (by rcases hc with h | h | h <;> rw [h] <;> decide) rfl).1
  have q3 := (u8_no (n := 125) (c := s[n]) (d := 125) (by rcases hc with h | h | h <;> rw [h] <;> decide) rfl).1
  have q4 := (u8_no (n := 93) (c := s[n]) (d := 93) (by rcases hc with h | h | h <;> rw [h] <;> decide) rfl).1
  have hq : (((s[n].toNat : Int) != 34) = false) ∨ (((s[n].toNat : Int) != 34) = true ∧ ((s[n].toNat : Int) != 123) = false) ∨
      (((s[n].toNat : Int) != 34) = true ∧ ((s[n].toNat : Int) != 123) = true ∧ ((s[n].toNat : Int) != 91) = false) := by
    rcases hc with h | h | h <;> rw [h] <;> decide
  clear hc
  have hz0 : decide (s.size ≤ n) = false := by simp; omega
  rcases hq with q5 | ⟨q5, q6⟩ | ⟨q5, q6, q7⟩
  all_goals
    go_enter Try.func14, Try.ntmps14
    go_wp2
    go_loop [7, 8, 9, 10, 11] (fun dd qq ee j _ => ∃ (d k : Nat) (q e : Bool), n ≤ k ∧ k ≤ s.size ∧ d ≤ k ∧ (d = 0 → q = false → k = n) ∧ (q = false → e = false) ∧ dd = .int .i64 d ∧ qq = .bool q ∧ ee = .bool e ∧ j = .int .i64 k ∧
        val s.data.toList false false 0 n = val s.data.toList q e d k) (fun _ _ _ j _ => s.size - (intOf j).toNat)
    case atStart => exact ⟨0, n, false, false, by omega, by omega, by omega, fun _ _ => rfl, fun _ => rfl, rfl, rfl, rfl, rfl, rfl⟩
    case round =>
      obtain ⟨d, k, q, e, hnk, hk, hdk, hz, hqe, rfl, rfl, rfl, rfl, hf⟩ := hrel
      have HF := hide hf
      have HZ := hide hz
      have HQ := hide hqe
      clear hf hz hqe q1 q2 q3 q4 q5
      try clear q6
      try clear q7
      by_cases hkl : k < s.size
      · cases q
        · have he := unhide HQ rfl
          subst he
          have hcd : d = 0 → s[k] = 34 ∨ s[k] = 123 ∨ s[k] = 91 := fun e0 => by
            have e1 := unhide HZ e0 rfl
            subst e1
            exact unhide HC
          by_cases c1 : s[k] = 34
          · have p1 := (u8_yes (n := 34) c1 rfl).1
            have H2 := hide (val_quote (d := d) (show s.data.toList[k]? = some 34 from by rw [at_of hkl, c1]))
            clear c1 hcd
            go_wp2_with fail
            go_round
            case rel => exact ⟨d, k + 1, true, false, by omega, by omega, by omega, fun _ h => by simp at h, fun h => by simp at h, rfl, rfl, rfl, by go_num, (unhide HF).trans (unhide H2)⟩
            case measure => simp [intOf]; omega
          · have p1 := (u8_no (n := 34) c1 rfl).1
            by_cases c2 : s[k] = 123 ∨ s[k] = 91
            · have H2 := hide (val_up (d := d) (at_of hkl) c2)
              have hq : (((s[k].toNat : Int) == 123) = true) ∨ (((s[k].toNat : Int) == 123) = false ∧ ((s[k].toNat : Int) == 91) = true) := by
                rcases c2 with h | h <;> rw [h] <;> decide
              clear c1 c2 hcd
              rcases hq with p2 | ⟨p2, p3⟩
              all_goals
                go_wp2_with fail
                go_round
                case rel => exact ⟨d + 1, k + 1, false, false, by omega, by omega, by omega, fun h _ => by omega, fun _ => rfl, by go_num, rfl, rfl, by go_num, (unhide HF).trans (unhide H2)⟩
                case measure => simp [intOf]; omega
            · have p2 := (u8_no (n := 123) (fun e => c2 (Or.inl e)) rfl).1
              have p3 := (u8_no (n := 91) (fun e => c2 (Or.inr e)) rfl).1
              have hd0 : d ≠ 0 := fun e => by
                rcases hcd e with h | h
                · exact c1 h
                · exact c2 h
              clear hcd
              by_cases c3 : s[k] = 125 ∨ s[k] = 93
              · have hq : (((s[k].toNat : Int) == 125) = true) ∨ (((s[k].toNat : Int) == 125) = false ∧ ((s[k].toNat : Int) == 93) = true) := by
                  rcases c3 with h | h <;> rw [h] <;> decide
                by_cases hd1 : d = 1
                · subst hd1
                  have H2 := hide (val_end (at_of hkl) c3)
                  clear c1 c2 c3
                  rcases hq with p4 | ⟨p4, p5⟩
                  all_goals
                    go_wp2_with fail
                    go_ret
                    exact ⟨ret_int (by rw [unhide H, unhide HF, unhide H2]; omega), rfl⟩
                · have H2 := hide (val_dn (at_of hkl) c3 hd1)
                  clear c1 c2 c3
                  rcases hq with p4 | ⟨p4, p5⟩
                  all_goals
                    go_wp2_with fail
                    go_round
                    case rel => exact ⟨d - 1, k + 1, false, false, by omega, by omega, by omega, fun h _ => by omega, fun _ => rfl, by go_num, rfl, rfl, by go_num, (unhide HF).trans (unhide H2)⟩
                    case measure => simp [intOf]; omega
              · have H2 := hide (val_out (d := d) (at_of hkl) c1 c2 c3)
                have p4 := (u8_no (n := 125) (fun e => c3 (Or.inl e)) rfl).1
                have p5 := (u8_no (n := 93) (fun e => c3 (Or.inr e)) rfl).1
                clear c1 c2 c3
                go_wp2_with fail
                go_round
                case rel => exact ⟨d, k + 1, false, false, by omega, by omega, by omega, fun h _ => absurd h hd0, fun _ => rfl, rfl, rfl, rfl, by go_num, (unhide HF).trans (unhide H2)⟩
                case measure => simp [intOf]; omega
        · cases e
          · by_cases c1 : s[k] = 92
            · have p1 := (u8_yes (n := 92) c1 rfl).1
              have H2 := hide (val_bs (d := d) (show s.data.toList[k]? = some 92 from by rw [at_of hkl, c1]))
              clear c1
              go_wp2_with fail
              go_round
              case rel => exact ⟨d, k + 1, true, true, by omega, by omega, by omega, fun _ h => by simp at h, fun h => by simp at h, rfl, rfl, rfl, by go_num, (unhide HF).trans (unhide H2)⟩
              case measure => simp [intOf]; omega
            · have p1 := (u8_no (n := 92) c1 rfl).1
              by_cases c2 : s[k] = 34
              · have p2 := (u8_yes (n := 34) c2 rfl).1
                by_cases hd0 : d = 0
                · subst hd0
                  have H2 := hide (val_q0 (show s.data.toList[k]? = some 34 from by rw [at_of hkl, c2]))
                  clear c1 c2
                  go_wp2_with fail
                  go_ret
                  exact ⟨ret_int (by rw [unhide H, unhide HF, unhide H2]; omega), rfl⟩
                · have H2 := hide (val_qd (show s.data.toList[k]? = some 34 from by rw [at_of hkl, c2]) hd0)
                  clear c1 c2
                  go_wp2_with fail
                  go_round
                  case rel => exact ⟨d, k + 1, false, false, by omega, by omega, by omega, fun h _ => absurd h hd0, fun _ => rfl, rfl, rfl, rfl, by go_num, (unhide HF).trans (unhide H2)⟩
                  case measure => simp [intOf]; omega
              · have p2 := (u8_no (n := 34) c2 rfl).1
                have H2 := hide (val_in (d := d) (at_of hkl) c1 c2)
                clear c1 c2
                go_wp2_with fail
                go_round
                case rel => exact ⟨d, k + 1, true, false, by omega, by omega, by omega, fun _ h => by simp at h, fun h => by simp at h, rfl, rfl, rfl, by go_num, (unhide HF).trans (unhide H2)⟩
                case measure => simp [intOf]; omega
          · have H2 := hide (val_esc (d := d) (at_of hkl))
            go_wp2_with fail
            go_round
            case rel => exact ⟨d, k + 1, true, false, by omega, by omega, by omega, fun _ h => by simp at h, fun h => by simp at h, rfl, rfl, rfl, by go_num, (unhide HF).trans (unhide H2)⟩
            case measure => simp [intOf]; omega
      · have H2 := hide (val_past (l := s.data.toList) (q := q) (e := e) (d := d) (j := k) (by rw [len_of]; omega))
        go_wp2_with fail
        go_ret
        exact ⟨ret_int (by rw [unhide H, unhide HF, unhide H2]), rfl⟩

set_option maxHeartbeats 800000 in
theorem scanval_any (s : ByteArray) (i : Int) (w : World) (hs : s.size ≤ 1048576) (hi : 0 ≤ i) (hi2 : i ≤ 9223372036854775807) :
    Calls Try.prog 14 #[.string s, .int .i64 i] w fun e w' => e = .returned (.int .i64 (skipV s.data.toList i.toNat)) ∧ w' = w := by
  obtain ⟨n, rfl⟩ := Int.eq_ofNat_of_zero_le hi
  rw [Int.toNat_natCast]
  by_cases hlt : n < s.size
  · by_cases h1 : s[n] = 44 ∨ s[n] = 58 ∨ s[n] = 125 ∨ s[n] = 93
    · have H := hide (skipV_bad hlt h1)
      have hq : (((s[n].toNat : Int) == 44) = true) ∨ (((s[n].toNat : Int) == 44) = false ∧ ((s[n].toNat : Int) == 58) = true) ∨
          (((s[n].toNat : Int) == 44) = false ∧ ((s[n].toNat : Int) == 58) = false ∧ ((s[n].toNat : Int) == 125) = true) ∨
          (((s[n].toNat : Int) == 44) = false ∧ ((s[n].toNat : Int) == 58) = false ∧ ((s[n].toNat : Int) == 125) = false ∧ ((s[n].toNat : Int) == 93) = true) := by
        rcases h1 with h | h | h | h <;> rw [h] <;> decide
      clear h1
      rcases hq with p1 | ⟨p1, p2⟩ | ⟨p1, p2, p3⟩ | ⟨p1, p2, p3, p4⟩
      all_goals
        go_enter Try.func14, Try.ntmps14
        go_wp2
        go_ret
        exact ⟨ret_int (unhide H).symm, rfl⟩
    · by_cases h2 : s[n] = 34 ∨ s[n] = 123 ∨ s[n] = 91
      · exact scanval_open s n w hs hlt h2
      · exact scanval_plain s n w hs hlt h1 h2
  · go_enter Try.func14, Try.ntmps14
    go_wp2
    go_ret
    exact ⟨ret_int (skipV_past (by omega)).symm, rfl⟩
end Go.Proofs.Qxb6605428a
