import Derived.Test.Qxb6605428aVal
namespace Go.Proofs.Qxb6605428a
open Go.RowKit Plain

/-! the plain answers of the five ways -/
theorem skipV_past {s : ByteArray} {n : Nat} (h : s.size ≤ n) : skipV s.data.toList n = -1 := by
  unfold skipV; rw [at_past h]
theorem skipV_bad {s : ByteArray} {n : Nat} (h : n < s.size) (hc : s[n] = 44 ∨ s[n] = 58 ∨ s[n] = 125 ∨ s[n] = 93) : skipV s.data.toList n = -1 := by
  unfold skipV; rw [at_of h]; simp [hc]
theorem skipV_open {s : ByteArray} {n : Nat} (h : n < s.size) (hc : s[n] = 34 ∨ s[n] = 123 ∨ s[n] = 91) : skipV s.data.toList n = val s.data.toList false false 0 n := by
  unfold skipV; rw [at_of h]
  have : ¬ (s[n] = 44 ∨ s[n] = 58 ∨ s[n] = 125 ∨ s[n] = 93) := by rcases hc with h | h | h <;> rw [h] <;> decide
  simp only [if_neg this, if_pos hc]
theorem skipV_quote {s : ByteArray} {n : Nat} (h : n < s.size) (hc : s[n] = 34) : skipV s.data.toList n = skipS s.data.toList n := by
  rw [skipV_open h (Or.inl hc), val_quote (by rw [at_of h, hc]), val_str0]
  unfold skipS; rw [at_of h, hc]; simp
theorem skipV_plain {s : ByteArray} {n : Nat} (h : n < s.size) (h1 : ¬ (s[n] = 44 ∨ s[n] = 58 ∨ s[n] = 125 ∨ s[n] = 93)) (h2 : ¬ (s[n] = 34 ∨ s[n] = 123 ∨ s[n] = 91)) :
    skipV s.data.toList n = plainEnd s.data.toList n := by
  unfold skipV; rw [at_of h]; simp only [if_neg h1, if_neg h2]

/-- the bytes' tests, all at once -/
structure Tests (c : UInt8) : Prop where
  t34 : ((c.toNat : Int) == 34) = (c == 34)
  t123 : ((c.toNat : Int) == 123) = (c == 123)
  t91 : ((c.toNat : Int) == 91) = (c == 91)
  t125 : ((c.toNat : Int) == 125) = (c == 125)
  t93 : ((c.toNat : Int) == 93) = (c == 93)
  t44 : ((c.toNat : Int) == 44) = (c == 44)
  t58 : ((c.toNat : Int) == 58) = (c == 58)

theorem tst (c d : UInt8) {n : Int} (hn : (d.toNat : Int) = n) : ((c.toNat : Int) == n) = (c == d) := by
  by_cases h : c = d
  · rw [(u8_yes h hn).1]; simp [h]
  · rw [(u8_no h hn).1]; simp [h]
theorem tsn (c d : UInt8) {n : Int} (hn : (d.toNat : Int) = n) : ((c.toNat : Int) != n) = (c != d) := by
  by_cases h : c = d
  · rw [(u8_yes h hn).2]; simp [h]
  · rw [(u8_no h hn).2]; simp [h]

set_option maxHeartbeats 800000 in
theorem skipval_plain (s : ByteArray) (n : Nat) (w : World) (hs : s.size ≤ 1048576) (hlt : n < s.size)
    (h1 : ¬ (s[n] = 44 ∨ s[n] = 58 ∨ s[n] = 125 ∨ s[n] = 93)) (h2 : ¬ (s[n] = 34 ∨ s[n] = 123 ∨ s[n] = 91)) :
    Calls Try.prog 12 #[.string s, .int .i64 n] w fun e w' => e = .returned (.int .i64 (skipV s.data.toList n)) ∧ w' = w := by
  have H := hide (skipV_plain hlt h1 h2)
  simp only [not_or] at h1 h2
  have q1 := (u8_no (n := 44) h1.1 rfl).1
  have q2 := (u8_no (n := 58) h1.2.1 rfl).1
  have q3 := (u8_no (n := 125) h1.2.2.1 rfl).1
  have q4 := (u8_no (n := 93) h1.2.2.2 rfl).1
  have q5 := (u8_no (n := 34) h2.1 rfl).1
  have q6 := (u8_no (n := 123) h2.2.1 rfl).1
  have q7 := (u8_no (n := 91) h2.2.2 rfl).1
  clear h1 h2
  have hz0 : decide (s.size ≤ n) = false := by simp; omega
  go_enter Try.func12, Try.ntmps12
  go_wp2
  go_loop [7] (fun j => ∃ k : Nat, k ≤ s.size ∧ j = .int .i64 k ∧ plainEnd s.data.toList n = plainEnd s.data.toList k) (fun j => s.size - (intOf j).toNat)
  case atStart => exact ⟨n, by omega, rfl, rfl⟩
  case round =>
    obtain ⟨k, hk, rfl, hf⟩ := hrel
    have HF := hide hf
    clear hf q1 q2 q3 q4 q5 q6 q7
    by_cases hkl : k < s.size
    · cases hd : isDel s[k]
      · have H2 := hide (plainEnd_go (at_of hkl) hd)
        have HI := hide (del_idx_no hd)
        clear hd
        go_wp2_with (go_at_call 16; refine (idx_del _ _ _ HI).mono ?_; rintro e w' ⟨rfl, rfl⟩)
        go_round
        case rel => exact ⟨k + 1, by omega, by go_num, (unhide HF).trans (unhide H2)⟩
        case measure => simp [intOf]; omega
      · have H2 := hide (plainEnd_stop (at_of hkl) hd)
        obtain ⟨r, hr, hr6⟩ := del_idx_yes hd
        have HI := hide hr
        clear hd hr
        go_wp2_with (go_at_call 16; refine (idx_del _ _ _ HI).mono ?_; rintro e w' ⟨rfl, rfl⟩)
        go_ret
        exact ⟨ret_int (by rw [unhide H, unhide HF, unhide H2]), rfl⟩
    · have H2 := hide (plainEnd_past (l := s.data.toList) (j := k) (by rw [len_of]; omega))
      go_wp2_with fail
      go_ret
      exact ⟨ret_int (by rw [unhide H, unhide HF, unhide H2]), rfl⟩

theorem skip_at (s : ByteArray) (k : Nat) (r : Int) (w : World) (hs : s.size ≤ 1048576) (hk : k < s.size) (h : Hid (skipS s.data.toList k = r)) :
    Calls Try.prog 8 #[.string s, .int .i64 k] w fun e w' => e = .returned (.int .i64 r) ∧ w' = w := by
  have e := skip_any s (k : Int) w hs (by omega) (by omega)
  rw [Int.toNat_natCast] at e
  rw [← unhide h]; exact e

set_option maxHeartbeats 800000 in
theorem skipval_open (s : ByteArray) (n : Nat) (w : World) (hs : s.size ≤ 1048576) (hlt : n < s.size) (hc : s[n] = 123 ∨ s[n] = 91) :
    Calls Try.prog 12 #[.string s, .int .i64 n] w fun e w' => e = .returned (.int .i64 (skipV s.data.toList n)) ∧ w' = w := by
  have H := hide (skipV_open hlt (Or.inr hc))
  have HC := hide hc
  have q1 := (u8_no (n := 34) (c := s[n]) (d := 34) (by rcases hc with h | h <;> rw [h] <;> decide) rfl).1
  have hq : (((s[n].toNat : Int) == 123) = true) ∨ (((s[n].toNat : Int) == 123) = false ∧ ((s[n].toNat : Int) == 91) = true) := by
    rcases hc with h | h
    · exact Or.inl (u8_yes h rfl).1
    · exact Or.inr ⟨(u8_no (d := 123) (by rw [h]; decide) rfl).1, (u8_yes h rfl).1⟩
  clear hc
  have hz0 : decide (s.size ≤ n) = false := by simp; omega
  rcases hq with q2 | ⟨q2, q3⟩
  all_goals
    go_enter Try.func12, Try.ntmps12
    go_wp2
    go_loop [5, 6] (fun dd j => ∃ d k : Nat, n ≤ k ∧ k ≤ s.size ∧ d ≤ k ∧ (d = 0 → k = n) ∧ dd = .int .i64 d ∧ j = .int .i64 k ∧ val s.data.toList false false 0 n = val s.data.toList false false d k) (fun _ j => s.size - (intOf j).toNat)
    case atStart => exact ⟨0, n, by omega, by omega, by omega, fun _ => rfl, rfl, rfl, rfl⟩
    case round =>
      obtain ⟨d, k, hnk, hk, hdk, hz, rfl, rfl, hf⟩ := hrel
      have HF := hide hf
      have HZ := hide hz
      clear hf hz q1 q2
      try clear q3
      by_cases hkl : k < s.size
      · by_cases c1 : s[k] = 34
        · have hd0 : d ≠ 0 := fun e => by
            have e1 := unhide HZ e
            subst e1
            rcases unhide HC with h | h <;> rw [h] at c1 <;> exact absurd c1 (by decide)
          have p1 := (u8_yes (n := 34) c1 rfl).1
          have hsk : skipS s.data.toList k = fin s.data.toList false (k + 1) := by unfold skipS; rw [at_of hkl, c1]; simp
          have hv := val_quote (d := d) (show s.data.toList[k]? = some 34 from by rw [at_of hkl, c1])
          clear c1
          rcases fin_or s.data.toList false (k + 1) with e1 | ⟨m, e1, hm1, hm2⟩
          · have HS := hide (hsk.trans e1)
            have H2 := hide (hv.trans (val_str_none hd0 e1))
            clear hsk hv e1
            go_wp2_with (go_at_call 8; refine (skip_at _ _ _ _ hs hkl HS).mono ?_; rintro e w' ⟨rfl, rfl⟩)
            go_ret
            exact ⟨ret_int (by rw [unhide H, unhide HF, unhide H2]), rfl⟩
          · have HS := hide (hsk.trans e1)
            have H2 := hide (hv.trans (val_str_some hd0 e1))
            rw [len_of] at hm2
            clear hsk hv e1
            go_wp2_with (go_at_call 8; refine (skip_at _ _ _ _ hs hkl HS).mono ?_; rintro e w' ⟨rfl, rfl⟩)
            go_round
            case rel => exact ⟨d, m, by omega, by omega, by omega, fun e => absurd e hd0, rfl, rfl, (unhide HF).trans (unhide H2)⟩
            case measure => simp [intOf]; omega
        · have p1 := (u8_no (n := 34) c1 rfl).1
          by_cases c2 : s[k] = 123 ∨ s[k] = 91
          · have H2 := hide (val_up (d := d) (at_of hkl) c2)
            have hq : (((s[k].toNat : Int) == 123) = true) ∨ (((s[k].toNat : Int) == 123) = false ∧ ((s[k].toNat : Int) == 91) = true) := by
              rcases c2 with h | h
              · exact Or.inl (u8_yes h rfl).1
              · exact Or.inr ⟨(u8_no (d := 123) (by rw [h]; decide) rfl).1, (u8_yes h rfl).1⟩
            clear c1 c2
            rcases hq with p2 | ⟨p2, p3⟩
            all_goals
              go_wp2_with fail
              go_round
              case rel => exact ⟨d + 1, k + 1, by omega, by omega, by omega, fun e => absurd e (by omega), by go_num, by go_num, (unhide HF).trans (unhide H2)⟩
              case measure => simp [intOf]; omega
          · have p2 := (u8_no (n := 123) (fun e => c2 (Or.inl e)) rfl).1
            have p3 := (u8_no (n := 91) (fun e => c2 (Or.inr e)) rfl).1
            have hd0 : d ≠ 0 := fun e => by
              have e1 := unhide HZ e
              subst e1
              exact c2 (unhide HC)
            by_cases c3 : s[k] = 125 ∨ s[k] = 93
            · have hq : (((s[k].toNat : Int) == 125) = true) ∨ (((s[k].toNat : Int) == 125) = false ∧ ((s[k].toNat : Int) == 93) = true) := by
                rcases c3 with h | h
                · exact Or.inl (u8_yes h rfl).1
                · exact Or.inr ⟨(u8_no (d := 125) (by rw [h]; decide) rfl).1, (u8_yes h rfl).1⟩
              by_cases hd1 : d = 1
              · subst hd1
                have H2 := hide (val_end (at_of hkl) c3)
                clear c1 c2 c3
                rcases hq with p4 | ⟨p4, p5⟩
                all_goals
                  go_wp2_with fail
                  go_ret
                  exact ⟨ret_int (by rw [unhide H, unhide HF, unhide H2]; omega), rfl⟩
              · have H2 := hide (val_dn (at_of hkl) c3 hd1)
                clear c1 c2 c3
                rcases hq with p4 | ⟨p4, p5⟩
                all_goals
                  go_wp2_with fail
                  go_round
                  case rel => exact ⟨d - 1, k + 1, by omega, by omega, by omega, fun e => absurd e (by omega), by go_num, by go_num, (unhide HF).trans (unhide H2)⟩
                  case measure => simp [intOf]; omega
            · have H2 := hide (val_out (d := d) (at_of hkl) c1 c2 c3)
              have p4 := (u8_no (n := 125) (fun e => c3 (Or.inl e)) rfl).1
              have p5 := (u8_no (n := 93) (fun e => c3 (Or.inr e)) rfl).1
              clear c1 c2 c3
              go_wp2_with fail
              go_round
              case rel => exact ⟨d, k + 1, by omega, by omega, by omega, fun e => absurd e hd0, by go_num, by go_num, (unhide HF).trans (unhide H2)⟩
              case measure => simp [intOf]; omega
      · have H2 := hide (val_past (l := s.data.toList) (q := false) (e := false) (d := d) (j := k) (by rw [len_of]; omega))
        go_wp2_with fail
        go_ret
        exact ⟨ret_int (by rw [unhide H, unhide HF, unhide H2]), rfl⟩
end Go.Proofs.Qxb6605428a
