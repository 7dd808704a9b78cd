import Derived.Test.Qxb6606184aDoorScan
namespace Go.Proofs.Qxb6606184aDoor
open Go.RowKit Plain

theorem dig_iff (c : UInt8) : dig c = true ↔ ((48 : Int) ≤ (c.toNat : Int) ∧ (c.toNat : Int) ≤ 57) := by
  unfold dig
  simp [UInt8.le_iff_toNat_le]; omega

theorem digs_go {l : List UInt8} {o d : Nat} {c : UInt8} (hd : d < 6) (hc : l[o + d]? = some c) (h : dig c = true) : digs l o (6 - d) d = digs l o (6 - (d + 1)) (d + 1) := by
  have e : 6 - d = (6 - (d + 1)) + 1 := by omega
  rw [e, digs, hc]; simp [h]
theorem digs_stop {l : List UInt8} {o d : Nat} {c : UInt8} (hd : d < 6) (hc : l[o + d]? = some c) (h : dig c = false) : digs l o (6 - d) d = d := by
  have e : 6 - d = (6 - (d + 1)) + 1 := by omega
  rw [e, digs, hc]; simp [h]
theorem digs_end {l : List UInt8} {o d : Nat} (hd : d < 6) (hc : l[o + d]? = none) : digs l o (6 - d) d = d := by
  have e : 6 - d = (6 - (d + 1)) + 1 := by omega
  rw [e, digs, hc]

set_option maxHeartbeats 400000 in
theorem zdig_any (c : UInt8) (w : World) :
    Calls Tryd.prog 27 #[.int .u8 (c.toNat : Int)] w fun e w' => e = .returned (.bool (dig c)) ∧ w' = w := by
  by_cases h1 : (48 : Int) ≤ (c.toNat : Int)
  · by_cases h2 : (c.toNat : Int) ≤ 57
    · have H := hide ((dig_iff c).2 ⟨h1, h2⟩)
      go_enter Tryd.func27, Tryd.ntmps27
      go_wp2
      go_ret
      exact ⟨ret_bool (by rw [unhide H]), rfl⟩
    · have H := hide (show dig c = false from by rw [Bool.eq_false_iff]; intro h; exact h2 ((dig_iff c).1 h).2)
      go_enter Tryd.func27, Tryd.ntmps27
      go_wp2
      go_ret
      exact ⟨ret_bool (by rw [unhide H]), rfl⟩
  · have H := hide (show dig c = false from by rw [Bool.eq_false_iff]; intro h; exact h1 ((dig_iff c).1 h).1)
    go_enter Tryd.func27, Tryd.ntmps27
    go_wp2
    go_ret
    exact ⟨ret_bool (by rw [unhide H]), rfl⟩

set_option maxHeartbeats 400000 in
theorem edig_any (c : UInt8) (w : World) :
    Calls Tryd.prog 33 #[.int .u8 (c.toNat : Int)] w fun e w' => e = .returned (.bool (dig c)) ∧ w' = w := by
  by_cases h1 : (48 : Int) ≤ (c.toNat : Int)
  · by_cases h2 : (c.toNat : Int) ≤ 57
    · have H := hide ((dig_iff c).2 ⟨h1, h2⟩)
      go_enter Tryd.func33, Tryd.ntmps33
      go_wp2
      go_ret
      exact ⟨ret_bool (by rw [unhide H]), rfl⟩
    · have H := hide (show dig c = false from by rw [Bool.eq_false_iff]; intro h; exact h2 ((dig_iff c).1 h).2)
      go_enter Tryd.func33, Tryd.ntmps33
      go_wp2
      go_ret
      exact ⟨ret_bool (by rw [unhide H]), rfl⟩
  · have H := hide (show dig c = false from by rw [Bool.eq_false_iff]; intro h; exact h1 ((dig_iff c).1 h).1)
    go_enter Tryd.func33, Tryd.ntmps33
    go_wp2
    go_ret
    exact ⟨ret_bool (by rw [unhide H]), rfl⟩

theorem zdig_is (c : UInt8) (b : Bool) (w : World) (h : Hid (dig c = b)) :
    Calls Tryd.prog 27 #[.int .u8 (c.toNat : Int)] w fun e w' => e = .returned (.bool b) ∧ w' = w := by
  rw [← unhide h]; exact zdig_any c w
theorem edig_is (c : UInt8) (b : Bool) (w : World) (h : Hid (dig c = b)) :
    Calls Tryd.prog 33 #[.int .u8 (c.toNat : Int)] w fun e w' => e = .returned (.bool b) ∧ w' = w := by
  rw [← unhide h]; exact edig_any c w

theorem opn3 {s : ByteArray} (h2 : 2 < s.size) (a : s[0] = 47) (b : s[1] = 42) (c : s[2] = 33) : opn s.data.toList = 3 := by
  unfold opn; rw [at_of (k := 0) (by omega), at_of (k := 1) (by omega), at_of h2, a, b, c]; simp
theorem opn4 {s : ByteArray} (h3 : 3 < s.size) (a : s[0] = 47) (b : s[1] = 42) (c : s[2] = 77) (d : s[3] = 33) : opn s.data.toList = 4 := by
  unfold opn; rw [at_of (k := 0) (by omega), at_of (k := 1) (by omega), at_of (k := 2) (by omega), at_of h3, a, b, c, d]; simp
theorem opn0_short {s : ByteArray} (h : s.size ≤ 2) : opn s.data.toList = 0 := by
  unfold opn; rw [at_past (k := 2) (by omega)]; simp
theorem opn0_three {s : ByteArray} (h2 : s.size = 3) (c : s[2] ≠ 33) : opn s.data.toList = 0 := by
  unfold opn; rw [at_of (k := 2) (by omega), at_past (k := 3) (by omega)]; simp [c]
theorem opn0_four {s : ByteArray} (h3 : 3 < s.size) (c : s[2] ≠ 33) (d : ¬ (s[2] = 77 ∧ s[3] = 33)) : opn s.data.toList = 0 := by
  unfold opn; rw [at_of (k := 2) (by omega), at_of h3]
  simp only [Option.some.injEq, c, and_false, if_false]
  rw [if_neg]; rintro ⟨_, _, e, f⟩; exact d ⟨e, f⟩

theorem body_no {l : List UInt8} (h : opn l = 0) : body l = -1 := by unfold body; simp [h]
theorem body_few {l : List UInt8} {o : Nat} (h : opn l = o) (ho : o ≠ 0) (hn : nd l o < 5) : body l = -1 := by
  unfold body; rw [h]; simp [ho, hn]
theorem body_some {l : List UInt8} {o : Nat} (h : opn l = o) (ho : o ≠ 0) (hn : ¬ nd l o < 5) : body l = (o + nd l o : Nat) := by
  unfold body; rw [h]; simp [ho, hn]

/-- the ways a block comment may open -/
theorem open_cases (s : ByteArray) (hs : 2 ≤ s.size) (_a : s[0] = 47) (_b : s[1] = 42) :
    (∃ h : 2 < s.size, s[2] = 33) ∨ (∃ h : 3 < s.size, s[2] ≠ 33 ∧ s[2] = 77 ∧ s[3] = 33) ∨
    (s.size = 2) ∨ (∃ h : s.size = 3, s[2] ≠ 33) ∨ (∃ h : 3 < s.size, s[2] ≠ 33 ∧ s[2] ≠ 77) ∨ (∃ h : 3 < s.size, s[2] ≠ 33 ∧ s[2] = 77 ∧ s[3] ≠ 33) := by
  by_cases h2 : 2 < s.size
  · by_cases c : s[2] = 33
    · exact Or.inl ⟨h2, c⟩
    · by_cases h3 : 3 < s.size
      · by_cases d : s[2] = 77
        · by_cases e : s[3] = 33
          · exact Or.inr (Or.inl ⟨h3, c, d, e⟩)
          · exact Or.inr (Or.inr (Or.inr (Or.inr (Or.inr ⟨h3, c, d, e⟩))))
        · exact Or.inr (Or.inr (Or.inr (Or.inr (Or.inl ⟨h3, c, d⟩))))
      · exact Or.inr (Or.inr (Or.inr (Or.inl ⟨by omega, c⟩)))
  · exact Or.inr (Or.inr (Or.inl (by omega)))

set_option maxHeartbeats 1600000 in
theorem vbody_any (s : ByteArray) (w : World) (hs : s.size ≤ 524288) (h2 : 2 ≤ s.size) (a : s[0] = 47) (b : s[1] = 42) :
    Calls Tryd.prog 19 #[.string s] w fun e w' => e = .returned (.int .i64 (body s.data.toList)) ∧ w' = w := by
  have pa := (u8_yes (n := 47) a rfl).1
  have pb := (u8_yes (n := 42) b rfl).1
  rcases open_cases s h2 a b with ⟨h3, c⟩ | ⟨h3, c1, c, d⟩ | h3 | ⟨h3, c⟩ | ⟨h3, c, d⟩ | ⟨h3, c1, c, d⟩
  · have HO := hide (opn3 h3 a b c)
    have pc := (u8_yes (n := 33) c rfl).1
    clear a b c
    go_enter Tryd.func19, Tryd.ntmps19
    go_wp2
    go_loop [4] (fun t => ∃ d : Nat, d ≤ 6 ∧ 3 + d ≤ s.size ∧ t = .int .i64 d ∧ nd s.data.toList 3 = digs s.data.toList 3 (6 - d) d) (fun t => 6 - (intOf t).toNat)
    case atStart => exact ⟨0, by omega, by omega, rfl, rfl⟩
    case round =>
      obtain ⟨d, hd, hod, rfl, hf⟩ := hrel
      have HF := hide hf
      clear hf
      by_cases hgo : ∃ (h6 : d < 6) (hl : 3 + d < s.size), dig s[3 + d] = true
      · obtain ⟨h6, hl, hdg⟩ := hgo
        have H2 := hide (digs_go h6 (at_of hl) hdg)
        have HD := hide hdg
        clear hdg
        go_wp2_with (go_at_call 27; refine (zdig_is _ _ _ HD).mono ?_; rintro e w' ⟨rfl, rfl⟩)
        go_round
        case rel => exact ⟨d + 1, by omega, by omega, by go_num, (unhide HF).trans (unhide H2)⟩
        case measure => simp [intOf]; omega
      · have hn : nd s.data.toList 3 = d := by
          rw [unhide HF]
          by_cases h6 : d < 6
          · by_cases hl : 3 + d < s.size
            · refine digs_stop h6 (at_of hl) ?_
              rw [Bool.eq_false_iff]; intro h; exact hgo ⟨h6, hl, h⟩
            · exact digs_end h6 (at_past (by omega))
          · have e : d = 6 := by omega
            subst e; rfl
        have hw : ¬ d < 6 ∨ (d < 6 ∧ ¬ 3 + d < s.size) ∨ (∃ (_ : d < 6) (hl : 3 + d < s.size), dig s[3 + d] = false) := by
          by_cases h6 : d < 6
          · by_cases hl : 3 + d < s.size
            · refine Or.inr (Or.inr ⟨h6, hl, ?_⟩)
              rw [Bool.eq_false_iff]; intro h; exact hgo ⟨h6, hl, h⟩
            · exact Or.inr (Or.inl ⟨h6, hl⟩)
          · exact Or.inl h6
        clear hgo
        by_cases h5 : d < 5
        · have H := hide (body_few (unhide HO) (by decide) (by rw [hn]; exact h5))
          clear hn
          rcases hw with h6 | ⟨h6, hl⟩ | ⟨h6, hl, hdg⟩
          · omega
          · go_wp2_with fail
            go_ret
            exact ⟨ret_int (unhide H).symm, rfl⟩
          · have HD := hide hdg
            clear hdg
            go_wp2_with (go_at_call 27; refine (zdig_is _ _ _ HD).mono ?_; rintro e w' ⟨rfl, rfl⟩)
            go_ret
            exact ⟨ret_int (unhide H).symm, rfl⟩
        · have H := hide (body_some (unhide HO) (by decide) (by rw [hn]; exact h5))
          rw [hn] at H
          clear hn
          rcases hw with h6 | ⟨h6, hl⟩ | ⟨h6, hl, hdg⟩
          · go_wp2_with fail
            go_ret
            exact ⟨ret_int (by rw [unhide H]; omega), rfl⟩
          · go_wp2_with fail
            go_ret
            exact ⟨ret_int (by rw [unhide H]; omega), rfl⟩
          · have HD := hide hdg
            clear hdg
            go_wp2_with (go_at_call 27; refine (zdig_is _ _ _ HD).mono ?_; rintro e w' ⟨rfl, rfl⟩)
            go_ret
            exact ⟨ret_int (by rw [unhide H]; omega), rfl⟩
  · have HO := hide (opn4 h3 a b c d)
    have pc1 := (u8_no (n := 33) c1 rfl).1
    have pc := (u8_yes (n := 77) c rfl).1
    have pd := (u8_yes (n := 33) d rfl).1
    clear a b c c1 d
    go_enter Tryd.func19, Tryd.ntmps19
    go_wp2
    go_loop [4] (fun t => ∃ d : Nat, d ≤ 6 ∧ 4 + d ≤ s.size ∧ t = .int .i64 d ∧ nd s.data.toList 4 = digs s.data.toList 4 (6 - d) d) (fun t => 6 - (intOf t).toNat)
    case atStart => exact ⟨0, by omega, by omega, rfl, rfl⟩
    case round =>
      obtain ⟨d, hd, hod, rfl, hf⟩ := hrel
      have HF := hide hf
      clear hf
      by_cases hgo : ∃ (h6 : d < 6) (hl : 4 + d < s.size), dig s[4 + d] = true
      · obtain ⟨h6, hl, hdg⟩ := hgo
        have H2 := hide (digs_go h6 (at_of hl) hdg)
        have HD := hide hdg
        clear hdg
        go_wp2_with (go_at_call 27; refine (zdig_is _ _ _ HD).mono ?_; rintro e w' ⟨rfl, rfl⟩)
        go_round
        case rel => exact ⟨d + 1, by omega, by omega, by go_num, (unhide HF).trans (unhide H2)⟩
        case measure => simp [intOf]; omega
      · have hn : nd s.data.toList 4 = d := by
          rw [unhide HF]
          by_cases h6 : d < 6
          · by_cases hl : 4 + d < s.size
            · refine digs_stop h6 (at_of hl) ?_
              rw [Bool.eq_false_iff]; intro h; exact hgo ⟨h6, hl, h⟩
            · exact digs_end h6 (at_past (by omega))
          · have e : d = 6 := by omega
            subst e; rfl
        have hw : ¬ d < 6 ∨ (d < 6 ∧ ¬ 4 + d < s.size) ∨ (∃ (_ : d < 6) (hl : 4 + d < s.size), dig s[4 + d] = false) := by
          by_cases h6 : d < 6
          · by_cases hl : 4 + d < s.size
            · refine Or.inr (Or.inr ⟨h6, hl, ?_⟩)
              rw [Bool.eq_false_iff]; intro h; exact hgo ⟨h6, hl, h⟩
            · exact Or.inr (Or.inl ⟨h6, hl⟩)
          · exact Or.inl h6
        clear hgo
        by_cases h5 : d < 5
        · have H := hide (body_few (unhide HO) (by decide) (by rw [hn]; exact h5))
          clear hn
          rcases hw with h6 | ⟨h6, hl⟩ | ⟨h6, hl, hdg⟩
          · omega
          · go_wp2_with fail
            go_ret
            exact ⟨ret_int (unhide H).symm, rfl⟩
          · have HD := hide hdg
            clear hdg
            go_wp2_with (go_at_call 27; refine (zdig_is _ _ _ HD).mono ?_; rintro e w' ⟨rfl, rfl⟩)
            go_ret
            exact ⟨ret_int (unhide H).symm, rfl⟩
        · have H := hide (body_some (unhide HO) (by decide) (by rw [hn]; exact h5))
          rw [hn] at H
          clear hn
          rcases hw with h6 | ⟨h6, hl⟩ | ⟨h6, hl, hdg⟩
          · go_wp2_with fail
            go_ret
            exact ⟨ret_int (by rw [unhide H]; omega), rfl⟩
          · go_wp2_with fail
            go_ret
            exact ⟨ret_int (by rw [unhide H]; omega), rfl⟩
          · have HD := hide hdg
            clear hdg
            go_wp2_with (go_at_call 27; refine (zdig_is _ _ _ HD).mono ?_; rintro e w' ⟨rfl, rfl⟩)
            go_ret
            exact ⟨ret_int (by rw [unhide H]; omega), rfl⟩
  · have H := hide (body_no (opn0_short (s := s) (by omega)))
    clear a b
    go_enter Tryd.func19, Tryd.ntmps19
    go_wp2
    go_ret
    exact ⟨ret_int (unhide H).symm, rfl⟩
  · have H := hide (body_no (opn0_three h3 c))
    have pc := (u8_no (n := 33) c rfl).1
    have h3' : s.size ≤ 3 := by omega
    have h3'' : 3 ≤ s.size := by omega
    clear a b c
    go_enter Tryd.func19, Tryd.ntmps19
    go_wp2
    go_ret
    exact ⟨ret_int (unhide H).symm, rfl⟩
  · have H := hide (body_no (opn0_four h3 c (fun h => d h.1)))
    have pc := (u8_no (n := 33) c rfl).1
    have pd := (u8_no (n := 77) d rfl).1
    clear a b c d
    go_enter Tryd.func19, Tryd.ntmps19
    go_wp2
    go_ret
    exact ⟨ret_int (unhide H).symm, rfl⟩
  · have H := hide (body_no (opn0_four h3 c1 (fun h => d h.2)))
    have pc := (u8_no (n := 33) c1 rfl).1
    have pd := (u8_yes (n := 77) c rfl).1
    have pe := (u8_no (n := 33) d rfl).1
    clear a b c c1 d
    go_enter Tryd.func19, Tryd.ntmps19
    go_wp2
    go_ret
    exact ⟨ret_int (unhide H).symm, rfl⟩
end Go.Proofs.Qxb6606184aDoor
