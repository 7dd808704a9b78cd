import Derived.Test.Qxb6606184aDoorLine
namespace Go.Proofs.Qxb6606184aDoor
open Go.RowKit Plain

set_option maxHeartbeats 1600000 in
theorem mc_dash_nod (lex : Int) (s : ByteArray) (cr : Bool) (w : World) (hs : s.size ≤ 524288) (ho : ¬ Opens s) (hcr : (bits BinOp.and IntKind.u16 lex 128 != 0) = cr)
    (hd : Dash s) (hD : (bits BinOp.and IntKind.u16 lex 64 != 0) = false) :
    Calls Tryd.prog 9 #[.int .u16 lex, .string s] w fun e w' => e = .returned (.int .i64 (LE cr s.data.toList 2)) ∧ w' = w := by
  have HO := hide ho
  have HCR := hide hcr
  clear ho hcr
  obtain ⟨h2, a, b⟩ := hd
  have pa := (u8_yes (n := 45) a rfl).1
  have pb := (u8_yes (n := 45) b rfl).1
  clear a b
  go_enter Tryd.func9, Tryd.ntmps9
  go_wp2_with fail
  refine (opens_no _ _ (unhide HO) hs).mono ?_
  rintro e w1 ⟨rfl, rfl⟩
  go_wp2_with fail
  go_loop [6] (fun t => ∃ k : Nat, k ≤ s.size ∧ t = .int .i64 k ∧ LE cr s.data.toList 2 = LE cr s.data.toList k) (fun t => s.size - (intOf t).toNat)
  case atStart => exact ⟨2, by omega, rfl, rfl⟩
  case round =>
    obtain ⟨k, hk, rfl, hf⟩ := hrel
    have HF := hide hf
    clear hf
    by_cases hkl : k < s.size
    · rcases end_cases s[k] cr with ⟨hb, hw⟩ | ⟨hb, hw⟩
      · have H2 := hide (LE_hit (at_of hkl) hb)
        clear hb
        rcases hw with p1 | ⟨p1, p2, p3⟩
        · go_wp2_with fail
          go_ret
          exact ⟨ret_int (by rw [unhide HF, unhide H2]), rfl⟩
        · have q := (unhide HCR).trans p3
          clear p3
          go_wp2_with fail
          go_ret
          exact ⟨ret_int (by rw [unhide HF, unhide H2]), rfl⟩
      · have H2 := hide (LE_miss (at_of hkl) hb)
        clear hb
        rcases hw with ⟨p1, p2⟩ | ⟨p1, p2, p3⟩
        · go_wp2_with fail
          go_round
          case rel => exact ⟨k + 1, by omega, by go_num, (unhide HF).trans (unhide H2)⟩
          case measure => simp [intOf]; omega
        · have q := (unhide HCR).trans p3
          clear p3
          go_wp2_with fail
          go_round
          case rel => exact ⟨k + 1, by omega, by go_num, (unhide HF).trans (unhide H2)⟩
          case measure => simp [intOf]; omega
    · have H2 := hide (LE_past (cr := cr) (l := s.data.toList) (o := k) (by rw [len_of]; omega))
      go_wp2_with fail
      go_ret
      exact ⟨ret_int (by rw [unhide HF, unhide H2]), rfl⟩

set_option maxHeartbeats 1600000 in
theorem mc_dash_two (lex : Int) (s : ByteArray) (cr : Bool) (w : World) (hs : s.size ≤ 524288) (ho : ¬ Opens s) (hcr : (bits BinOp.and IntKind.u16 lex 128 != 0) = cr)
    (hd : Dash s) (hD : (bits BinOp.and IntKind.u16 lex 64 != 0) = true) (h3 : s.size = 2) :
    Calls Tryd.prog 9 #[.int .u16 lex, .string s] w fun e w' => e = .returned (.int .i64 (LE cr s.data.toList 2)) ∧ w' = w := by
  have HO := hide ho
  have HCR := hide hcr
  clear ho hcr
  obtain ⟨h2, a, b⟩ := hd
  have pa := (u8_yes (n := 45) a rfl).1
  have pb := (u8_yes (n := 45) b rfl).1
  clear a b
  have h3' : s.size ≤ 2 := by omega
  clear h3
  go_enter Tryd.func9, Tryd.ntmps9
  go_wp2_with fail
  refine (opens_no _ _ (unhide HO) hs).mono ?_
  rintro e w1 ⟨rfl, rfl⟩
  go_wp2_with fail
  go_loop [6] (fun t => ∃ k : Nat, k ≤ s.size ∧ t = .int .i64 k ∧ LE cr s.data.toList 2 = LE cr s.data.toList k) (fun t => s.size - (intOf t).toNat)
  case atStart => exact ⟨2, by omega, rfl, rfl⟩
  case round =>
    obtain ⟨k, hk, rfl, hf⟩ := hrel
    have HF := hide hf
    clear hf
    by_cases hkl : k < s.size
    · rcases end_cases s[k] cr with ⟨hb, hw⟩ | ⟨hb, hw⟩
      · have H2 := hide (LE_hit (at_of hkl) hb)
        clear hb
        rcases hw with p1 | ⟨p1, p2, p3⟩
        · go_wp2_with fail
          go_ret
          exact ⟨ret_int (by rw [unhide HF, unhide H2]), rfl⟩
        · have q := (unhide HCR).trans p3
          clear p3
          go_wp2_with fail
          go_ret
          exact ⟨ret_int (by rw [unhide HF, unhide H2]), rfl⟩
      · have H2 := hide (LE_miss (at_of hkl) hb)
        clear hb
        rcases hw with ⟨p1, p2⟩ | ⟨p1, p2, p3⟩
        · go_wp2_with fail
          go_round
          case rel => exact ⟨k + 1, by omega, by go_num, (unhide HF).trans (unhide H2)⟩
          case measure => simp [intOf]; omega
        · have q := (unhide HCR).trans p3
          clear p3
          go_wp2_with fail
          go_round
          case rel => exact ⟨k + 1, by omega, by go_num, (unhide HF).trans (unhide H2)⟩
          case measure => simp [intOf]; omega
    · have H2 := hide (LE_past (cr := cr) (l := s.data.toList) (o := k) (by rw [len_of]; omega))
      go_wp2_with fail
      go_ret
      exact ⟨ret_int (by rw [unhide HF, unhide H2]), rfl⟩

set_option maxHeartbeats 1600000 in
theorem mc_dash_blank (lex : Int) (s : ByteArray) (cr : Bool) (w : World) (hs : s.size ≤ 524288) (ho : ¬ Opens s) (hcr : (bits BinOp.and IntKind.u16 lex 128 != 0) = cr)
    (hd : Dash s) (hD : (bits BinOp.and IntKind.u16 lex 64 != 0) = true) (h3 : 2 < s.size) (hi : ink s[2] = false) :
    Calls Tryd.prog 9 #[.int .u16 lex, .string s] w fun e w' => e = .returned (.int .i64 (LE cr s.data.toList 2)) ∧ w' = w := by
  have HO := hide ho
  have HCR := hide hcr
  clear ho hcr
  obtain ⟨h2, a, b⟩ := hd
  have pa := (u8_yes (n := 45) a rfl).1
  have pb := (u8_yes (n := 45) b rfl).1
  clear a b
  have HI := hide hi
  clear hi
  go_enter Tryd.func9, Tryd.ntmps9
  go_wp2_with fail
  refine (opens_no _ _ (unhide HO) hs).mono ?_
  rintro e w1 ⟨rfl, rfl⟩
  go_wp2_with fail
  refine (blank_yes _ _ HI).mono ?_
  rintro e w2 ⟨rfl, rfl⟩
  go_wp2_with fail
  go_loop [6] (fun t => ∃ k : Nat, k ≤ s.size ∧ t = .int .i64 k ∧ LE cr s.data.toList 2 = LE cr s.data.toList k) (fun t => s.size - (intOf t).toNat)
  case atStart => exact ⟨2, by omega, rfl, rfl⟩
  case round =>
    obtain ⟨k, hk, rfl, hf⟩ := hrel
    have HF := hide hf
    clear hf
    by_cases hkl : k < s.size
    · rcases end_cases s[k] cr with ⟨hb, hw⟩ | ⟨hb, hw⟩
      · have H2 := hide (LE_hit (at_of hkl) hb)
        clear hb
        rcases hw with p1 | ⟨p1, p2, p3⟩
        · go_wp2_with fail
          go_ret
          exact ⟨ret_int (by rw [unhide HF, unhide H2]), rfl⟩
        · have q := (unhide HCR).trans p3
          clear p3
          go_wp2_with fail
          go_ret
          exact ⟨ret_int (by rw [unhide HF, unhide H2]), rfl⟩
      · have H2 := hide (LE_miss (at_of hkl) hb)
        clear hb
        rcases hw with ⟨p1, p2⟩ | ⟨p1, p2, p3⟩
        · go_wp2_with fail
          go_round
          case rel => exact ⟨k + 1, by omega, by go_num, (unhide HF).trans (unhide H2)⟩
          case measure => simp [intOf]; omega
        · have q := (unhide HCR).trans p3
          clear p3
          go_wp2_with fail
          go_round
          case rel => exact ⟨k + 1, by omega, by go_num, (unhide HF).trans (unhide H2)⟩
          case measure => simp [intOf]; omega
    · have H2 := hide (LE_past (cr := cr) (l := s.data.toList) (o := k) (by rw [len_of]; omega))
      go_wp2_with fail
      go_ret
      exact ⟨ret_int (by rw [unhide HF, unhide H2]), rfl⟩

set_option maxHeartbeats 1600000 in
theorem mc_dash_ink (lex : Int) (s : ByteArray) (cr : Bool) (w : World) (hs : s.size ≤ 524288) (ho : ¬ Opens s) (hcr : (bits BinOp.and IntKind.u16 lex 128 != 0) = cr)
    (hd : Dash s) (hD : (bits BinOp.and IntKind.u16 lex 64 != 0) = true) (h3 : 2 < s.size) (hi : ink s[2] = true) :
    Calls Tryd.prog 9 #[.int .u16 lex, .string s] w fun e w' => e = .returned (.int .i64 (0)) ∧ w' = w := by
  have HO := hide ho
  have HCR := hide hcr
  clear ho hcr
  obtain ⟨h2, a, b⟩ := hd
  have pa := (u8_yes (n := 45) a rfl).1
  have pb := (u8_yes (n := 45) b rfl).1
  clear a b
  have HI := hide hi
  clear hi
  go_enter Tryd.func9, Tryd.ntmps9
  go_wp2_with fail
  refine (opens_no _ _ (unhide HO) hs).mono ?_
  rintro e w1 ⟨rfl, rfl⟩
  go_wp2_with fail
  refine (blank_no _ _ HI).mono ?_
  rintro e w2 ⟨rfl, rfl⟩
  go_wp2_with fail
  go_ret
  exact ⟨rfl, rfl⟩

set_option maxHeartbeats 1600000 in
theorem mc_noh (lex : Int) (s : ByteArray) (cr : Bool) (w : World) (hs : s.size ≤ 524288) (ho : ¬ Opens s) (hcr : (bits BinOp.and IntKind.u16 lex 128 != 0) = cr)
    (hd : ¬ Dash s) (hH : (bits BinOp.and IntKind.u16 lex 32 != 0) = false) :
    Calls Tryd.prog 9 #[.int .u16 lex, .string s] w fun e w' => e = .returned (.int .i64 (0)) ∧ w' = w := by
  have HO := hide ho
  have HCR := hide hcr
  clear ho hcr
  rcases not_dash s hd with h2 | ⟨h2, a⟩ | ⟨h2, a, b⟩
  · clear hd
    go_enter Tryd.func9, Tryd.ntmps9
    go_wp2_with fail
    refine (opens_no _ _ (unhide HO) hs).mono ?_
    rintro e w1 ⟨rfl, rfl⟩
    go_wp2_with fail
    go_ret
    exact ⟨rfl, rfl⟩
  · have pa := (u8_no (n := 45) a rfl).1
    clear a hd
    go_enter Tryd.func9, Tryd.ntmps9
    go_wp2_with fail
    refine (opens_no _ _ (unhide HO) hs).mono ?_
    rintro e w1 ⟨rfl, rfl⟩
    go_wp2_with fail
    go_ret
    exact ⟨rfl, rfl⟩
  · have pa := (u8_yes (n := 45) a rfl).1
    have pb := (u8_no (n := 45) b rfl).1
    clear a b hd
    go_enter Tryd.func9, Tryd.ntmps9
    go_wp2_with fail
    refine (opens_no _ _ (unhide HO) hs).mono ?_
    rintro e w1 ⟨rfl, rfl⟩
    go_wp2_with fail
    go_ret
    exact ⟨rfl, rfl⟩

set_option maxHeartbeats 1600000 in
theorem mc_empty (lex : Int) (s : ByteArray) (cr : Bool) (w : World) (hs : s.size ≤ 524288) (ho : ¬ Opens s) (hcr : (bits BinOp.and IntKind.u16 lex 128 != 0) = cr)
    (_hd : ¬ Dash s) (hH : (bits BinOp.and IntKind.u16 lex 32 != 0) = true) (h0 : ¬ 1 ≤ s.size) :
    Calls Tryd.prog 9 #[.int .u16 lex, .string s] w fun e w' => e = .returned (.int .i64 (0)) ∧ w' = w := by
  have HO := hide ho
  have HCR := hide hcr
  clear ho hcr
  go_enter Tryd.func9, Tryd.ntmps9
  go_wp2_with fail
  refine (opens_no _ _ (unhide HO) hs).mono ?_
  rintro e w1 ⟨rfl, rfl⟩
  go_wp2_with fail
  go_ret
  exact ⟨rfl, rfl⟩

set_option maxHeartbeats 1600000 in
theorem mc_nohash (lex : Int) (s : ByteArray) (cr : Bool) (w : World) (hs : s.size ≤ 524288) (ho : ¬ Opens s) (hcr : (bits BinOp.and IntKind.u16 lex 128 != 0) = cr)
    (hd : ¬ Dash s) (hH : (bits BinOp.and IntKind.u16 lex 32 != 0) = true) (h0 : 1 ≤ s.size) (c : s[0] ≠ 35) :
    Calls Tryd.prog 9 #[.int .u16 lex, .string s] w fun e w' => e = .returned (.int .i64 (0)) ∧ w' = w := by
  have HO := hide ho
  have HCR := hide hcr
  clear ho hcr
  have pc := (u8_no (n := 35) c rfl).1
  clear c
  rcases not_dash s hd with h2 | ⟨h2, a⟩ | ⟨h2, a, b⟩
  · clear hd
    go_enter Tryd.func9, Tryd.ntmps9
    go_wp2_with fail
    refine (opens_no _ _ (unhide HO) hs).mono ?_
    rintro e w1 ⟨rfl, rfl⟩
    go_wp2_with fail
    go_ret
    exact ⟨rfl, rfl⟩
  · have pa := (u8_no (n := 45) a rfl).1
    clear a hd
    go_enter Tryd.func9, Tryd.ntmps9
    go_wp2_with fail
    refine (opens_no _ _ (unhide HO) hs).mono ?_
    rintro e w1 ⟨rfl, rfl⟩
    go_wp2_with fail
    go_ret
    exact ⟨rfl, rfl⟩
  · have pa := (u8_yes (n := 45) a rfl).1
    have pb := (u8_no (n := 45) b rfl).1
    clear a b hd
    go_enter Tryd.func9, Tryd.ntmps9
    go_wp2_with fail
    refine (opens_no _ _ (unhide HO) hs).mono ?_
    rintro e w1 ⟨rfl, rfl⟩
    go_wp2_with fail
    go_ret
    exact ⟨rfl, rfl⟩

set_option maxHeartbeats 1600000 in
theorem mc_hash (lex : Int) (s : ByteArray) (cr : Bool) (w : World) (hs : s.size ≤ 524288) (ho : ¬ Opens s) (hcr : (bits BinOp.and IntKind.u16 lex 128 != 0) = cr)
    (_hd : ¬ Dash s) (hH : (bits BinOp.and IntKind.u16 lex 32 != 0) = true) (h0 : 1 ≤ s.size) (c : s[0] = 35) :
    Calls Tryd.prog 9 #[.int .u16 lex, .string s] w fun e w' => e = .returned (.int .i64 (LE cr s.data.toList 1)) ∧ w' = w := by
  have HO := hide ho
  have HCR := hide hcr
  clear ho hcr
  have pc := (u8_yes (n := 35) c rfl).1
  have pa := (u8_no (n := 45) (c := s[0]) (d := 45) (by rw [c]; decide) rfl).1
  clear c
  by_cases h2 : 2 ≤ s.size
  · go_enter Tryd.func9, Tryd.ntmps9
    go_wp2_with fail
    refine (opens_no _ _ (unhide HO) hs).mono ?_
    rintro e w1 ⟨rfl, rfl⟩
    go_wp2_with fail
    go_loop [6] (fun t => ∃ k : Nat, k ≤ s.size ∧ t = .int .i64 k ∧ LE cr s.data.toList 1 = LE cr s.data.toList k) (fun t => s.size - (intOf t).toNat)
    case atStart => exact ⟨1, by omega, rfl, rfl⟩
    case round =>
      obtain ⟨k, hk, rfl, hf⟩ := hrel
      have HF := hide hf
      clear hf
      by_cases hkl : k < s.size
      · rcases end_cases s[k] cr with ⟨hb, hw⟩ | ⟨hb, hw⟩
        · have H2 := hide (LE_hit (at_of hkl) hb)
          clear hb
          rcases hw with p1 | ⟨p1, p2, p3⟩
          · go_wp2_with fail
            go_ret
            exact ⟨ret_int (by rw [unhide HF, unhide H2]), rfl⟩
          · have q := (unhide HCR).trans p3
            clear p3
            go_wp2_with fail
            go_ret
            exact ⟨ret_int (by rw [unhide HF, unhide H2]), rfl⟩
        · have H2 := hide (LE_miss (at_of hkl) hb)
          clear hb
          rcases hw with ⟨p1, p2⟩ | ⟨p1, p2, p3⟩
          · go_wp2_with fail
            go_round
            case rel => exact ⟨k + 1, by omega, by go_num, (unhide HF).trans (unhide H2)⟩
            case measure => simp [intOf]; omega
          · have q := (unhide HCR).trans p3
            clear p3
            go_wp2_with fail
            go_round
            case rel => exact ⟨k + 1, by omega, by go_num, (unhide HF).trans (unhide H2)⟩
            case measure => simp [intOf]; omega
      · have H2 := hide (LE_past (cr := cr) (l := s.data.toList) (o := k) (by rw [len_of]; omega))
        go_wp2_with fail
        go_ret
        exact ⟨ret_int (by rw [unhide HF, unhide H2]), rfl⟩
  · go_enter Tryd.func9, Tryd.ntmps9
    go_wp2_with fail
    refine (opens_no _ _ (unhide HO) hs).mono ?_
    rintro e w1 ⟨rfl, rfl⟩
    go_wp2_with fail
    go_loop [6] (fun t => ∃ k : Nat, k ≤ s.size ∧ t = .int .i64 k ∧ LE cr s.data.toList 1 = LE cr s.data.toList k) (fun t => s.size - (intOf t).toNat)
    case atStart => exact ⟨1, by omega, rfl, rfl⟩
    case round =>
      obtain ⟨k, hk, rfl, hf⟩ := hrel
      have HF := hide hf
      clear hf
      by_cases hkl : k < s.size
      · rcases end_cases s[k] cr with ⟨hb, hw⟩ | ⟨hb, hw⟩
        · have H2 := hide (LE_hit (at_of hkl) hb)
          clear hb
          rcases hw with p1 | ⟨p1, p2, p3⟩
          · go_wp2_with fail
            go_ret
            exact ⟨ret_int (by rw [unhide HF, unhide H2]), rfl⟩
          · have q := (unhide HCR).trans p3
            clear p3
            go_wp2_with fail
            go_ret
            exact ⟨ret_int (by rw [unhide HF, unhide H2]), rfl⟩
        · have H2 := hide (LE_miss (at_of hkl) hb)
          clear hb
          rcases hw with ⟨p1, p2⟩ | ⟨p1, p2, p3⟩
          · go_wp2_with fail
            go_round
            case rel => exact ⟨k + 1, by omega, by go_num, (unhide HF).trans (unhide H2)⟩
            case measure => simp [intOf]; omega
          · have q := (unhide HCR).trans p3
            clear p3
            go_wp2_with fail
            go_round
            case rel => exact ⟨k + 1, by omega, by go_num, (unhide HF).trans (unhide H2)⟩
            case measure => simp [intOf]; omega
      · have H2 := hide (LE_past (cr := cr) (l := s.data.toList) (o := k) (by rw [len_of]; omega))
        go_wp2_with fail
        go_ret
        exact ⟨ret_int (by rw [unhide HF, unhide H2]), rfl⟩

end Go.Proofs.Qxb6606184aDoor
