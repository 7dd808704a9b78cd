import Derived.Test.Qxb6606184aDoorVer
import Derived.Lib.AtoiErrMem
namespace Go.Proofs.Qxb6606184aDoor
open Go.RowKit Plain

theorem hp_is (t p : ByteArray) (b : Bool) (w : World) (h : Hid (Lib.hasPrefix t.data.toList p.data.toList = b)) :
    Calls Tryd.prog 21 #[.string t, .string p] w fun e w' => e = .returned (.bool b) ∧ w' = w := by
  rw [← unhide h]; exact Tryd.strings_HasPrefix t p w

theorem pre3 (l : List UInt8) (a b c : UInt8) : Lib.hasPrefix l [a, b, c] = true ↔ (l[0]? = some a ∧ l[1]? = some b ∧ l[2]? = some c) := by
  unfold Lib.hasPrefix
  match l with
  | [] => simp
  | [x] => simp
  | [x, y] => simp
  | x :: y :: z :: r => simp [List.isPrefixOf]; constructor <;> (rintro ⟨h1, h2, h3⟩; exact ⟨h1.symm, h2.symm, h3.symm⟩)
theorem pre4 (l : List UInt8) (a b c d : UInt8) : Lib.hasPrefix l [a, b, c, d] = true ↔ (l[0]? = some a ∧ l[1]? = some b ∧ l[2]? = some c ∧ l[3]? = some d) := by
  unfold Lib.hasPrefix
  match l with
  | [] => simp
  | [x] => simp
  | [x, y] => simp
  | [x, y, z] => simp
  | x :: y :: z :: u :: r => simp [List.isPrefixOf]; constructor <;> (rintro ⟨h1, h2, h3, h4⟩; exact ⟨h1.symm, h2.symm, h3.symm, h4.symm⟩)

theorem opn_pre (l : List UInt8) : opn l = if Lib.hasPrefix l [47, 42, 33] then 3 else if Lib.hasPrefix l [47, 42, 77, 33] then 4 else 0 := by
  unfold opn
  by_cases h : (l[0]? = some 47 ∧ l[1]? = some 42 ∧ l[2]? = some 33)
  · rw [if_pos h, if_pos ((pre3 l 47 42 33).2 h)]
  · rw [if_neg h, if_neg (fun e => h ((pre3 l 47 42 33).1 e))]
    by_cases h2 : (l[0]? = some 47 ∧ l[1]? = some 42 ∧ l[2]? = some 77 ∧ l[3]? = some 33)
    · rw [if_pos h2, if_pos ((pre4 l 47 42 77 33).2 h2)]
    · rw [if_neg h2, if_neg (fun e => h2 ((pre4 l 47 42 77 33).1 e))]

theorem opn_room {s : ByteArray} : opn s.data.toList ≤ s.size := by
  unfold opn
  split
  · rename_i hh
    obtain ⟨hlt, _⟩ := List.getElem?_eq_some_iff.1 hh.2.2
    rw [len_of] at hlt; omega
  · split
    · rename_i hh
      obtain ⟨hlt, _⟩ := List.getElem?_eq_some_iff.1 hh.2.2.2
      rw [len_of] at hlt; omega
    · omega

/-- the three ways -/
theorem run_cases (l : List UInt8) :
    (Lib.hasPrefix l [47, 42, 33] = true ∧ opn l = 3) ∨ (Lib.hasPrefix l [47, 42, 33] = false ∧ Lib.hasPrefix l [47, 42, 77, 33] = true ∧ opn l = 4) ∨
    (Lib.hasPrefix l [47, 42, 33] = false ∧ Lib.hasPrefix l [47, 42, 77, 33] = false ∧ opn l = 0) := by
  have h := opn_pre l
  cases h1 : Lib.hasPrefix l [47, 42, 33]
  · cases h2 : Lib.hasPrefix l [47, 42, 77, 33]
    · rw [h1, h2] at h; exact Or.inr (Or.inr ⟨rfl, rfl, by simpa using h⟩)
    · rw [h1, h2] at h; exact Or.inr (Or.inl ⟨rfl, rfl, by simpa using h⟩)
  · rw [h1] at h; exact Or.inl ⟨rfl, by simpa using h⟩

theorem atoi_is (t : ByteArray) (n : Nat) (w : World) (hl : t.size ≤ 18) (h : Hid (Lib.atoi t.data.toList = some (n : Int))) :
    Calls Tryd.prog 34 #[.string t] w fun e w' => e = .returned (.tuple #[.int .i64 n, .nilIface]) ∧ Below w.heap.size w w' :=
  (Tryd.strconv_Atoi t n hl (unhide h) w).mono fun _ _ ⟨h1, _, h2⟩ => ⟨h1, h2 ▸ Lib.bytesWorld_below _ _ _⟩

set_option maxHeartbeats 1600000 in
theorem run_few (s : ByteArray) (w : World) (_hs : s.size ≤ 524288) (hbody : body s.data.toList = -1) :
    Calls Tryd.prog 24 #[.string s] w fun e w' => ∃ n : Int, e = .returned (.tuple #[.int .i64 n, .int .i64 (-1)]) ∧ w' = w := by
  rcases run_cases s.data.toList with ⟨p3, ho⟩ | ⟨p3, p4, ho⟩ | ⟨p3, p4, ho⟩
  · have P3 := hide (show Lib.hasPrefix s.data.toList (ByteArray.data { data := #[47, 42, 33] }).toList = true from p3)
    have hroom := opn_room (s := s)
    have hfew : nd s.data.toList 3 < 5 := by
      by_cases h : nd s.data.toList 3 < 5
      · exact h
      · rw [body_some ho (by decide) h] at hbody; omega
    rw [ho] at hroom
    clear p3 hbody ho
    go_enter Tryd.func24, Tryd.ntmps24
    go_wp2_with fail
    refine (hp_is _ _ _ _ P3).mono ?_
    rintro e w' ⟨rfl, rfl⟩
    go_wp2_with fail
    go_loop [4] (fun t => ∃ d : Nat, d ≤ 6 ∧ 3 + d ≤ s.size ∧ t = .int .i64 d ∧ nd s.data.toList 3 = digs s.data.toList 3 (6 - d) d) (fun t => 6 - (intOf t).toNat)
    case atStart => exact ⟨0, by omega, by omega, rfl, rfl⟩
    case round =>
      obtain ⟨d, hd, hod, rfl, hf⟩ := hrel
      have HF := hide hf
      clear hf
      by_cases hgo : ∃ (h6 : d < 6) (hl : 3 + d < s.size), dig s[3 + d] = true
      · obtain ⟨h6, hl, hdg⟩ := hgo
        have H2 := hide (digs_go h6 (at_of hl) hdg)
        have HD := hide hdg
        clear hdg
        go_wp2_with fail
        refine (edig_is _ _ _ HD).mono ?_
        rintro e w' ⟨rfl, rfl⟩
        go_wp2_with fail
        go_round
        case rel => exact ⟨d + 1, by omega, by omega, by go_num, (unhide HF).trans (unhide H2)⟩
        case measure => simp [intOf]; omega
      · have hn : nd s.data.toList 3 = d := by
          rw [unhide HF]
          by_cases h6 : d < 6
          · by_cases hl : 3 + d < s.size
            · refine digs_stop h6 (at_of hl) ?_
              rw [Bool.eq_false_iff]; intro h; exact hgo ⟨h6, hl, h⟩
            · exact digs_end h6 (at_past (by omega))
          · have e : d = 6 := by omega
            subst e; rfl
        have hw : ¬ d < 6 ∨ (d < 6 ∧ ¬ 3 + d < s.size) ∨ (∃ (_ : d < 6) (hl : 3 + d < s.size), dig s[3 + d] = false) := by
          by_cases h6 : d < 6
          · by_cases hl : 3 + d < s.size
            · refine Or.inr (Or.inr ⟨h6, hl, ?_⟩)
              rw [Bool.eq_false_iff]; intro h; exact hgo ⟨h6, hl, h⟩
            · exact Or.inr (Or.inl ⟨h6, hl⟩)
          · exact Or.inl h6
        clear hgo
        have h5 : d < 5 := by rw [hn] at hfew; exact hfew
        clear hn hfew
        rcases hw with h6 | ⟨h6, hl⟩ | ⟨h6, hl, hdg⟩
        · omega
        · go_wp2_with fail
          go_ret2
          first | exact ⟨3, rfl, rfl⟩ | exact ⟨⟨3, rfl⟩, rfl⟩
        · have HD := hide hdg
          clear hdg
          go_wp2_with fail
          refine (edig_is _ _ _ HD).mono ?_
          rintro e w' ⟨rfl, rfl⟩
          go_wp2_with fail
          go_ret2
          first | exact ⟨3, rfl, rfl⟩ | exact ⟨⟨3, rfl⟩, rfl⟩
  · have P3 := hide (show Lib.hasPrefix s.data.toList (ByteArray.data { data := #[47, 42, 33] }).toList = false from p3)
    have P4 := hide (show Lib.hasPrefix s.data.toList (ByteArray.data { data := #[47, 42, 77, 33] }).toList = true from p4)
    have hroom := opn_room (s := s)
    have hfew : nd s.data.toList 4 < 5 := by
      by_cases h : nd s.data.toList 4 < 5
      · exact h
      · rw [body_some ho (by decide) h] at hbody; omega
    rw [ho] at hroom
    clear p3 p4 hbody ho
    go_enter Tryd.func24, Tryd.ntmps24
    go_wp2_with fail
    refine (hp_is _ _ _ _ P3).mono ?_
    rintro e w' ⟨rfl, rfl⟩
    go_wp2_with fail
    refine (hp_is _ _ _ _ P4).mono ?_
    rintro e w' ⟨rfl, rfl⟩
    go_wp2_with fail
    go_loop [4] (fun t => ∃ d : Nat, d ≤ 6 ∧ 4 + d ≤ s.size ∧ t = .int .i64 d ∧ nd s.data.toList 4 = digs s.data.toList 4 (6 - d) d) (fun t => 6 - (intOf t).toNat)
    case atStart => exact ⟨0, by omega, by omega, rfl, rfl⟩
    case round =>
      obtain ⟨d, hd, hod, rfl, hf⟩ := hrel
      have HF := hide hf
      clear hf
      by_cases hgo : ∃ (h6 : d < 6) (hl : 4 + d < s.size), dig s[4 + d] = true
      · obtain ⟨h6, hl, hdg⟩ := hgo
        have H2 := hide (digs_go h6 (at_of hl) hdg)
        have HD := hide hdg
        clear hdg
        go_wp2_with fail
        refine (edig_is _ _ _ HD).mono ?_
        rintro e w' ⟨rfl, rfl⟩
        go_wp2_with fail
        go_round
        case rel => exact ⟨d + 1, by omega, by omega, by go_num, (unhide HF).trans (unhide H2)⟩
        case measure => simp [intOf]; omega
      · have hn : nd s.data.toList 4 = d := by
          rw [unhide HF]
          by_cases h6 : d < 6
          · by_cases hl : 4 + d < s.size
            · refine digs_stop h6 (at_of hl) ?_
              rw [Bool.eq_false_iff]; intro h; exact hgo ⟨h6, hl, h⟩
            · exact digs_end h6 (at_past (by omega))
          · have e : d = 6 := by omega
            subst e; rfl
        have hw : ¬ d < 6 ∨ (d < 6 ∧ ¬ 4 + d < s.size) ∨ (∃ (_ : d < 6) (hl : 4 + d < s.size), dig s[4 + d] = false) := by
          by_cases h6 : d < 6
          · by_cases hl : 4 + d < s.size
            · refine Or.inr (Or.inr ⟨h6, hl, ?_⟩)
              rw [Bool.eq_false_iff]; intro h; exact hgo ⟨h6, hl, h⟩
            · exact Or.inr (Or.inl ⟨h6, hl⟩)
          · exact Or.inl h6
        clear hgo
        have h5 : d < 5 := by rw [hn] at hfew; exact hfew
        clear hn hfew
        rcases hw with h6 | ⟨h6, hl⟩ | ⟨h6, hl, hdg⟩
        · omega
        · go_wp2_with fail
          go_ret2
          first | exact ⟨4, rfl, rfl⟩ | exact ⟨⟨4, rfl⟩, rfl⟩
        · have HD := hide hdg
          clear hdg
          go_wp2_with fail
          refine (edig_is _ _ _ HD).mono ?_
          rintro e w' ⟨rfl, rfl⟩
          go_wp2_with fail
          go_ret2
          first | exact ⟨4, rfl, rfl⟩ | exact ⟨⟨4, rfl⟩, rfl⟩
  · have P3 := hide (show Lib.hasPrefix s.data.toList (ByteArray.data { data := #[47, 42, 33] }).toList = false from p3)
    have P4 := hide (show Lib.hasPrefix s.data.toList (ByteArray.data { data := #[47, 42, 77, 33] }).toList = false from p4)
    clear p3 p4 hbody ho
    go_enter Tryd.func24, Tryd.ntmps24
    go_wp2_with fail
    refine (hp_is _ _ _ _ P3).mono ?_
    rintro e w' ⟨rfl, rfl⟩
    go_wp2_with fail
    refine (hp_is _ _ _ _ P4).mono ?_
    rintro e w' ⟨rfl, rfl⟩
    go_wp2_with fail
    go_ret2
    first | exact ⟨0, rfl, rfl⟩ | exact ⟨⟨0, rfl⟩, rfl⟩

set_option maxHeartbeats 1600000 in
theorem run_some (s : ByteArray) (w : World) (_hs : s.size ≤ 524288) (hbody : 0 ≤ body s.data.toList) :
    Calls Tryd.prog 24 #[.string s] w fun e w' => ∃ v : Nat, e = .returned (.tuple #[.int .i64 (body s.data.toList), .int .i64 v]) ∧ Below w.heap.size w w' := by
  rcases run_cases s.data.toList with ⟨p3, ho⟩ | ⟨p3, p4, ho⟩ | ⟨p3, p4, ho⟩
  · have P3 := hide (show Lib.hasPrefix s.data.toList (ByteArray.data { data := #[47, 42, 33] }).toList = true from p3)
    have HO := hide ho
    have hroom := opn_room (s := s)
    have hfew : ¬ nd s.data.toList 3 < 5 := fun h => by rw [body_few ho (by decide) h] at hbody; omega
    rw [ho] at hroom
    clear p3 hbody ho
    go_enter Tryd.func24, Tryd.ntmps24
    go_wp2_with fail
    refine (hp_is _ _ _ _ P3).mono ?_
    rintro e w' ⟨rfl, rfl⟩
    go_wp2_with fail
    go_loop [4] (fun t => ∃ d : Nat, d ≤ 6 ∧ 3 + d ≤ s.size ∧ t = .int .i64 d ∧ nd s.data.toList 3 = digs s.data.toList 3 (6 - d) d) (fun t => 6 - (intOf t).toNat)
    case atStart => exact ⟨0, by omega, by omega, rfl, rfl⟩
    case round =>
      obtain ⟨d, hd, hod, rfl, hf⟩ := hrel
      have HF := hide hf
      clear hf
      by_cases hgo : ∃ (h6 : d < 6) (hl : 3 + d < s.size), dig s[3 + d] = true
      · obtain ⟨h6, hl, hdg⟩ := hgo
        have H2 := hide (digs_go h6 (at_of hl) hdg)
        have HD := hide hdg
        clear hdg
        go_wp2_with fail
        refine (edig_is _ _ _ HD).mono ?_
        rintro e w' ⟨rfl, rfl⟩
        go_wp2_with fail
        go_round
        case rel => exact ⟨d + 1, by omega, by omega, by go_num, (unhide HF).trans (unhide H2)⟩
        case measure => simp [intOf]; omega
      · have hn : nd s.data.toList 3 = d := by
          rw [unhide HF]
          by_cases h6 : d < 6
          · by_cases hl : 3 + d < s.size
            · refine digs_stop h6 (at_of hl) ?_
              rw [Bool.eq_false_iff]; intro h; exact hgo ⟨h6, hl, h⟩
            · exact digs_end h6 (at_past (by omega))
          · have e : d = 6 := by omega
            subst e; rfl
        have hw : ¬ d < 6 ∨ (d < 6 ∧ ¬ 3 + d < s.size) ∨ (∃ (_ : d < 6) (hl : 3 + d < s.size), dig s[3 + d] = false) := by
          by_cases h6 : d < 6
          · by_cases hl : 3 + d < s.size
            · refine Or.inr (Or.inr ⟨h6, hl, ?_⟩)
              rw [Bool.eq_false_iff]; intro h; exact hgo ⟨h6, hl, h⟩
            · exact Or.inr (Or.inl ⟨h6, hl⟩)
          · exact Or.inl h6
        clear hgo
        have h5 : 5 ≤ d := by rw [hn] at hfew; omega
        have HB := hide (show body s.data.toList = (3 + d : Nat) from by rw [body_some (unhide HO) (by decide) hfew, hn])
        obtain ⟨v, hv⟩ := atoi_nd s.data.toList 3 (by omega)
        have HV := hide (show Lib.atoi (s.extract 3 (3 + d)).data.toList = some (v : Int) from by rw [ext_mid, ← hn]; exact hv)
        clear hn hfew hv
        rcases hw with h6 | ⟨h6, hl⟩ | ⟨h6, hl, hdg⟩
        · go_wp2_with fail
          refine (atoi_is _ v _ (by simp; omega) HV).mono ?_
          rintro e w1 ⟨rfl, hb⟩
          go_wp2_with fail
          go_ret2
          exact ⟨v, by rw [unhide HB]; simp, hb⟩
        · go_wp2_with fail
          refine (atoi_is _ v _ (by simp; omega) HV).mono ?_
          rintro e w1 ⟨rfl, hb⟩
          go_wp2_with fail
          go_ret2
          exact ⟨v, by rw [unhide HB]; simp, hb⟩
        · have HD := hide hdg
          clear hdg
          go_wp2_with fail
          refine (edig_is _ _ _ HD).mono ?_
          rintro e w' ⟨rfl, rfl⟩
          go_wp2_with fail
          refine (atoi_is _ v _ (by simp; omega) HV).mono ?_
          rintro e w1 ⟨rfl, hb⟩
          go_wp2_with fail
          go_ret2
          exact ⟨v, by rw [unhide HB]; simp, hb⟩
  · have P3 := hide (show Lib.hasPrefix s.data.toList (ByteArray.data { data := #[47, 42, 33] }).toList = false from p3)
    have P4 := hide (show Lib.hasPrefix s.data.toList (ByteArray.data { data := #[47, 42, 77, 33] }).toList = true from p4)
    have HO := hide ho
    have hroom := opn_room (s := s)
    have hfew : ¬ nd s.data.toList 4 < 5 := fun h => by rw [body_few ho (by decide) h] at hbody; omega
    rw [ho] at hroom
    clear p3 p4 hbody ho
    go_enter Tryd.func24, Tryd.ntmps24
    go_wp2_with fail
    refine (hp_is _ _ _ _ P3).mono ?_
    rintro e w' ⟨rfl, rfl⟩
    go_wp2_with fail
    refine (hp_is _ _ _ _ P4).mono ?_
    rintro e w' ⟨rfl, rfl⟩
    go_wp2_with fail
    go_loop [4] (fun t => ∃ d : Nat, d ≤ 6 ∧ 4 + d ≤ s.size ∧ t = .int .i64 d ∧ nd s.data.toList 4 = digs s.data.toList 4 (6 - d) d) (fun t => 6 - (intOf t).toNat)
    case atStart => exact ⟨0, by omega, by omega, rfl, rfl⟩
    case round =>
      obtain ⟨d, hd, hod, rfl, hf⟩ := hrel
      have HF := hide hf
      clear hf
      by_cases hgo : ∃ (h6 : d < 6) (hl : 4 + d < s.size), dig s[4 + d] = true
      · obtain ⟨h6, hl, hdg⟩ := hgo
        have H2 := hide (digs_go h6 (at_of hl) hdg)
        have HD := hide hdg
        clear hdg
        go_wp2_with fail
        refine (edig_is _ _ _ HD).mono ?_
        rintro e w' ⟨rfl, rfl⟩
        go_wp2_with fail
        go_round
        case rel => exact ⟨d + 1, by omega, by omega, by go_num, (unhide HF).trans (unhide H2)⟩
        case measure => simp [intOf]; omega
      · have hn : nd s.data.toList 4 = d := by
          rw [unhide HF]
          by_cases h6 : d < 6
          · by_cases hl : 4 + d < s.size
            · refine digs_stop h6 (at_of hl) ?_
              rw [Bool.eq_false_iff]; intro h; exact hgo ⟨h6, hl, h⟩
            · exact digs_end h6 (at_past (by omega))
          · have e : d = 6 := by omega
            subst e; rfl
        have hw : ¬ d < 6 ∨ (d < 6 ∧ ¬ 4 + d < s.size) ∨ (∃ (_ : d < 6) (hl : 4 + d < s.size), dig s[4 + d] = false) := by
          by_cases h6 : d < 6
          · by_cases hl : 4 + d < s.size
            · refine Or.inr (Or.inr ⟨h6, hl, ?_⟩)
              rw [Bool.eq_false_iff]; intro h; exact hgo ⟨h6, hl, h⟩
            · exact Or.inr (Or.inl ⟨h6, hl⟩)
          · exact Or.inl h6
        clear hgo
        have h5 : 5 ≤ d := by rw [hn] at hfew; omega
        have HB := hide (show body s.data.toList = (4 + d : Nat) from by rw [body_some (unhide HO) (by decide) hfew, hn])
        obtain ⟨v, hv⟩ := atoi_nd s.data.toList 4 (by omega)
        have HV := hide (show Lib.atoi (s.extract 4 (4 + d)).data.toList = some (v : Int) from by rw [ext_mid, ← hn]; exact hv)
        clear hn hfew hv
        rcases hw with h6 | ⟨h6, hl⟩ | ⟨h6, hl, hdg⟩
        · go_wp2_with fail
          refine (atoi_is _ v _ (by simp; omega) HV).mono ?_
          rintro e w1 ⟨rfl, hb⟩
          go_wp2_with fail
          go_ret2
          exact ⟨v, by rw [unhide HB]; simp, hb⟩
        · go_wp2_with fail
          refine (atoi_is _ v _ (by simp; omega) HV).mono ?_
          rintro e w1 ⟨rfl, hb⟩
          go_wp2_with fail
          go_ret2
          exact ⟨v, by rw [unhide HB]; simp, hb⟩
        · have HD := hide hdg
          clear hdg
          go_wp2_with fail
          refine (edig_is _ _ _ HD).mono ?_
          rintro e w' ⟨rfl, rfl⟩
          go_wp2_with fail
          refine (atoi_is _ v _ (by simp; omega) HV).mono ?_
          rintro e w1 ⟨rfl, hb⟩
          go_wp2_with fail
          go_ret2
          exact ⟨v, by rw [unhide HB]; simp, hb⟩
  · rw [body_no ho] at hbody; omega
end Go.Proofs.Qxb6606184aDoor
