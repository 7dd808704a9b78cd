import Derived.Test.Qxb6605428aScan
import Derived.Lib.Bytealg
import Derived.Lib.IndexLaws
namespace Go.Proofs.Qxb6605428a
open Go.RowKit Plain

set_option maxHeartbeats 400000 in
theorem lite_any (s : ByteArray) (c : Int) (w : World) :
    Calls Try.prog 18 #[.string s, .int .u8 c] w fun e w' => e = .returned (.int .i64 (Lib.indexByte s.data.toList c.toNat.toUInt8)) ∧ w' = w := by
  go_enter Try.func18, Try.ntmps18
  go_wp2
  rw [run_callFunc_extern Try.func19 (by kernel_rfl) (by kernel_rfl) (by kernel_rfl) (e := Extern.BytealgIndexByte.indexByte) (by kernel_rfl), Lib.run_indexByteString]
  simp only [Result.andThen]
  rw [Oper.upon_value]
  go_wp2
  go_ret
  exact ⟨rfl, rfl⟩

set_option maxHeartbeats 400000 in
theorem idx_any (s : ByteArray) (c : Int) (w : World) :
    Calls Try.prog 16 #[.string s, .int .u8 c] w fun e w' => e = .returned (.int .i64 (Lib.indexByte s.data.toList c.toNat.toUInt8)) ∧ w' = w := by
  go_enter Try.func16, Try.ntmps16
  go_wp2_with (go_at_call 18; refine (lite_any _ _ _).mono ?_; rintro e w' ⟨rfl, rfl⟩)
  go_ret
  exact ⟨rfl, rfl⟩

theorem ext_end (s : ByteArray) (j : Nat) : (s.extract j s.size).data.toList = s.data.toList.drop j := by
  rw [Lib.extract_data, List.take_of_length_le]; simp

/-- what 'IndexByte(s[j:], quote)' answers: none, or the first quote's place -/
theorem idx_or (s : ByteArray) (j : Nat)   :
    (Lib.indexByte (s.extract j s.size).data.toList 34 = -1 ∧ ∀ k : Nat, (s.data.toList.drop j)[k]? ≠ some 34) ∨
    ∃ o : Nat, Lib.indexByte (s.extract j s.size).data.toList 34 = o ∧ j + o < s.size ∧ (s.data.toList.drop j)[o]? = some 34 ∧ ∀ k : Nat, k < o → (s.data.toList.drop j)[k]? ≠ some 34 := by
  rw [ext_end]
  have hge := Lib.indexByte_ge (s.data.toList.drop j) 34
  by_cases h : Lib.indexByte (s.data.toList.drop j) 34 = -1
  · exact Or.inl ⟨h, Lib.indexByte_none h⟩
  · obtain ⟨o, ho⟩ : ∃ o : Nat, Lib.indexByte (s.data.toList.drop j) 34 = o := ⟨(Lib.indexByte (s.data.toList.drop j) 34).toNat, by omega⟩
    obtain ⟨h1, h2⟩ := Lib.indexByte_some ho
    refine Or.inr ⟨o, ho, ?_, h1, h2⟩
    rw [List.getElem?_drop] at h1
    obtain ⟨hlt, _⟩ := List.getElem?_eq_some_iff.1 h1
    simpa using hlt

theorem idx_q (t : ByteArray) (r : Int) (w : World) (h : Hid (Lib.indexByte t.data.toList 34 = r)) :
    Calls Try.prog 16 #[.string t, .int .u8 34] w fun e w' => e = .returned (.int .i64 r) ∧ w' = w := by
  rw [← unhide h]
  exact idx_any t 34 w

theorem tb_split {l : List UInt8} {a q : Nat} : ∀ (m : Nat), (∀ k : Nat, k < m → a ≤ q - 1 - k ∧ l[q - 1 - k]? = some 92) → m ≤ q → tb l a q = m + tb l a (q - m)
  | 0, _, _ => by simp
  | m + 1, h, hm => by
    rw [tb_split m (fun k hk => h k (by omega)) (by omega)]
    have h1 := h m (by omega)
    have e : q - m = (q - 1 - m) + 1 := by omega
    rw [e, tb_yes h1.1 h1.2]
    have e2 : q - (m + 1) = q - 1 - m := by omega
    rw [e2]; omega

set_option maxHeartbeats 800000 in
theorem skip_any (s : ByteArray) (i : Int) (w : World) (hs : s.size ≤ 1048576) (hi : 0 ≤ i) (hi2 : i ≤ 9223372036854775807) :
    Calls Try.prog 8 #[.string s, .int .i64 i] w fun e w' => e = .returned (.int .i64 (skipS s.data.toList i.toNat)) ∧ w' = w := by
  obtain ⟨n, rfl⟩ := Int.eq_ofNat_of_zero_le hi
  rw [Int.toNat_natCast]
  by_cases hlt : n < s.size
  · by_cases hq : s[n] = 34
    · obtain ⟨q1, q2⟩ := u8_yes (n := 34) hq rfl
      have H := hide (show skipS s.data.toList n = fin s.data.toList false (n + 1) from by unfold skipS; rw [at_of hlt, hq]; simp)
      clear hq
      go_enter Try.func8, Try.ntmps8
      go_wp2
      go_loop [5, 6, 7, 8] (fun j _ _ _ => ∃ k : Nat, n + 1 ≤ k ∧ k ≤ s.size ∧ j = .int .i64 k ∧ fin s.data.toList false (n + 1) = fin s.data.toList false k ∧ tb s.data.toList (n + 1) k = 0) (fun j _ _ _ => s.size + 1 - (intOf j).toNat)
      case atStart => exact ⟨n + 1, by omega, by omega, by go_num, rfl, tb_start (Nat.le_refl _)⟩
      case round =>
        obtain ⟨k, hk0, hk, rfl, hf, ht⟩ := hrel
        have HF := hide hf
        have HT := hide ht
        clear hf ht
        rcases idx_or s k with ⟨e1, hn⟩ | ⟨o, e1, ho, h34, hn⟩
        · have E1 := hide e1
          have H2 := hide (fin_noq (e := false) hn)
          clear e1 hn
          go_wp2_with (go_at_call 16; refine (idx_q _ _ _ E1).mono ?_; rintro e w' ⟨rfl, rfl⟩)
          go_ret
          exact ⟨ret_int (by rw [unhide H, unhide HF, unhide H2]), rfl⟩
        · have E1 := hide e1
          have HN := hide hn
          have H34 := hide h34
          clear e1 hn h34
          have hd : decide ((o : Int) < 0) = false := by simp
          go_wp2_with (go_at_call 16; refine (idx_q _ _ _ E1).mono ?_; rintro e w' ⟨rfl, rfl⟩)
          go_loop [7, 8] (fun a b => ∃ m p : Nat, a = .int .i64 m ∧ b = .int .i64 p ∧ n ≤ p ∧ p + m + 1 ≤ k + o ∧ k + o ≤ p + m + 1 ∧ ∀ t : Nat, t < m → n + 1 ≤ k + o - 1 - t ∧ s.data.toList[k + o - 1 - t]? = some 92) (fun _ b => (intOf b).toNat)
          case atStart => exact ⟨0, k + o - 1, rfl, by go_num, by omega, by omega, by omega, fun t ht => absurd ht (Nat.not_lt_zero _)⟩
          case round =>
            obtain ⟨m, p, rfl, rfl, hp0, hp1, hp2, hr⟩ := hrel
            have HR := hide hr
            clear hr
            have hps : p < s.size := by omega
            by_cases hc : n < p ∧ s[p] = 92
            · obtain ⟨hnp, hb⟩ := hc
              obtain ⟨q3, q4⟩ := u8_yes (n := 92) hb rfl
              have HA := hide (show s.data.toList[p]? = some 92 from by rw [at_of hps, hb])
              clear hb
              go_wp2
              go_round
              case rel =>
                refine ⟨m + 1, p - 1, by go_num, by go_num, by omega, by omega, by omega, fun t ht => ?_⟩
                by_cases e : t = m
                · subst e
                  have e2 : k + o - 1 - t = p := by omega
                  rw [e2]
                  exact ⟨by omega, unhide HA⟩
                · exact unhide HR t (by omega)
              case measure => simp [intOf]; omega
            · have HZ := hide (show tb s.data.toList (n + 1) (k + o) = m from by
                rw [tb_split m (unhide HR) (by omega)]
                by_cases hnp : n < p
                · have e : k + o - m = p + 1 := by omega
                  rw [e, tb_no (by rw [at_of hps]; intro h; exact hc ⟨hnp, by simpa using h⟩)]
                  rfl
                · rw [tb_start (by omega)]; rfl)
              have hcc : ¬ n < p ∨ (n < p ∧ s[p] ≠ 92) := by
                by_cases hnp : n < p
                · exact Or.inr ⟨hnp, fun h => hc ⟨hnp, h⟩⟩
                · exact Or.inl hnp
              clear hc
              have hm : (m % 2 = 0) ∨ (m % 2 = 1) := Nat.mod_two_eq_zero_or_one m
              rcases hm with hm | hm
              · have HV := hide (fin_quote_even hk0 (unhide HT) (unhide H34) (unhide HN) (by rw [unhide HZ]; exact hm))
                rcases hcc with hnp | ⟨hnp, hb⟩
                · go_wp2
                  go_ret
                  exact ⟨ret_int (by rw [unhide H, unhide HF, unhide HV]; omega), rfl⟩
                · obtain ⟨q3, q4⟩ := u8_no (n := 92) hb rfl
                  clear hb
                  go_wp2
                  go_ret
                  exact ⟨ret_int (by rw [unhide H, unhide HF, unhide HV]; omega), rfl⟩
              · have HV := hide (fin_quote_odd hk0 (unhide HT) (unhide H34) (unhide HN) (by rw [unhide HZ]; exact hm))
                rcases hcc with hnp | ⟨hnp, hb⟩
                · go_wp2
                  go_round
                  case rel => exact ⟨k + o + 1, by omega, by omega, by go_num, (unhide HF).trans (unhide HV).1, (unhide HV).2⟩
                  case measure => simp [intOf]; omega
                · obtain ⟨q3, q4⟩ := u8_no (n := 92) hb rfl
                  clear hb
                  go_wp2
                  go_round
                  case rel => exact ⟨k + o + 1, by omega, by omega, by go_num, (unhide HF).trans (unhide HV).1, (unhide HV).2⟩
                  case measure => simp [intOf]; omega
    · obtain ⟨q1, q2⟩ := u8_no (n := 34) hq rfl
      have H := hide (show skipS s.data.toList n = -1 from by unfold skipS; rw [at_of hlt]; simp [hq])
      clear hq
      go_enter Try.func8, Try.ntmps8
      go_wp2
      go_ret
      exact ⟨ret_int (unhide H).symm, rfl⟩
  · go_enter Try.func8, Try.ntmps8
    go_wp2
    go_ret
    exact ⟨ret_int (by unfold skipS; rw [at_past (by omega)]; simp), rfl⟩
end Go.Proofs.Qxb6605428a
