import Derived.Test.Qxb6606184aDoorModel2
import Derived.Test.Qxb6606184aDoorShelf
namespace Go.Proofs.Qxb6606184aDoor
open Go.RowKit Plain

theorem idx_is (t p : ByteArray) (m r : Int) (w : World) (hs : t.size < 4294967281) (hm : w.cell? ⟨0, 0, none⟩ = some (.int .i64 m)) (h : Hid (Lib.index t.data.toList p.data.toList = r)) :
    Calls Tryd.prog 26 #[.string t, .string p] w fun e w' => e = .returned (.int .i64 r) ∧ w' = w := by
  rw [← unhide h]; exact Tryd.strings_Index t p m w hs hm

theorem ext_end (s : ByteArray) (j : Nat) : (s.extract j s.size).data.toList = s.data.toList.drop j := by
  rw [Lib.extract_data, List.take_of_length_le]; simp
theorem ext_mid (s : ByteArray) (j k : Nat) : (s.extract j (j + k)).data.toList = (s.data.toList.drop j).take k := by
  rw [Lib.extract_data]; congr 1; omega

set_option maxHeartbeats 1600000 in
theorem ver_any (s : ByteArray) (n : Nat) (m : Int) (w : World) (hs : s.size ≤ 524288) (hn : n ≤ s.size) (hm : w.cell? ⟨0, 0, none⟩ = some (.int .i64 m)) :
    Calls Tryd.prog 25 #[.string s, .int .i64 n] w fun e w' => e = .returned (.int .i64 (scan s.data.toList 2 1 n)) ∧ w' = w := by
  have HM := hide hm
  clear hm
  go_enter Tryd.func25, Tryd.ntmps25
  go_wp2
  go_loop [5, 6, 7] (fun t _ _ => ∃ k : Nat, k ≤ s.size ∧ t = .int .i64 k ∧ scan s.data.toList 2 1 n = scan s.data.toList 2 1 k) (fun t _ _ => s.size - (intOf t).toNat)
  case atStart => exact ⟨n, hn, rfl, rfl⟩
  case round =>
    obtain ⟨k, hk, rfl, hf⟩ := hrel
    have HF := hide hf
    clear hf
    rcases index_close s.data.toList k with ⟨e1, hno⟩ | ⟨a, e1, hl, hc, hno⟩
    · have E1 := hide (show Lib.index (s.extract k s.size).data.toList (ByteArray.data { data := #[42, 47] }).toList = -1 from by rw [ext_end]; exact e1)
      have H2 := hide (scan_none (lim := 2) (d := 1) hno)
      clear e1 hno
      go_wp2_with (go_at_call 26; refine (idx_is _ _ m _ _ (by simp; omega) (unhide HM) E1).mono ?_; rintro e w' ⟨rfl, rfl⟩)
      go_ret
      exact ⟨ret_int (by rw [unhide HF, unhide H2]), rfl⟩
    · rw [len_of] at hl
      have E1 := hide (show Lib.index (s.extract k s.size).data.toList (ByteArray.data { data := #[42, 47] }).toList = (a : Int) from by rw [ext_end]; exact e1)
      clear e1
      rcases index_open s.data.toList k a (by rw [len_of]; exact hl) with ⟨e2, hno2⟩ | ⟨b, e2, hba, hop, hno2⟩
      · have E2 := hide (show Lib.index (s.extract k (k + a + 1)).data.toList (ByteArray.data { data := #[47, 42] }).toList = -1 from by rw [Nat.add_assoc, ext_mid]; exact e2)
        have H2 := hide (ver_done (by rw [len_of]; exact hl) hc hno hno2)
        clear e2 hc hno hno2
        go_wp2_with fail
        refine (idx_is _ _ m _ _ (by simp; omega) (unhide HM) E1).mono ?_
        rintro e w' ⟨rfl, rfl⟩
        go_wp2_with fail
        refine (idx_is _ _ m _ _ (by simp; omega) (unhide HM) E2).mono ?_
        rintro e w'' ⟨rfl, rfl⟩
        go_wp2_with fail
        go_ret
        exact ⟨ret_int (by rw [unhide HF, unhide H2]; omega), rfl⟩
      · have E2 := hide (show Lib.index (s.extract k (k + a + 1)).data.toList (ByteArray.data { data := #[47, 42] }).toList = (b : Int) from by rw [Nat.add_assoc, ext_mid]; exact e2)
        have hv := ver_in hba (by rw [len_of]; exact hl) hno hop hno2
        clear e2 hc hno hop hno2
        have hkb : k + b + 2 ≤ s.size := by omega
        rcases index_close s.data.toList (k + b + 2) with ⟨e3, hno⟩ | ⟨c, e3, hl3, hc, hno⟩
        · have E3 := hide (show Lib.index (s.extract (k + (b + 2)) s.size).data.toList (ByteArray.data { data := #[42, 47] }).toList = -1 from by rw [ext_end, ← Nat.add_assoc]; exact e3)
          have H2 := hide (hv.trans (scan_none (lim := 2) (d := 2) hno))
          clear e3 hno hv
          go_wp2_with fail
          refine (idx_is _ _ m _ _ (by simp; omega) (unhide HM) E1).mono ?_
          rintro e w' ⟨rfl, rfl⟩
          go_wp2_with fail
          refine (idx_is _ _ m _ _ (by simp; omega) (unhide HM) E2).mono ?_
          rintro e w'' ⟨rfl, rfl⟩
          go_wp2_with fail
          refine (idx_is _ _ m _ _ (by simp; omega) (unhide HM) E3).mono ?_
          rintro e w''' ⟨rfl, rfl⟩
          go_wp2_with fail
          go_ret
          exact ⟨ret_int (by rw [unhide HF, unhide H2]), rfl⟩
        · rw [len_of] at hl3
          have E3 := hide (show Lib.index (s.extract (k + (b + 2)) s.size).data.toList (ByteArray.data { data := #[42, 47] }).toList = (c : Int) from by rw [ext_end, ← Nat.add_assoc]; exact e3)
          have H2 := hide (hv.trans (ver_out (by rw [len_of]; exact hl3) hc hno))
          clear e3 hno hv hc
          go_wp2_with fail
          refine (idx_is _ _ m _ _ (by simp; omega) (unhide HM) E1).mono ?_
          rintro e w' ⟨rfl, rfl⟩
          go_wp2_with fail
          refine (idx_is _ _ m _ _ (by simp; omega) (unhide HM) E2).mono ?_
          rintro e w'' ⟨rfl, rfl⟩
          go_wp2_with fail
          refine (idx_is _ _ m _ _ (by simp; omega) (unhide HM) E3).mono ?_
          rintro e w''' ⟨rfl, rfl⟩
          go_wp2_with fail
          go_round
          case rel => exact ⟨k + b + 2 + c + 2, by omega, by go_num, (unhide HF).trans (unhide H2)⟩
          case measure => simp [intOf]; omega
end Go.Proofs.Qxb6606184aDoor
