import Derived.Test.Qxb6606184aDoorRun
namespace Go.Proofs.Qxb6606184aDoor
open Go.RowKit Plain

theorem has_is (x r : Int) (b : Bool) (w : World) (h : Hid ((bits BinOp.and IntKind.u16 x r != 0) = b)) :
    Calls Tryd.prog 22 #[.int .u16 x, .int .u16 r] w fun e w' => e = .returned (.bool b) ∧ w' = w := by
  rw [← unhide h]; exact has_any x r w

theorem lt_of_cell {w : World} {a : Addr} {v : Value} (h : w.cell? a = some v) : a.block < w.heap.size := by
  unfold World.cell? at h
  rcases Nat.lt_or_ge a.block w.heap.size with h' | h'
  · exact h'
  · rw [Array.getElem?_eq_none h'] at h
    cases h

theorem sub2 {s : ByteArray} {k : Nat} (h0 : k < s.size) (h : k + 1 < s.size) : (s.extract k (k + 2)).toList = [s[k], s[k + 1]] := by
  rw [Lib.toList_data, ext_mid, drop_lt (by rw [len_of]; exact h0), drop_lt (by rw [len_of]; exact h)]
  rfl

theorem pair_tests {s : ByteArray} {k : Nat} (h0 : k < s.size) (h : k + 1 < s.size) :
    (ClAt s.data.toList k ∧ ((s.extract k (k + 2)).toList == [42, 47]) = true) ∨
    (OpAt s.data.toList k ∧ ((s.extract k (k + 2)).toList == [42, 47]) = false ∧ ((s.extract k (k + 2)).toList == [47, 42]) = true) ∨
    ((¬ ClAt s.data.toList k ∧ ¬ OpAt s.data.toList k) ∧ ((s.extract k (k + 2)).toList == [42, 47]) = false ∧ ((s.extract k (k + 2)).toList == [47, 42]) = false) := by
  rw [cl_of h0 h, op_of h0 h, sub2 h0 h]
  by_cases a : s[k] = 42 ∧ s[k + 1] = 47
  · exact Or.inl ⟨a, by rw [a.1, a.2]; decide⟩
  · have na : ([s[k], s[k + 1]] == [(42 : UInt8), 47]) = false := by
      rw [Bool.eq_false_iff]; intro e
      have := beq_iff_eq.1 e
      injection this with e1 e2
      injection e2 with e2 e3
      exact a ⟨e1, e2⟩
    by_cases b : s[k] = 47 ∧ s[k + 1] = 42
    · exact Or.inr (Or.inl ⟨b, na, by rw [b.1, b.2]; decide⟩)
    · refine Or.inr (Or.inr ⟨⟨a, b⟩, na, ?_⟩)
      rw [Bool.eq_false_iff]; intro e
      have := beq_iff_eq.1 e
      injection this with e1 e2
      injection e2 with e2 e3
      exact b ⟨e1, e2⟩

set_option maxHeartbeats 1600000 in
theorem block_no_flat (k lex : Int) (esc : ByteArray) (cs : Int) (op : Bool) (bel : Int) (my : Bool) (s : ByteArray) (m : Int) (w : World) (hs : s.size ≤ 524288) (h2 : 2 ≤ s.size)
    (hm : w.cell? ⟨0, 0, none⟩ = some (.int .i64 m))
    (hr : (bits BinOp.and IntKind.u16 lex 512 != 0) = false) (hn : (bits BinOp.and IntKind.u16 lex 256 != 0) = false) :
    Calls Tryd.prog 18 #[.agg #[.int .i32 k, .int .u16 lex, .string esc, .int .u8 cs, .bool op, .int .i64 bel, .bool my], .string s] w fun e w' => e = .returned (.int .i64 (scan s.data.toList 1 1 2)) ∧ Below w.heap.size w w' := by
  have HR := hide hr
  have HN := hide hn
  clear hr hn
  have h0 : 0 < w.heap.size := lt_of_cell hm
  have HM := hide (fun o => (World.cell?_alloc_past (w := w) o 0 0 h0).trans hm)
  clear hm
  rcases index_close s.data.toList 2 with ⟨e1, hno⟩ | ⟨a, e1, hl, hc, hno⟩
  · have E1 := hide (show Lib.index (s.extract 2 s.size).data.toList (ByteArray.data { data := #[42, 47] }).toList = -1 from by rw [ext_end]; exact e1)
    have H2 := hide (scan_none (lim := 1) (d := 1) hno)
    clear e1 hno
    go_enter Tryd.func18, Tryd.ntmps18
    go_wp2_with fail
    refine (has_is _ _ _ _ HR).mono ?_
    rintro e w1 ⟨rfl, rfl⟩
    go_wp2_with fail
    refine (has_is _ _ _ _ HN).mono ?_
    rintro e w1 ⟨rfl, rfl⟩
    go_wp2_with fail
    refine (idx_is _ _ m _ _ (by simp; omega) (unhide HM _) E1).mono ?_
    rintro e w1 ⟨rfl, rfl⟩
    go_wp2_with fail
    go_ret
    exact ⟨ret_int (unhide H2).symm, (Below.refl _ _).alloc (Nat.le_refl _) _⟩
  · rw [len_of] at hl
    have E1 := hide (show Lib.index (s.extract 2 s.size).data.toList (ByteArray.data { data := #[42, 47] }).toList = (a : Int) from by rw [ext_end]; exact e1)
    have H2 := hide (flat_some (by rw [len_of]; exact hl) hc hno)
    clear e1 hno hc
    go_enter Tryd.func18, Tryd.ntmps18
    go_wp2_with fail
    refine (has_is _ _ _ _ HR).mono ?_
    rintro e w1 ⟨rfl, rfl⟩
    go_wp2_with fail
    refine (has_is _ _ _ _ HN).mono ?_
    rintro e w1 ⟨rfl, rfl⟩
    go_wp2_with fail
    refine (idx_is _ _ m _ _ (by simp; omega) (unhide HM _) E1).mono ?_
    rintro e w1 ⟨rfl, rfl⟩
    go_wp2_with fail
    go_ret
    exact ⟨ret_int (by rw [unhide H2]; omega), (Below.refl _ _).alloc (Nat.le_refl _) _⟩

set_option maxHeartbeats 1600000 in
theorem block_no_nest (k lex : Int) (esc : ByteArray) (cs : Int) (op : Bool) (bel : Int) (my : Bool) (s : ByteArray) (m : Int) (w : World) (hs : s.size ≤ 524288) (h2 : 2 ≤ s.size)
    (hm : w.cell? ⟨0, 0, none⟩ = some (.int .i64 m))
    (hr : (bits BinOp.and IntKind.u16 lex 512 != 0) = false) (hn : (bits BinOp.and IntKind.u16 lex 256 != 0) = true) :
    Calls Tryd.prog 18 #[.agg #[.int .i32 k, .int .u16 lex, .string esc, .int .u8 cs, .bool op, .int .i64 bel, .bool my], .string s] w fun e w' => e = .returned (.int .i64 (scan s.data.toList 0 1 2)) ∧ Below w.heap.size w w' := by
  have HR := hide hr
  have HN := hide hn
  clear hr hn
  have h0 : 0 < w.heap.size := lt_of_cell hm
  have HM := hide (fun o => (World.cell?_alloc_past (w := w) o 0 0 h0).trans hm)
  clear hm
  go_enter Tryd.func18, Tryd.ntmps18
  go_wp2_with fail
  refine (has_is _ _ _ _ HR).mono ?_
  rintro e w1 ⟨rfl, rfl⟩
  go_wp2_with fail
  refine (has_is _ _ _ _ HN).mono ?_
  rintro e w1 ⟨rfl, rfl⟩
  go_wp2_with fail
  go_loop [8, 9] (fun dd j => ∃ d k : Nat, 1 ≤ d ∧ d ≤ k + 1 ∧ k ≤ s.size ∧ dd = .int .i64 d ∧ j = .int .i64 k ∧ scan s.data.toList 0 1 2 = scan s.data.toList 0 d k) (fun _ j => s.size - (intOf j).toNat)
  case atStart => exact ⟨1, 2, by omega, by omega, h2, rfl, rfl, rfl⟩
  case round =>
    obtain ⟨d, k, hd1, hdk, hk, rfl, rfl, hf⟩ := hrel
    have HF := hide hf
    clear hf
    by_cases hkl : k + 1 < s.size
    · have hk0 : k < s.size := by omega
      rcases pair_tests hk0 hkl with ⟨hc, p1⟩ | ⟨ho, p1, p2⟩ | ⟨⟨hnc, hno⟩, p1, p2⟩
      · by_cases hd : d = 1
        · subst hd
          have H2 := hide (scan_end (lim := 0) hc)
          clear hc
          go_wp2_with fail
          go_ret
          exact ⟨ret_int (by rw [unhide HF, unhide H2]; omega), (Below.refl _ _).alloc (Nat.le_refl _) _⟩
        · have H2 := hide (scan_close (lim := 0) hc hd)
          clear hc
          go_wp2_with fail
          go_round
          case rel => exact ⟨d - 1, k + 2, by omega, by omega, by omega, by go_num, by go_num, (unhide HF).trans (unhide H2)⟩
          case measure => simp [intOf]; omega
      · have H2 := hide (scan_open (lim := 0) (d := d) ho (Or.inl rfl))
        clear ho
        go_wp2_with fail
        go_round
        case rel => exact ⟨d + 1, k + 2, by omega, by omega, by omega, by go_num, by go_num, (unhide HF).trans (unhide H2)⟩
        case measure => simp [intOf]; omega
      · have H2 := hide (scan_step (lim := 0) (d := d) (by rw [len_of]; exact hk0) hnc (fun h => hno h.1))
        clear hnc hno
        go_wp2_with fail
        go_round
        case rel => exact ⟨d, k + 1, by omega, by omega, by omega, by go_num, by go_num, (unhide HF).trans (unhide H2)⟩
        case measure => simp [intOf]; omega
    · have H2 := hide (scan_past (l := s.data.toList) (lim := 0) (d := d) (i := k) (by rw [len_of]; omega))
      go_wp2_with fail
      go_ret
      exact ⟨ret_int (by rw [unhide HF, unhide H2]), (Below.refl _ _).alloc (Nat.le_refl _) _⟩

set_option maxHeartbeats 1600000 in
theorem block_few_flat (k lex : Int) (esc : ByteArray) (cs : Int) (op : Bool) (bel : Int) (my : Bool) (s : ByteArray) (m : Int) (w : World) (hs : s.size ≤ 524288) (h2 : 2 ≤ s.size)
    (hm : w.cell? ⟨0, 0, none⟩ = some (.int .i64 m))
    (hr : (bits BinOp.and IntKind.u16 lex 512 != 0) = true) (hn : (bits BinOp.and IntKind.u16 lex 256 != 0) = false) (hb : body s.data.toList = -1) :
    Calls Tryd.prog 18 #[.agg #[.int .i32 k, .int .u16 lex, .string esc, .int .u8 cs, .bool op, .int .i64 bel, .bool my], .string s] w fun e w' => e = .returned (.int .i64 (scan s.data.toList 1 1 2)) ∧ Below w.heap.size w w' := by
  have HR := hide hr
  have HN := hide hn
  clear hr hn
  have HB := hide hb
  clear hb
  have h0 : 0 < w.heap.size := lt_of_cell hm
  have HM := hide (fun o => (World.cell?_alloc_past (w := w) o 0 0 h0).trans hm)
  clear hm
  rcases index_close s.data.toList 2 with ⟨e1, hno⟩ | ⟨a, e1, hl, hc, hno⟩
  · have E1 := hide (show Lib.index (s.extract 2 s.size).data.toList (ByteArray.data { data := #[42, 47] }).toList = -1 from by rw [ext_end]; exact e1)
    have H2 := hide (scan_none (lim := 1) (d := 1) hno)
    clear e1 hno
    go_enter Tryd.func18, Tryd.ntmps18
    go_wp2_with fail
    refine (has_is _ _ _ _ HR).mono ?_
    rintro e w1 ⟨rfl, rfl⟩
    go_wp2_with fail
    refine (run_few _ _ hs (unhide HB)).mono ?_
    rintro e w1 ⟨n, rfl, rfl⟩
    go_wp2_with fail
    refine (has_is _ _ _ _ HN).mono ?_
    rintro e w1 ⟨rfl, rfl⟩
    go_wp2_with fail
    refine (idx_is _ _ m _ _ (by simp; omega) (unhide HM _) E1).mono ?_
    rintro e w1 ⟨rfl, rfl⟩
    go_wp2_with fail
    go_ret
    exact ⟨ret_int (unhide H2).symm, (Below.refl _ _).alloc (Nat.le_refl _) _⟩
  · rw [len_of] at hl
    have E1 := hide (show Lib.index (s.extract 2 s.size).data.toList (ByteArray.data { data := #[42, 47] }).toList = (a : Int) from by rw [ext_end]; exact e1)
    have H2 := hide (flat_some (by rw [len_of]; exact hl) hc hno)
    clear e1 hno hc
    go_enter Tryd.func18, Tryd.ntmps18
    go_wp2_with fail
    refine (has_is _ _ _ _ HR).mono ?_
    rintro e w1 ⟨rfl, rfl⟩
    go_wp2_with fail
    refine (run_few _ _ hs (unhide HB)).mono ?_
    rintro e w1 ⟨n, rfl, rfl⟩
    go_wp2_with fail
    refine (has_is _ _ _ _ HN).mono ?_
    rintro e w1 ⟨rfl, rfl⟩
    go_wp2_with fail
    refine (idx_is _ _ m _ _ (by simp; omega) (unhide HM _) E1).mono ?_
    rintro e w1 ⟨rfl, rfl⟩
    go_wp2_with fail
    go_ret
    exact ⟨ret_int (by rw [unhide H2]; omega), (Below.refl _ _).alloc (Nat.le_refl _) _⟩

set_option maxHeartbeats 1600000 in
theorem block_few_nest (k lex : Int) (esc : ByteArray) (cs : Int) (op : Bool) (bel : Int) (my : Bool) (s : ByteArray) (m : Int) (w : World) (hs : s.size ≤ 524288) (h2 : 2 ≤ s.size)
    (hm : w.cell? ⟨0, 0, none⟩ = some (.int .i64 m))
    (hr : (bits BinOp.and IntKind.u16 lex 512 != 0) = true) (hn : (bits BinOp.and IntKind.u16 lex 256 != 0) = true) (hb : body s.data.toList = -1) :
    Calls Tryd.prog 18 #[.agg #[.int .i32 k, .int .u16 lex, .string esc, .int .u8 cs, .bool op, .int .i64 bel, .bool my], .string s] w fun e w' => e = .returned (.int .i64 (scan s.data.toList 0 1 2)) ∧ Below w.heap.size w w' := by
  have HR := hide hr
  have HN := hide hn
  clear hr hn
  have HB := hide hb
  clear hb
  have h0 : 0 < w.heap.size := lt_of_cell hm
  have HM := hide (fun o => (World.cell?_alloc_past (w := w) o 0 0 h0).trans hm)
  clear hm
  go_enter Tryd.func18, Tryd.ntmps18
  go_wp2_with fail
  refine (has_is _ _ _ _ HR).mono ?_
  rintro e w1 ⟨rfl, rfl⟩
  go_wp2_with fail
  refine (run_few _ _ hs (unhide HB)).mono ?_
  rintro e w1 ⟨n, rfl, rfl⟩
  go_wp2_with fail
  refine (has_is _ _ _ _ HN).mono ?_
  rintro e w1 ⟨rfl, rfl⟩
  go_wp2_with fail
  go_loop [8, 9] (fun dd j => ∃ d k : Nat, 1 ≤ d ∧ d ≤ k + 1 ∧ k ≤ s.size ∧ dd = .int .i64 d ∧ j = .int .i64 k ∧ scan s.data.toList 0 1 2 = scan s.data.toList 0 d k) (fun _ j => s.size - (intOf j).toNat)
  case atStart => exact ⟨1, 2, by omega, by omega, h2, rfl, rfl, rfl⟩
  case round =>
    obtain ⟨d, k, hd1, hdk, hk, rfl, rfl, hf⟩ := hrel
    have HF := hide hf
    clear hf
    by_cases hkl : k + 1 < s.size
    · have hk0 : k < s.size := by omega
      rcases pair_tests hk0 hkl with ⟨hc, p1⟩ | ⟨ho, p1, p2⟩ | ⟨⟨hnc, hno⟩, p1, p2⟩
      · by_cases hd : d = 1
        · subst hd
          have H2 := hide (scan_end (lim := 0) hc)
          clear hc
          go_wp2_with fail
          go_ret
          exact ⟨ret_int (by rw [unhide HF, unhide H2]; omega), (Below.refl _ _).alloc (Nat.le_refl _) _⟩
        · have H2 := hide (scan_close (lim := 0) hc hd)
          clear hc
          go_wp2_with fail
          go_round
          case rel => exact ⟨d - 1, k + 2, by omega, by omega, by omega, by go_num, by go_num, (unhide HF).trans (unhide H2)⟩
          case measure => simp [intOf]; omega
      · have H2 := hide (scan_open (lim := 0) (d := d) ho (Or.inl rfl))
        clear ho
        go_wp2_with fail
        go_round
        case rel => exact ⟨d + 1, k + 2, by omega, by omega, by omega, by go_num, by go_num, (unhide HF).trans (unhide H2)⟩
        case measure => simp [intOf]; omega
      · have H2 := hide (scan_step (lim := 0) (d := d) (by rw [len_of]; exact hk0) hnc (fun h => hno h.1))
        clear hnc hno
        go_wp2_with fail
        go_round
        case rel => exact ⟨d, k + 1, by omega, by omega, by omega, by go_num, by go_num, (unhide HF).trans (unhide H2)⟩
        case measure => simp [intOf]; omega
    · have H2 := hide (scan_past (l := s.data.toList) (lim := 0) (d := d) (i := k) (by rw [len_of]; omega))
      go_wp2_with fail
      go_ret
      exact ⟨ret_int (by rw [unhide HF, unhide H2]), (Below.refl _ _).alloc (Nat.le_refl _) _⟩

set_option maxHeartbeats 1600000 in
theorem block_ver_any (k lex : Int) (esc : ByteArray) (cs : Int) (op : Bool) (bel : Int) (my : Bool) (s : ByteArray) (m : Int) (w : World) (hs : s.size ≤ 524288) (h2 : 2 ≤ s.size)
    (hm : w.cell? ⟨0, 0, none⟩ = some (.int .i64 m))
    (hr : (bits BinOp.and IntKind.u16 lex 512 != 0) = true) (n : Nat) (hb : body s.data.toList = n) :
    Calls Tryd.prog 18 #[.agg #[.int .i32 k, .int .u16 lex, .string esc, .int .u8 cs, .bool op, .int .i64 bel, .bool my], .string s] w fun e w' => e = .returned (.int .i64 (scan s.data.toList 2 1 n)) ∧ Below w.heap.size w w' := by
  have HR := hide hr
  have hroom := body_room h2 hb
  have HB := hide hb
  clear hr hb
  have h0 : 0 < w.heap.size := lt_of_cell hm
  have HM := hide (fun o => (World.cell?_alloc_past (w := w) o 0 0 h0).trans hm)
  clear hm
  go_enter Tryd.func18, Tryd.ntmps18
  go_wp2_with fail
  refine (has_is _ _ _ _ HR).mono ?_
  rintro e w1 ⟨rfl, rfl⟩
  go_wp2_with fail
  refine (run_some _ _ hs (by rw [unhide HB]; omega)).mono ?_
  rintro e w1 ⟨v, rfl, hbel⟩
  rw [unhide HB]
  have HM1 := hide ((hbel.cell (p := ⟨0, 0, none⟩) (by simp)).trans (unhide HM _))
  have HBel := hide (((Below.refl w.heap.size w).alloc (Nat.le_refl _) _).trans (hbel.mono (by simp)))
  clear hbel
  go_wp2_with fail
  refine (ver_any _ n m _ hs hroom (unhide HM1)).mono ?_
  rintro e w2 ⟨rfl, rfl⟩
  go_wp2_with fail
  go_ret
  exact ⟨rfl, unhide HBel⟩

theorem block_any (k lex : Int) (esc : ByteArray) (cs : Int) (op : Bool) (bel : Int) (my : Bool) (s : ByteArray) (m : Int) (w : World) (hs : s.size ≤ 524288) (h2 : 2 ≤ s.size)
    (hm : w.cell? ⟨0, 0, none⟩ = some (.int .i64 m)) :
    Calls Tryd.prog 18 #[.agg #[.int .i32 k, .int .u16 lex, .string esc, .int .u8 cs, .bool op, .int .i64 bel, .bool my], .string s] w fun e w' => e = .returned (.int .i64 (block (bits BinOp.and IntKind.u16 lex 512 != 0) (bits BinOp.and IntKind.u16 lex 256 != 0) s.data.toList)) ∧ Below w.heap.size w w' := by
  cases hr : (bits BinOp.and IntKind.u16 lex 512 != 0)
  · rw [block_nover (Or.inl rfl)]
    cases hn : (bits BinOp.and IntKind.u16 lex 256 != 0)
    · exact block_no_flat k lex esc cs op bel my s m w hs h2 hm hr hn
    · exact block_no_nest k lex esc cs op bel my s m w hs h2 hm hr hn
  · rcases body_or s.data.toList with hb | ⟨n, hb⟩
    · rw [block_nover (Or.inr hb)]
      cases hn : (bits BinOp.and IntKind.u16 lex 256 != 0)
      · exact block_few_flat k lex esc cs op bel my s m w hs h2 hm hr hn hb
      · exact block_few_nest k lex esc cs op bel my s m w hs h2 hm hr hn hb
    · rw [block_ver hb]
      exact block_ver_any k lex esc cs op bel my s m w hs h2 hm hr n hb
end Go.Proofs.Qxb6606184aDoor
