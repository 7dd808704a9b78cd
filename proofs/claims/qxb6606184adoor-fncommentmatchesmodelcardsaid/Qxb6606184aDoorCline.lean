import Derived.Test.Qxb6606184aDoorLine
namespace Go.Proofs.Qxb6606184aDoor
open Go.RowKit Plain

theorem any_is_lf (s : ByteArray) (o : Nat) (r : Int) (w : World) (_hs : s.size ≤ 524288) (h : Hid (lineEnd false (s.data.toList.drop o) = r)) :
    Calls Tryd.prog 23 #[.string (s.extract o s.size), .string { data := #[10] }] w fun e w' => e = .returned (.int .i64 r) ∧ Below w.heap.size w w' := by
  rw [← unhide h, ← ext_end]
  exact (any_lf _ _).mono fun e w' ⟨h1, h2⟩ => ⟨h1, h2 ▸ Below.refl _ _⟩
theorem any_is_crlf (s : ByteArray) (o : Nat) (r : Int) (w : World) (hs : s.size ≤ 524288) (h : Hid (lineEnd true (s.data.toList.drop o) = r)) :
    Calls Tryd.prog 23 #[.string (s.extract o s.size), .string { data := #[10, 13] }] w fun e w' => e = .returned (.int .i64 r) ∧ Below w.heap.size w w' := by
  rw [← unhide h, ← ext_end]
  exact any_crlf _ _ (by simp; omega)

set_option maxHeartbeats 400000 in
theorem cc_dash_nod (k lex : Int) (esc : ByteArray) (cs : Int) (op : Bool) (bel : Int) (my : Bool) (s : ByteArray) (cr : Bool) (w : World) (hs : s.size ≤ 524288) (ho : ¬ Opens s) (hcr : (bits BinOp.and IntKind.u16 lex 128 != 0) = cr)
    (hd : Dash s) (hD : (bits BinOp.and IntKind.u16 lex 64 != 0) = false) :
    Calls Tryd.prog 16 #[.agg #[.int .i32 k, .int .u16 lex, .string esc, .int .u8 cs, .bool op, .int .i64 bel, .bool my], .string s] w fun e w' => e = .returned (.int .i64 (LE cr s.data.toList 2)) ∧ Below w.heap.size w w' := by
  have P0 := hide (show Lib.hasPrefix s.data.toList (ByteArray.data { data := #[47, 42] }).toList = false from Bool.eq_false_iff.2 fun e => ho ((opens_pre s).1 e))
  have HCR := hide hcr
  clear ho hcr
  have P1 := hide (show Lib.hasPrefix s.data.toList (ByteArray.data { data := #[45, 45] }).toList = true from (dash_pre s).2 hd)
  have h2 : 2 ≤ s.size := hd.1
  clear hd
  have HD := hide hD
  clear hD
  cases cr
  · rcases lineEnd_or false (s.data.toList.drop 2) with e | ⟨n, e, hn⟩
    · have E := hide e
      have HLE := hide (show LE false s.data.toList 2 = -1 from by unfold LE; rw [e]; rfl)
      clear e
      go_enter Tryd.func16, Tryd.ntmps16
      go_wp2_with fail
      refine (hp_is _ _ _ _ P0).mono ?_
      rintro e w1 ⟨rfl, rfl⟩
      go_wp2_with fail
      refine (hp_is _ _ _ _ P1).mono ?_
      rintro e w1 ⟨rfl, rfl⟩
      go_wp2_with fail
      refine (has_is _ _ _ _ HD).mono ?_
      rintro e w1 ⟨rfl, rfl⟩
      go_wp2_with fail
      refine (has_is _ _ _ _ HCR).mono ?_
      rintro e w1 ⟨rfl, rfl⟩
      go_wp2_with fail
      refine (any_is_lf s 2 _ _ hs E).mono ?_
      rintro e w2 ⟨rfl, hb⟩
      have HB := hide (((Below.refl w.heap.size w).alloc (Nat.le_refl _) _).trans (hb.mono (by simp)))
      clear hb
      go_wp2_with fail
      go_ret
      exact ⟨ret_int (unhide HLE).symm, unhide HB⟩
    · have E := hide e
      have HLE := hide (show LE false s.data.toList 2 = 2 + n + 1 from by unfold LE; rw [e, if_neg (by omega)]; rfl)
      rw [List.length_drop, len_of] at hn
      clear e
      go_enter Tryd.func16, Tryd.ntmps16
      go_wp2_with fail
      refine (hp_is _ _ _ _ P0).mono ?_
      rintro e w1 ⟨rfl, rfl⟩
      go_wp2_with fail
      refine (hp_is _ _ _ _ P1).mono ?_
      rintro e w1 ⟨rfl, rfl⟩
      go_wp2_with fail
      refine (has_is _ _ _ _ HD).mono ?_
      rintro e w1 ⟨rfl, rfl⟩
      go_wp2_with fail
      refine (has_is _ _ _ _ HCR).mono ?_
      rintro e w1 ⟨rfl, rfl⟩
      go_wp2_with fail
      refine (any_is_lf s 2 _ _ hs E).mono ?_
      rintro e w2 ⟨rfl, hb⟩
      have HB := hide (((Below.refl w.heap.size w).alloc (Nat.le_refl _) _).trans (hb.mono (by simp)))
      clear hb
      go_wp2_with fail
      go_ret
      exact ⟨ret_int (by rw [unhide HLE]), unhide HB⟩
  · rcases lineEnd_or true (s.data.toList.drop 2) with e | ⟨n, e, hn⟩
    · have E := hide e
      have HLE := hide (show LE true s.data.toList 2 = -1 from by unfold LE; rw [e]; rfl)
      clear e
      go_enter Tryd.func16, Tryd.ntmps16
      go_wp2_with fail
      refine (hp_is _ _ _ _ P0).mono ?_
      rintro e w1 ⟨rfl, rfl⟩
      go_wp2_with fail
      refine (hp_is _ _ _ _ P1).mono ?_
      rintro e w1 ⟨rfl, rfl⟩
      go_wp2_with fail
      refine (has_is _ _ _ _ HD).mono ?_
      rintro e w1 ⟨rfl, rfl⟩
      go_wp2_with fail
      refine (has_is _ _ _ _ HCR).mono ?_
      rintro e w1 ⟨rfl, rfl⟩
      go_wp2_with fail
      refine (any_is_crlf s 2 _ _ hs E).mono ?_
      rintro e w2 ⟨rfl, hb⟩
      have HB := hide (((Below.refl w.heap.size w).alloc (Nat.le_refl _) _).trans (hb.mono (by simp)))
      clear hb
      go_wp2_with fail
      go_ret
      exact ⟨ret_int (unhide HLE).symm, unhide HB⟩
    · have E := hide e
      have HLE := hide (show LE true s.data.toList 2 = 2 + n + 1 from by unfold LE; rw [e, if_neg (by omega)]; rfl)
      rw [List.length_drop, len_of] at hn
      clear e
      go_enter Tryd.func16, Tryd.ntmps16
      go_wp2_with fail
      refine (hp_is _ _ _ _ P0).mono ?_
      rintro e w1 ⟨rfl, rfl⟩
      go_wp2_with fail
      refine (hp_is _ _ _ _ P1).mono ?_
      rintro e w1 ⟨rfl, rfl⟩
      go_wp2_with fail
      refine (has_is _ _ _ _ HD).mono ?_
      rintro e w1 ⟨rfl, rfl⟩
      go_wp2_with fail
      refine (has_is _ _ _ _ HCR).mono ?_
      rintro e w1 ⟨rfl, rfl⟩
      go_wp2_with fail
      refine (any_is_crlf s 2 _ _ hs E).mono ?_
      rintro e w2 ⟨rfl, hb⟩
      have HB := hide (((Below.refl w.heap.size w).alloc (Nat.le_refl _) _).trans (hb.mono (by simp)))
      clear hb
      go_wp2_with fail
      go_ret
      exact ⟨ret_int (by rw [unhide HLE]), unhide HB⟩

set_option maxHeartbeats 400000 in
theorem cc_dash_two (k lex : Int) (esc : ByteArray) (cs : Int) (op : Bool) (bel : Int) (my : Bool) (s : ByteArray) (cr : Bool) (w : World) (hs : s.size ≤ 524288) (ho : ¬ Opens s) (hcr : (bits BinOp.and IntKind.u16 lex 128 != 0) = cr)
    (hd : Dash s) (hD : (bits BinOp.and IntKind.u16 lex 64 != 0) = true) (h3 : s.size = 2) :
    Calls Tryd.prog 16 #[.agg #[.int .i32 k, .int .u16 lex, .string esc, .int .u8 cs, .bool op, .int .i64 bel, .bool my], .string s] w fun e w' => e = .returned (.int .i64 (LE cr s.data.toList 2)) ∧ Below w.heap.size w w' := by
  have P0 := hide (show Lib.hasPrefix s.data.toList (ByteArray.data { data := #[47, 42] }).toList = false from Bool.eq_false_iff.2 fun e => ho ((opens_pre s).1 e))
  have HCR := hide hcr
  clear ho hcr
  have P1 := hide (show Lib.hasPrefix s.data.toList (ByteArray.data { data := #[45, 45] }).toList = true from (dash_pre s).2 hd)
  have h2 : 2 ≤ s.size := hd.1
  clear hd
  have HD := hide hD
  clear hD
  have h3' : s.size ≤ 2 := by omega
  clear h3
  cases cr
  · rcases lineEnd_or false (s.data.toList.drop 2) with e | ⟨n, e, hn⟩
    · have E := hide e
      have HLE := hide (show LE false s.data.toList 2 = -1 from by unfold LE; rw [e]; rfl)
      clear e
      go_enter Tryd.func16, Tryd.ntmps16
      go_wp2_with fail
      refine (hp_is _ _ _ _ P0).mono ?_
      rintro e w1 ⟨rfl, rfl⟩
      go_wp2_with fail
      refine (hp_is _ _ _ _ P1).mono ?_
      rintro e w1 ⟨rfl, rfl⟩
      go_wp2_with fail
      refine (has_is _ _ _ _ HD).mono ?_
      rintro e w1 ⟨rfl, rfl⟩
      go_wp2_with fail
      refine (has_is _ _ _ _ HCR).mono ?_
      rintro e w1 ⟨rfl, rfl⟩
      go_wp2_with fail
      refine (any_is_lf s 2 _ _ hs E).mono ?_
      rintro e w2 ⟨rfl, hb⟩
      have HB := hide (((Below.refl w.heap.size w).alloc (Nat.le_refl _) _).trans (hb.mono (by simp)))
      clear hb
      go_wp2_with fail
      go_ret
      exact ⟨ret_int (unhide HLE).symm, unhide HB⟩
    · rw [List.length_drop, len_of] at hn
      omega
  · rcases lineEnd_or true (s.data.toList.drop 2) with e | ⟨n, e, hn⟩
    · have E := hide e
      have HLE := hide (show LE true s.data.toList 2 = -1 from by unfold LE; rw [e]; rfl)
      clear e
      go_enter Tryd.func16, Tryd.ntmps16
      go_wp2_with fail
      refine (hp_is _ _ _ _ P0).mono ?_
      rintro e w1 ⟨rfl, rfl⟩
      go_wp2_with fail
      refine (hp_is _ _ _ _ P1).mono ?_
      rintro e w1 ⟨rfl, rfl⟩
      go_wp2_with fail
      refine (has_is _ _ _ _ HD).mono ?_
      rintro e w1 ⟨rfl, rfl⟩
      go_wp2_with fail
      refine (has_is _ _ _ _ HCR).mono ?_
      rintro e w1 ⟨rfl, rfl⟩
      go_wp2_with fail
      refine (any_is_crlf s 2 _ _ hs E).mono ?_
      rintro e w2 ⟨rfl, hb⟩
      have HB := hide (((Below.refl w.heap.size w).alloc (Nat.le_refl _) _).trans (hb.mono (by simp)))
      clear hb
      go_wp2_with fail
      go_ret
      exact ⟨ret_int (unhide HLE).symm, unhide HB⟩
    · rw [List.length_drop, len_of] at hn
      omega

set_option maxHeartbeats 400000 in
theorem cc_dash_blank (k lex : Int) (esc : ByteArray) (cs : Int) (op : Bool) (bel : Int) (my : Bool) (s : ByteArray) (cr : Bool) (w : World) (hs : s.size ≤ 524288) (ho : ¬ Opens s) (hcr : (bits BinOp.and IntKind.u16 lex 128 != 0) = cr)
    (hd : Dash s) (hD : (bits BinOp.and IntKind.u16 lex 64 != 0) = true) (h3 : 2 < s.size) (hi : ink s[2] = false) :
    Calls Tryd.prog 16 #[.agg #[.int .i32 k, .int .u16 lex, .string esc, .int .u8 cs, .bool op, .int .i64 bel, .bool my], .string s] w fun e w' => e = .returned (.int .i64 (LE cr s.data.toList 2)) ∧ Below w.heap.size w w' := by
  have P0 := hide (show Lib.hasPrefix s.data.toList (ByteArray.data { data := #[47, 42] }).toList = false from Bool.eq_false_iff.2 fun e => ho ((opens_pre s).1 e))
  have HCR := hide hcr
  clear ho hcr
  have P1 := hide (show Lib.hasPrefix s.data.toList (ByteArray.data { data := #[45, 45] }).toList = true from (dash_pre s).2 hd)
  have h2 : 2 ≤ s.size := hd.1
  clear hd
  have HD := hide hD
  clear hD
  rcases ink_no hi with i1 | ⟨i1, i2, i3⟩
  · have i2 : decide ((32 : Int) < (s[2].toNat : Int)) = false := decide_eq_false (by omega)
    clear hi i1
    cases cr
    · rcases lineEnd_or false (s.data.toList.drop 2) with e | ⟨n, e, hn⟩
      · have E := hide e
        have HLE := hide (show LE false s.data.toList 2 = -1 from by unfold LE; rw [e]; rfl)
        clear e
        go_enter Tryd.func16, Tryd.ntmps16
        go_wp2_with fail
        refine (hp_is _ _ _ _ P0).mono ?_
        rintro e w1 ⟨rfl, rfl⟩
        go_wp2_with fail
        refine (hp_is _ _ _ _ P1).mono ?_
        rintro e w1 ⟨rfl, rfl⟩
        go_wp2_with fail
        refine (has_is _ _ _ _ HD).mono ?_
        rintro e w1 ⟨rfl, rfl⟩
        go_wp2_with fail
        refine (has_is _ _ _ _ HCR).mono ?_
        rintro e w1 ⟨rfl, rfl⟩
        go_wp2_with fail
        refine (any_is_lf s 2 _ _ hs E).mono ?_
        rintro e w2 ⟨rfl, hb⟩
        have HB := hide (((Below.refl w.heap.size w).alloc (Nat.le_refl _) _).trans (hb.mono (by simp)))
        clear hb
        go_wp2_with fail
        go_ret
        exact ⟨ret_int (unhide HLE).symm, unhide HB⟩
      · have E := hide e
        have HLE := hide (show LE false s.data.toList 2 = 2 + n + 1 from by unfold LE; rw [e, if_neg (by omega)]; rfl)
        rw [List.length_drop, len_of] at hn
        clear e
        go_enter Tryd.func16, Tryd.ntmps16
        go_wp2_with fail
        refine (hp_is _ _ _ _ P0).mono ?_
        rintro e w1 ⟨rfl, rfl⟩
        go_wp2_with fail
        refine (hp_is _ _ _ _ P1).mono ?_
        rintro e w1 ⟨rfl, rfl⟩
        go_wp2_with fail
        refine (has_is _ _ _ _ HD).mono ?_
        rintro e w1 ⟨rfl, rfl⟩
        go_wp2_with fail
        refine (has_is _ _ _ _ HCR).mono ?_
        rintro e w1 ⟨rfl, rfl⟩
        go_wp2_with fail
        refine (any_is_lf s 2 _ _ hs E).mono ?_
        rintro e w2 ⟨rfl, hb⟩
        have HB := hide (((Below.refl w.heap.size w).alloc (Nat.le_refl _) _).trans (hb.mono (by simp)))
        clear hb
        go_wp2_with fail
        go_ret
        exact ⟨ret_int (by rw [unhide HLE]), unhide HB⟩
    · rcases lineEnd_or true (s.data.toList.drop 2) with e | ⟨n, e, hn⟩
      · have E := hide e
        have HLE := hide (show LE true s.data.toList 2 = -1 from by unfold LE; rw [e]; rfl)
        clear e
        go_enter Tryd.func16, Tryd.ntmps16
        go_wp2_with fail
        refine (hp_is _ _ _ _ P0).mono ?_
        rintro e w1 ⟨rfl, rfl⟩
        go_wp2_with fail
        refine (hp_is _ _ _ _ P1).mono ?_
        rintro e w1 ⟨rfl, rfl⟩
        go_wp2_with fail
        refine (has_is _ _ _ _ HD).mono ?_
        rintro e w1 ⟨rfl, rfl⟩
        go_wp2_with fail
        refine (has_is _ _ _ _ HCR).mono ?_
        rintro e w1 ⟨rfl, rfl⟩
        go_wp2_with fail
        refine (any_is_crlf s 2 _ _ hs E).mono ?_
        rintro e w2 ⟨rfl, hb⟩
        have HB := hide (((Below.refl w.heap.size w).alloc (Nat.le_refl _) _).trans (hb.mono (by simp)))
        clear hb
        go_wp2_with fail
        go_ret
        exact ⟨ret_int (unhide HLE).symm, unhide HB⟩
      · have E := hide e
        have HLE := hide (show LE true s.data.toList 2 = 2 + n + 1 from by unfold LE; rw [e, if_neg (by omega)]; rfl)
        rw [List.length_drop, len_of] at hn
        clear e
        go_enter Tryd.func16, Tryd.ntmps16
        go_wp2_with fail
        refine (hp_is _ _ _ _ P0).mono ?_
        rintro e w1 ⟨rfl, rfl⟩
        go_wp2_with fail
        refine (hp_is _ _ _ _ P1).mono ?_
        rintro e w1 ⟨rfl, rfl⟩
        go_wp2_with fail
        refine (has_is _ _ _ _ HD).mono ?_
        rintro e w1 ⟨rfl, rfl⟩
        go_wp2_with fail
        refine (has_is _ _ _ _ HCR).mono ?_
        rintro e w1 ⟨rfl, rfl⟩
        go_wp2_with fail
        refine (any_is_crlf s 2 _ _ hs E).mono ?_
        rintro e w2 ⟨rfl, hb⟩
        have HB := hide (((Below.refl w.heap.size w).alloc (Nat.le_refl _) _).trans (hb.mono (by simp)))
        clear hb
        go_wp2_with fail
        go_ret
        exact ⟨ret_int (by rw [unhide HLE]), unhide HB⟩
  · clear hi
    cases cr
    · rcases lineEnd_or false (s.data.toList.drop 2) with e | ⟨n, e, hn⟩
      · have E := hide e
        have HLE := hide (show LE false s.data.toList 2 = -1 from by unfold LE; rw [e]; rfl)
        clear e
        go_enter Tryd.func16, Tryd.ntmps16
        go_wp2_with fail
        refine (hp_is _ _ _ _ P0).mono ?_
        rintro e w1 ⟨rfl, rfl⟩
        go_wp2_with fail
        refine (hp_is _ _ _ _ P1).mono ?_
        rintro e w1 ⟨rfl, rfl⟩
        go_wp2_with fail
        refine (has_is _ _ _ _ HD).mono ?_
        rintro e w1 ⟨rfl, rfl⟩
        go_wp2_with fail
        refine (has_is _ _ _ _ HCR).mono ?_
        rintro e w1 ⟨rfl, rfl⟩
        go_wp2_with fail
        refine (any_is_lf s 2 _ _ hs E).mono ?_
        rintro e w2 ⟨rfl, hb⟩
        have HB := hide (((Below.refl w.heap.size w).alloc (Nat.le_refl _) _).trans (hb.mono (by simp)))
        clear hb
        go_wp2_with fail
        go_ret
        exact ⟨ret_int (unhide HLE).symm, unhide HB⟩
      · have E := hide e
        have HLE := hide (show LE false s.data.toList 2 = 2 + n + 1 from by unfold LE; rw [e, if_neg (by omega)]; rfl)
        rw [List.length_drop, len_of] at hn
        clear e
        go_enter Tryd.func16, Tryd.ntmps16
        go_wp2_with fail
        refine (hp_is _ _ _ _ P0).mono ?_
        rintro e w1 ⟨rfl, rfl⟩
        go_wp2_with fail
        refine (hp_is _ _ _ _ P1).mono ?_
        rintro e w1 ⟨rfl, rfl⟩
        go_wp2_with fail
        refine (has_is _ _ _ _ HD).mono ?_
        rintro e w1 ⟨rfl, rfl⟩
        go_wp2_with fail
        refine (has_is _ _ _ _ HCR).mono ?_
        rintro e w1 ⟨rfl, rfl⟩
        go_wp2_with fail
        refine (any_is_lf s 2 _ _ hs E).mono ?_
        rintro e w2 ⟨rfl, hb⟩
        have HB := hide (((Below.refl w.heap.size w).alloc (Nat.le_refl _) _).trans (hb.mono (by simp)))
        clear hb
        go_wp2_with fail
        go_ret
        exact ⟨ret_int (by rw [unhide HLE]), unhide HB⟩
    · rcases lineEnd_or true (s.data.toList.drop 2) with e | ⟨n, e, hn⟩
      · have E := hide e
        have HLE := hide (show LE true s.data.toList 2 = -1 from by unfold LE; rw [e]; rfl)
        clear e
        go_enter Tryd.func16, Tryd.ntmps16
        go_wp2_with fail
        refine (hp_is _ _ _ _ P0).mono ?_
        rintro e w1 ⟨rfl, rfl⟩
        go_wp2_with fail
        refine (hp_is _ _ _ _ P1).mono ?_
        rintro e w1 ⟨rfl, rfl⟩
        go_wp2_with fail
        refine (has_is _ _ _ _ HD).mono ?_
        rintro e w1 ⟨rfl, rfl⟩
        go_wp2_with fail
        refine (has_is _ _ _ _ HCR).mono ?_
        rintro e w1 ⟨rfl, rfl⟩
        go_wp2_with fail
        refine (any_is_crlf s 2 _ _ hs E).mono ?_
        rintro e w2 ⟨rfl, hb⟩
        have HB := hide (((Below.refl w.heap.size w).alloc (Nat.le_refl _) _).trans (hb.mono (by simp)))
        clear hb
        go_wp2_with fail
        go_ret
        exact ⟨ret_int (unhide HLE).symm, unhide HB⟩
      · have E := hide e
        have HLE := hide (show LE true s.data.toList 2 = 2 + n + 1 from by unfold LE; rw [e, if_neg (by omega)]; rfl)
        rw [List.length_drop, len_of] at hn
        clear e
        go_enter Tryd.func16, Tryd.ntmps16
        go_wp2_with fail
        refine (hp_is _ _ _ _ P0).mono ?_
        rintro e w1 ⟨rfl, rfl⟩
        go_wp2_with fail
        refine (hp_is _ _ _ _ P1).mono ?_
        rintro e w1 ⟨rfl, rfl⟩
        go_wp2_with fail
        refine (has_is _ _ _ _ HD).mono ?_
        rintro e w1 ⟨rfl, rfl⟩
        go_wp2_with fail
        refine (has_is _ _ _ _ HCR).mono ?_
        rintro e w1 ⟨rfl, rfl⟩
        go_wp2_with fail
        refine (any_is_crlf s 2 _ _ hs E).mono ?_
        rintro e w2 ⟨rfl, hb⟩
        have HB := hide (((Below.refl w.heap.size w).alloc (Nat.le_refl _) _).trans (hb.mono (by simp)))
        clear hb
        go_wp2_with fail
        go_ret
        exact ⟨ret_int (by rw [unhide HLE]), unhide HB⟩

set_option maxHeartbeats 400000 in
theorem cc_dash_ink (k lex : Int) (esc : ByteArray) (cs : Int) (op : Bool) (bel : Int) (my : Bool) (s : ByteArray) (cr : Bool) (w : World) (hs : s.size ≤ 524288) (ho : ¬ Opens s) (hcr : (bits BinOp.and IntKind.u16 lex 128 != 0) = cr)
    (hd : Dash s) (hD : (bits BinOp.and IntKind.u16 lex 64 != 0) = true) (h3 : 2 < s.size) (hi : ink s[2] = true) :
    Calls Tryd.prog 16 #[.agg #[.int .i32 k, .int .u16 lex, .string esc, .int .u8 cs, .bool op, .int .i64 bel, .bool my], .string s] w fun e w' => e = .returned (.int .i64 (0)) ∧ Below w.heap.size w w' := by
  have P0 := hide (show Lib.hasPrefix s.data.toList (ByteArray.data { data := #[47, 42] }).toList = false from Bool.eq_false_iff.2 fun e => ho ((opens_pre s).1 e))
  have HCR := hide hcr
  clear ho hcr
  have P1 := hide (show Lib.hasPrefix s.data.toList (ByteArray.data { data := #[45, 45] }).toList = true from (dash_pre s).2 hd)
  have h2 : 2 ≤ s.size := hd.1
  clear hd
  have HD := hide hD
  clear hD
  obtain ⟨i1, i2, i3⟩ := ink_yes hi
  clear hi
  go_enter Tryd.func16, Tryd.ntmps16
  go_wp2_with fail
  refine (hp_is _ _ _ _ P0).mono ?_
  rintro e w1 ⟨rfl, rfl⟩
  go_wp2_with fail
  refine (hp_is _ _ _ _ P1).mono ?_
  rintro e w1 ⟨rfl, rfl⟩
  go_wp2_with fail
  refine (has_is _ _ _ _ HD).mono ?_
  rintro e w1 ⟨rfl, rfl⟩
  go_wp2_with fail
  go_ret
  exact ⟨rfl, (Below.refl _ _).alloc (Nat.le_refl _) _⟩

set_option maxHeartbeats 400000 in
theorem cc_noh (k lex : Int) (esc : ByteArray) (cs : Int) (op : Bool) (bel : Int) (my : Bool) (s : ByteArray) (cr : Bool) (w : World) (_hs : s.size ≤ 524288) (ho : ¬ Opens s) (hcr : (bits BinOp.and IntKind.u16 lex 128 != 0) = cr)
    (hd : ¬ Dash s) (hH : (bits BinOp.and IntKind.u16 lex 32 != 0) = false) :
    Calls Tryd.prog 16 #[.agg #[.int .i32 k, .int .u16 lex, .string esc, .int .u8 cs, .bool op, .int .i64 bel, .bool my], .string s] w fun e w' => e = .returned (.int .i64 (0)) ∧ Below w.heap.size w w' := by
  have P0 := hide (show Lib.hasPrefix s.data.toList (ByteArray.data { data := #[47, 42] }).toList = false from Bool.eq_false_iff.2 fun e => ho ((opens_pre s).1 e))
  have HCR := hide hcr
  clear ho hcr
  have P1 := hide (show Lib.hasPrefix s.data.toList (ByteArray.data { data := #[45, 45] }).toList = false from Bool.eq_false_iff.2 fun e => hd ((dash_pre s).1 e))
  clear hd
  have HH := hide hH
  clear hH
  go_enter Tryd.func16, Tryd.ntmps16
  go_wp2_with fail
  refine (hp_is _ _ _ _ P0).mono ?_
  rintro e w1 ⟨rfl, rfl⟩
  go_wp2_with fail
  refine (hp_is _ _ _ _ P1).mono ?_
  rintro e w1 ⟨rfl, rfl⟩
  go_wp2_with fail
  refine (has_is _ _ _ _ HH).mono ?_
  rintro e w1 ⟨rfl, rfl⟩
  go_wp2_with fail
  go_ret
  exact ⟨rfl, (Below.refl _ _).alloc (Nat.le_refl _) _⟩

set_option maxHeartbeats 400000 in
theorem cc_nohash (k lex : Int) (esc : ByteArray) (cs : Int) (op : Bool) (bel : Int) (my : Bool) (s : ByteArray) (cr : Bool) (w : World) (_hs : s.size ≤ 524288) (ho : ¬ Opens s) (hcr : (bits BinOp.and IntKind.u16 lex 128 != 0) = cr)
    (hd : ¬ Dash s) (hH : (bits BinOp.and IntKind.u16 lex 32 != 0) = true) (c : ¬ ∃ h : 1 ≤ s.size, s[0] = 35) :
    Calls Tryd.prog 16 #[.agg #[.int .i32 k, .int .u16 lex, .string esc, .int .u8 cs, .bool op, .int .i64 bel, .bool my], .string s] w fun e w' => e = .returned (.int .i64 (0)) ∧ Below w.heap.size w w' := by
  have P0 := hide (show Lib.hasPrefix s.data.toList (ByteArray.data { data := #[47, 42] }).toList = false from Bool.eq_false_iff.2 fun e => ho ((opens_pre s).1 e))
  have HCR := hide hcr
  clear ho hcr
  have P1 := hide (show Lib.hasPrefix s.data.toList (ByteArray.data { data := #[45, 45] }).toList = false from Bool.eq_false_iff.2 fun e => hd ((dash_pre s).1 e))
  clear hd
  have HH := hide hH
  clear hH
  have P2 := hide (show Lib.hasPrefix s.data.toList (ByteArray.data { data := #[35] }).toList = false from Bool.eq_false_iff.2 fun e => c ((hash_pre s).1 e))
  clear c
  go_enter Tryd.func16, Tryd.ntmps16
  go_wp2_with fail
  refine (hp_is _ _ _ _ P0).mono ?_
  rintro e w1 ⟨rfl, rfl⟩
  go_wp2_with fail
  refine (hp_is _ _ _ _ P1).mono ?_
  rintro e w1 ⟨rfl, rfl⟩
  go_wp2_with fail
  refine (has_is _ _ _ _ HH).mono ?_
  rintro e w1 ⟨rfl, rfl⟩
  go_wp2_with fail
  refine (hp_is _ _ _ _ P2).mono ?_
  rintro e w1 ⟨rfl, rfl⟩
  go_wp2_with fail
  go_ret
  exact ⟨rfl, (Below.refl _ _).alloc (Nat.le_refl _) _⟩

set_option maxHeartbeats 400000 in
theorem cc_hash (k lex : Int) (esc : ByteArray) (cs : Int) (op : Bool) (bel : Int) (my : Bool) (s : ByteArray) (cr : Bool) (w : World) (hs : s.size ≤ 524288) (ho : ¬ Opens s) (hcr : (bits BinOp.and IntKind.u16 lex 128 != 0) = cr)
    (hd : ¬ Dash s) (hH : (bits BinOp.and IntKind.u16 lex 32 != 0) = true) (c : ∃ h : 1 ≤ s.size, s[0] = 35) :
    Calls Tryd.prog 16 #[.agg #[.int .i32 k, .int .u16 lex, .string esc, .int .u8 cs, .bool op, .int .i64 bel, .bool my], .string s] w fun e w' => e = .returned (.int .i64 (LE cr s.data.toList 1)) ∧ Below w.heap.size w w' := by
  have P0 := hide (show Lib.hasPrefix s.data.toList (ByteArray.data { data := #[47, 42] }).toList = false from Bool.eq_false_iff.2 fun e => ho ((opens_pre s).1 e))
  have HCR := hide hcr
  clear ho hcr
  have P1 := hide (show Lib.hasPrefix s.data.toList (ByteArray.data { data := #[45, 45] }).toList = false from Bool.eq_false_iff.2 fun e => hd ((dash_pre s).1 e))
  clear hd
  have HH := hide hH
  clear hH
  have P2 := hide (show Lib.hasPrefix s.data.toList (ByteArray.data { data := #[35] }).toList = true from (hash_pre s).2 c)
  have h1 : 1 ≤ s.size := c.1
  clear c
  cases cr
  · rcases lineEnd_or false (s.data.toList.drop 1) with e | ⟨n, e, hn⟩
    · have E := hide e
      have HLE := hide (show LE false s.data.toList 1 = -1 from by unfold LE; rw [e]; rfl)
      clear e
      go_enter Tryd.func16, Tryd.ntmps16
      go_wp2_with fail
      refine (hp_is _ _ _ _ P0).mono ?_
      rintro e w1 ⟨rfl, rfl⟩
      go_wp2_with fail
      refine (hp_is _ _ _ _ P1).mono ?_
      rintro e w1 ⟨rfl, rfl⟩
      go_wp2_with fail
      refine (has_is _ _ _ _ HH).mono ?_
      rintro e w1 ⟨rfl, rfl⟩
      go_wp2_with fail
      refine (hp_is _ _ _ _ P2).mono ?_
      rintro e w1 ⟨rfl, rfl⟩
      go_wp2_with fail
      refine (has_is _ _ _ _ HCR).mono ?_
      rintro e w1 ⟨rfl, rfl⟩
      go_wp2_with fail
      refine (any_is_lf s 1 _ _ hs E).mono ?_
      rintro e w2 ⟨rfl, hb⟩
      have HB := hide (((Below.refl w.heap.size w).alloc (Nat.le_refl _) _).trans (hb.mono (by simp)))
      clear hb
      go_wp2_with fail
      go_ret
      exact ⟨ret_int (unhide HLE).symm, unhide HB⟩
    · have E := hide e
      have HLE := hide (show LE false s.data.toList 1 = 1 + n + 1 from by unfold LE; rw [e, if_neg (by omega)]; rfl)
      rw [List.length_drop, len_of] at hn
      clear e
      go_enter Tryd.func16, Tryd.ntmps16
      go_wp2_with fail
      refine (hp_is _ _ _ _ P0).mono ?_
      rintro e w1 ⟨rfl, rfl⟩
      go_wp2_with fail
      refine (hp_is _ _ _ _ P1).mono ?_
      rintro e w1 ⟨rfl, rfl⟩
      go_wp2_with fail
      refine (has_is _ _ _ _ HH).mono ?_
      rintro e w1 ⟨rfl, rfl⟩
      go_wp2_with fail
      refine (hp_is _ _ _ _ P2).mono ?_
      rintro e w1 ⟨rfl, rfl⟩
      go_wp2_with fail
      refine (has_is _ _ _ _ HCR).mono ?_
      rintro e w1 ⟨rfl, rfl⟩
      go_wp2_with fail
      refine (any_is_lf s 1 _ _ hs E).mono ?_
      rintro e w2 ⟨rfl, hb⟩
      have HB := hide (((Below.refl w.heap.size w).alloc (Nat.le_refl _) _).trans (hb.mono (by simp)))
      clear hb
      go_wp2_with fail
      go_ret
      exact ⟨ret_int (by rw [unhide HLE]), unhide HB⟩
  · rcases lineEnd_or true (s.data.toList.drop 1) with e | ⟨n, e, hn⟩
    · have E := hide e
      have HLE := hide (show LE true s.data.toList 1 = -1 from by unfold LE; rw [e]; rfl)
      clear e
      go_enter Tryd.func16, Tryd.ntmps16
      go_wp2_with fail
      refine (hp_is _ _ _ _ P0).mono ?_
      rintro e w1 ⟨rfl, rfl⟩
      go_wp2_with fail
      refine (hp_is _ _ _ _ P1).mono ?_
      rintro e w1 ⟨rfl, rfl⟩
      go_wp2_with fail
      refine (has_is _ _ _ _ HH).mono ?_
      rintro e w1 ⟨rfl, rfl⟩
      go_wp2_with fail
      refine (hp_is _ _ _ _ P2).mono ?_
      rintro e w1 ⟨rfl, rfl⟩
      go_wp2_with fail
      refine (has_is _ _ _ _ HCR).mono ?_
      rintro e w1 ⟨rfl, rfl⟩
      go_wp2_with fail
      refine (any_is_crlf s 1 _ _ hs E).mono ?_
      rintro e w2 ⟨rfl, hb⟩
      have HB := hide (((Below.refl w.heap.size w).alloc (Nat.le_refl _) _).trans (hb.mono (by simp)))
      clear hb
      go_wp2_with fail
      go_ret
      exact ⟨ret_int (unhide HLE).symm, unhide HB⟩
    · have E := hide e
      have HLE := hide (show LE true s.data.toList 1 = 1 + n + 1 from by unfold LE; rw [e, if_neg (by omega)]; rfl)
      rw [List.length_drop, len_of] at hn
      clear e
      go_enter Tryd.func16, Tryd.ntmps16
      go_wp2_with fail
      refine (hp_is _ _ _ _ P0).mono ?_
      rintro e w1 ⟨rfl, rfl⟩
      go_wp2_with fail
      refine (hp_is _ _ _ _ P1).mono ?_
      rintro e w1 ⟨rfl, rfl⟩
      go_wp2_with fail
      refine (has_is _ _ _ _ HH).mono ?_
      rintro e w1 ⟨rfl, rfl⟩
      go_wp2_with fail
      refine (hp_is _ _ _ _ P2).mono ?_
      rintro e w1 ⟨rfl, rfl⟩
      go_wp2_with fail
      refine (has_is _ _ _ _ HCR).mono ?_
      rintro e w1 ⟨rfl, rfl⟩
      go_wp2_with fail
      refine (any_is_crlf s 1 _ _ hs E).mono ?_
      rintro e w2 ⟨rfl, hb⟩
      have HB := hide (((Below.refl w.heap.size w).alloc (Nat.le_refl _) _).trans (hb.mono (by simp)))
      clear hb
      go_wp2_with fail
      go_ret
      exact ⟨ret_int (by rw [unhide HLE]), unhide HB⟩

end Go.Proofs.Qxb6606184aDoor
