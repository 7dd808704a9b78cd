import Derived.Test.Qxb6606184aDoorBlock
namespace Go.Proofs.Qxb6606184aDoor
open Go.RowKit Plain

set_option maxHeartbeats 400000 in
theorem zzblock_any (k lex : Int) (esc : ByteArray) (cs : Int) (op : Bool) (bel : Int) (my : Bool) (s : ByteArray) (m : Int) (w : World) (hs : s.size ≤ 524288) (h2 : 2 ≤ s.size)
    (hm : w.cell? ⟨0, 0, none⟩ = some (.int .i64 m)) :
    Calls Tryd.prog 14 #[.int .i32 k, .int .u16 lex, .string esc, .int .u8 cs, .bool op, .int .i64 bel, .bool my, .string s] w fun e w' =>
      e = .returned (.int .i64 (block (bits BinOp.and IntKind.u16 lex 512 != 0) (bits BinOp.and IntKind.u16 lex 256 != 0) s.data.toList)) ∧ Below w.heap.size w w' := by
  have HM := hide hm
  clear hm
  go_enter Tryd.func14, Tryd.ntmps14
  go_wp2_with fail
  refine (block_any _ _ _ _ _ _ _ _ m _ hs h2 (unhide HM)).mono ?_
  rintro e w1 ⟨rfl, hb⟩
  have HB := hide hb
  clear hb
  go_wp2_with fail
  go_ret
  exact ⟨rfl, unhide HB⟩

/-- does the text open a block comment? -/
def Opens (s : ByteArray) : Prop := ∃ h : 2 ≤ s.size, s[0] = 47 ∧ s[1] = 42

set_option maxHeartbeats 400000 in
theorem opens_yes (s : ByteArray) (w : World) (h : Opens s) (hs : s.size ≤ 524288) :
    Calls Tryd.prog 13 #[.string s] w fun e w' => e = .returned (.bool true) ∧ w' = w := by
  obtain ⟨h2, a, b⟩ := h
  have pa := (u8_yes (n := 47) a rfl).1
  have pb := (u8_yes (n := 42) b rfl).1
  clear a b
  go_enter Tryd.func13, Tryd.ntmps13
  go_wp2
  go_ret
  exact ⟨rfl, rfl⟩

set_option maxHeartbeats 400000 in
theorem opens_no (s : ByteArray) (w : World) (h : ¬ Opens s) (hs : s.size ≤ 524288) :
    Calls Tryd.prog 13 #[.string s] w fun e w' => e = .returned (.bool false) ∧ w' = w := by
  by_cases h2 : 2 ≤ s.size
  · by_cases a : s[0] = 47
    · have pa := (u8_yes (n := 47) a rfl).1
      have pb := (u8_no (c := s[1]) (d := 42) (n := 42) (fun b => h ⟨h2, a, b⟩) rfl).1
      clear a h
      go_enter Tryd.func13, Tryd.ntmps13
      go_wp2
      go_ret
      exact ⟨rfl, rfl⟩
    · have pa := (u8_no (n := 47) a rfl).1
      clear a h
      go_enter Tryd.func13, Tryd.ntmps13
      go_wp2
      go_ret
      exact ⟨rfl, rfl⟩
  · clear h
    go_enter Tryd.func13, Tryd.ntmps13
    go_wp2
    go_ret
    exact ⟨rfl, rfl⟩

set_option maxHeartbeats 800000 in
theorem fnblock_walk (k lex : Int) (esc : ByteArray) (cs : Int) (op : Bool) (bel : Int) (my : Bool) (s : ByteArray) (m : Int) (w : World) (he : esc.size ≤ maxLen) (hs0 : s.size ≤ maxLen)
    (hm : w.cell? ⟨0, 0, none⟩ = some (.int .i64 m)) :
    Calls Tryd.prog 6 #[.int .i32 k, .int .u16 lex, .string esc, .int .u8 cs, .bool op, .int .i64 bel, .bool my, .string s] w fun e w' => e = .returned (.bool true) ∧ Below w.heap.size w w' := by
  have HM := hide hm
  clear hm
  unfold maxLen at he hs0
  by_cases he1 : esc.size ≤ 524288
  · by_cases hs : s.size ≤ 524288
    · by_cases ho : Opens s
      · have HO := hide ho
        obtain ⟨h2, a, b⟩ := ho
        have A := hide a
        have B := hide b
        clear a b
        go_enter Tryd.func6, Tryd.ntmps6
        go_wp2_with (go_at_call 12; go_in)
        refine (opens_yes _ _ (unhide HO) hs).mono ?_
        rintro e w1 ⟨rfl, rfl⟩
        go_wp2_with fail
        refine (zzblock_any _ _ _ _ _ _ _ _ m _ hs h2 (unhide HM)).mono ?_
        rintro e w1 ⟨rfl, hb⟩
        have HB := hide hb
        clear hb
        go_wp2_with fail
        refine (model_any _ _ _ hs h2 (unhide A) (unhide B)).mono ?_
        rintro e w2 ⟨rfl, rfl⟩
        go_wp2_with fail
        go_ret
        exact ⟨by simp, unhide HB⟩
      · have HO := hide ho
        clear ho
        go_enter Tryd.func6, Tryd.ntmps6
        go_wp2_with (go_at_call 12; go_in)
        refine (opens_no _ _ (unhide HO) hs).mono ?_
        rintro e w1 ⟨rfl, rfl⟩
        go_wp2_with fail
        go_ret
        exact ⟨rfl, Below.refl _ _⟩
    · by_cases hs1 : s.size ≤ 1048576
      · by_cases hs2 : esc.size + s.size ≤ 1048576
        · go_enter Tryd.func6, Tryd.ntmps6
          go_wp2_with (go_at_call 12; go_in)
          go_ret
          exact ⟨rfl, Below.refl _ _⟩
        · go_enter Tryd.func6, Tryd.ntmps6
          go_wp2_with (go_at_call 12; go_in)
          go_ret
          exact ⟨rfl, Below.refl _ _⟩
      · go_enter Tryd.func6, Tryd.ntmps6
        go_wp2_with (go_at_call 12; go_in)
        go_ret
        exact ⟨rfl, Below.refl _ _⟩
  · by_cases he2 : esc.size ≤ 1048576
    · by_cases hs1 : s.size ≤ 1048576
      · by_cases hs2 : esc.size + s.size ≤ 1048576
        · go_enter Tryd.func6, Tryd.ntmps6
          go_wp2_with (go_at_call 12; go_in)
          go_ret
          exact ⟨rfl, Below.refl _ _⟩
        · go_enter Tryd.func6, Tryd.ntmps6
          go_wp2_with (go_at_call 12; go_in)
          go_ret
          exact ⟨rfl, Below.refl _ _⟩
      · go_enter Tryd.func6, Tryd.ntmps6
        go_wp2_with (go_at_call 12; go_in)
        go_ret
        exact ⟨rfl, Below.refl _ _⟩
    · go_enter Tryd.func6, Tryd.ntmps6
      go_wp2_with (go_at_call 12; go_in)
      go_ret
      exact ⟨rfl, Below.refl _ _⟩
end Go.Proofs.Qxb6606184aDoor
