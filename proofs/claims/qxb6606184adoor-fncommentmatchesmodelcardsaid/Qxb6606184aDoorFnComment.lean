import Derived.Test.Qxb6606184aDoorMline
import Derived.Test.Qxb6606184aDoorCline
namespace Go.Proofs.Qxb6606184aDoor
open Go.RowKit Plain

set_option maxHeartbeats 400000 in
theorem cc_block (k lex : Int) (esc : ByteArray) (cs : Int) (op : Bool) (bel : Int) (my : Bool) (s : ByteArray) (m : Int) (w : World) (hs : s.size ≤ 524288) (ho : Opens s)
    (hm : w.cell? ⟨0, 0, none⟩ = some (.int .i64 m)) :
    Calls Tryd.prog 16 #[.agg #[.int .i32 k, .int .u16 lex, .string esc, .int .u8 cs, .bool op, .int .i64 bel, .bool my], .string s] w fun e w' =>
      e = .returned (.int .i64 (block (bits BinOp.and IntKind.u16 lex 512 != 0) (bits BinOp.and IntKind.u16 lex 256 != 0) s.data.toList)) ∧ Below w.heap.size w w' := by
  have P0 := hide (show Lib.hasPrefix s.data.toList (ByteArray.data { data := #[47, 42] }).toList = true from (opens_pre s).2 ho)
  have h2 : 2 ≤ s.size := ho.1
  have h0 : 0 < w.heap.size := lt_of_cell hm
  have HM := hide (fun o => (World.cell?_alloc_past (w := w) o 0 0 h0).trans hm)
  clear hm ho
  go_enter Tryd.func16, Tryd.ntmps16
  go_wp2_with fail
  refine (hp_is _ _ _ _ P0).mono ?_
  rintro e w1 ⟨rfl, rfl⟩
  go_wp2_with fail
  refine (block_any _ _ _ _ _ _ _ _ m _ hs h2 (unhide HM _)).mono ?_
  rintro e w1 ⟨rfl, hb⟩
  have HB := hide (((Below.refl w.heap.size w).alloc (Nat.le_refl _) _).trans (hb.mono (by simp)))
  clear hb
  go_wp2_with fail
  go_ret
  exact ⟨rfl, unhide HB⟩

set_option maxHeartbeats 400000 in
theorem mc_block (lex : Int) (s : ByteArray) (w : World) (hs : s.size ≤ 524288) (ho : Opens s) :
    Calls Tryd.prog 9 #[.int .u16 lex, .string s] w fun e w' =>
      e = .returned (.int .i64 (block (bits BinOp.and IntKind.u16 lex 512 != 0) (bits BinOp.and IntKind.u16 lex 256 != 0) s.data.toList)) ∧ w' = w := by
  have HO := hide ho
  obtain ⟨h2, a, b⟩ := ho
  have A := hide a
  have B := hide b
  clear a b
  go_enter Tryd.func9, Tryd.ntmps9
  go_wp2_with fail
  refine (opens_yes _ _ (unhide HO) hs).mono ?_
  rintro e w1 ⟨rfl, rfl⟩
  go_wp2_with fail
  refine (model_any _ _ _ hs h2 (unhide A) (unhide B)).mono ?_
  rintro e w2 ⟨rfl, rfl⟩
  go_wp2_with fail
  go_ret
  exact ⟨rfl, rfl⟩

/-- both functions come to one number -/
theorem both (k lex : Int) (esc : ByteArray) (cs : Int) (op : Bool) (bel : Int) (my : Bool) (s : ByteArray) (m : Int) (hs : s.size ≤ 524288) :
    ∃ R : Int, (∀ w : World, w.cell? ⟨0, 0, none⟩ = some (.int .i64 m) →
        Calls Tryd.prog 16 #[.agg #[.int .i32 k, .int .u16 lex, .string esc, .int .u8 cs, .bool op, .int .i64 bel, .bool my], .string s] w fun e w' => e = .returned (.int .i64 R) ∧ Below w.heap.size w w') ∧
      (∀ w : World, Calls Tryd.prog 9 #[.int .u16 lex, .string s] w fun e w' => e = .returned (.int .i64 R) ∧ w' = w) := by
  by_cases ho : Opens s
  · exact ⟨_, fun w hm => cc_block k lex esc cs op bel my s m w hs ho hm, fun w => mc_block lex s w hs ho⟩
  · obtain ⟨cr, hcr⟩ : ∃ cr, (bits BinOp.and IntKind.u16 lex 128 != 0) = cr := ⟨_, rfl⟩
    by_cases hd : Dash s
    · cases hD : (bits BinOp.and IntKind.u16 lex 64 != 0)
      · exact ⟨_, fun w _ => cc_dash_nod k lex esc cs op bel my s cr w hs ho hcr hd hD, fun w => mc_dash_nod lex s cr w hs ho hcr hd hD⟩
      · by_cases h3 : 2 < s.size
        · cases hi : ink s[2]
          · exact ⟨_, fun w _ => cc_dash_blank k lex esc cs op bel my s cr w hs ho hcr hd hD h3 hi, fun w => mc_dash_blank lex s cr w hs ho hcr hd hD h3 hi⟩
          · exact ⟨_, fun w _ => cc_dash_ink k lex esc cs op bel my s cr w hs ho hcr hd hD h3 hi, fun w => mc_dash_ink lex s cr w hs ho hcr hd hD h3 hi⟩
        · have h3' : s.size = 2 := by have := hd.1; omega
          exact ⟨_, fun w _ => cc_dash_two k lex esc cs op bel my s cr w hs ho hcr hd hD h3', fun w => mc_dash_two lex s cr w hs ho hcr hd hD h3'⟩
    · cases hH : (bits BinOp.and IntKind.u16 lex 32 != 0)
      · exact ⟨_, fun w _ => cc_noh k lex esc cs op bel my s cr w hs ho hcr hd hH, fun w => mc_noh lex s cr w hs ho hcr hd hH⟩
      · by_cases h1 : 1 ≤ s.size
        · by_cases c : s[0] = 35
          · exact ⟨_, fun w _ => cc_hash k lex esc cs op bel my s cr w hs ho hcr hd hH ⟨h1, c⟩, fun w => mc_hash lex s cr w hs ho hcr hd hH h1 c⟩
          · exact ⟨_, fun w _ => cc_nohash k lex esc cs op bel my s cr w hs ho hcr hd hH (fun h => c h.2), fun w => mc_nohash lex s cr w hs ho hcr hd hH h1 c⟩
        · exact ⟨_, fun w _ => cc_nohash k lex esc cs op bel my s cr w hs ho hcr hd hH (fun h => h1 h.1), fun w => mc_empty lex s cr w hs ho hcr hd hH h1⟩

theorem both_c {k lex : Int} {esc : ByteArray} {cs : Int} {op : Bool} {bel : Int} {my : Bool} {s : ByteArray} {m R : Int}
    (h : Hid (∀ w : World, w.cell? ⟨0, 0, none⟩ = some (.int .i64 m) →
        Calls Tryd.prog 16 #[.agg #[.int .i32 k, .int .u16 lex, .string esc, .int .u8 cs, .bool op, .int .i64 bel, .bool my], .string s] w fun e w' => e = .returned (.int .i64 R) ∧ Below w.heap.size w w'))
    (w : World) (hm : w.cell? ⟨0, 0, none⟩ = some (.int .i64 m)) :
    Calls Tryd.prog 16 #[.agg #[.int .i32 k, .int .u16 lex, .string esc, .int .u8 cs, .bool op, .int .i64 bel, .bool my], .string s] w fun e w' => e = .returned (.int .i64 R) ∧ Below w.heap.size w w' :=
  unhide h w hm

set_option maxHeartbeats 400000 in
theorem zzcomment_is (k lex : Int) (esc : ByteArray) (cs : Int) (op : Bool) (bel : Int) (my : Bool) (s : ByteArray) (m R : Int) (w : World)
    (h : Hid (∀ w : World, w.cell? ⟨0, 0, none⟩ = some (.int .i64 m) →
        Calls Tryd.prog 16 #[.agg #[.int .i32 k, .int .u16 lex, .string esc, .int .u8 cs, .bool op, .int .i64 bel, .bool my], .string s] w fun e w' => e = .returned (.int .i64 R) ∧ Below w.heap.size w w'))
    (hm : w.cell? ⟨0, 0, none⟩ = some (.int .i64 m)) :
    Calls Tryd.prog 8 #[.int .i32 k, .int .u16 lex, .string esc, .int .u8 cs, .bool op, .int .i64 bel, .bool my, .string s] w fun e w' => e = .returned (.int .i64 R) ∧ Below w.heap.size w w' := by
  have HM := hide hm
  clear hm
  go_enter Tryd.func8, Tryd.ntmps8
  go_wp2_with fail
  refine (both_c h _ (unhide HM)).mono ?_
  rintro e w1 ⟨rfl, hb⟩
  have HB := hide hb
  clear hb
  go_wp2_with fail
  go_ret
  exact ⟨rfl, unhide HB⟩

set_option maxHeartbeats 800000 in
theorem fncomment_walk (k lex : Int) (esc : ByteArray) (cs : Int) (op : Bool) (bel : Int) (my : Bool) (s : ByteArray) (m : Int) (w : World) (he : esc.size ≤ maxLen) (hs0 : s.size ≤ maxLen)
    (hm : w.cell? ⟨0, 0, none⟩ = some (.int .i64 m)) :
    Calls Tryd.prog 3 #[.int .i32 k, .int .u16 lex, .string esc, .int .u8 cs, .bool op, .int .i64 bel, .bool my, .string s] w fun e w' => e = .returned (.bool true) ∧ Below w.heap.size w w' := by
  have HM := hide hm
  clear hm
  unfold maxLen at he hs0
  by_cases he1 : esc.size ≤ 524288
  · by_cases hs : s.size ≤ 524288
    · obtain ⟨R, hC, hM⟩ := both k lex esc cs op bel my s m hs
      have HC := hide hC
      have HMd := hide hM
      clear hC hM
      go_enter Tryd.func3, Tryd.ntmps3
      go_wp2_with (go_at_call 7; go_in)
      refine (zzcomment_is _ _ _ _ _ _ _ _ m R _ HC (unhide HM)).mono ?_
      rintro e w1 ⟨rfl, hb⟩
      have HB := hide hb
      clear hb
      go_wp2_with fail
      refine (unhide HMd _).mono ?_
      rintro e w2 ⟨rfl, rfl⟩
      go_wp2_with fail
      go_ret
      exact ⟨by simp, unhide HB⟩
    · by_cases hs1 : s.size ≤ 1048576
      · by_cases hs2 : esc.size + s.size ≤ 1048576
        · go_enter Tryd.func3, Tryd.ntmps3
          go_wp2_with (go_at_call 7; go_in)
          go_ret
          exact ⟨rfl, Below.refl _ _⟩
        · go_enter Tryd.func3, Tryd.ntmps3
          go_wp2_with (go_at_call 7; go_in)
          go_ret
          exact ⟨rfl, Below.refl _ _⟩
      · go_enter Tryd.func3, Tryd.ntmps3
        go_wp2_with (go_at_call 7; go_in)
        go_ret
        exact ⟨rfl, Below.refl _ _⟩
  · by_cases he2 : esc.size ≤ 1048576
    · by_cases hs1 : s.size ≤ 1048576
      · by_cases hs2 : esc.size + s.size ≤ 1048576
        · go_enter Tryd.func3, Tryd.ntmps3
          go_wp2_with (go_at_call 7; go_in)
          go_ret
          exact ⟨rfl, Below.refl _ _⟩
        · go_enter Tryd.func3, Tryd.ntmps3
          go_wp2_with (go_at_call 7; go_in)
          go_ret
          exact ⟨rfl, Below.refl _ _⟩
      · go_enter Tryd.func3, Tryd.ntmps3
        go_wp2_with (go_at_call 7; go_in)
        go_ret
        exact ⟨rfl, Below.refl _ _⟩
    · go_enter Tryd.func3, Tryd.ntmps3
      go_wp2_with (go_at_call 7; go_in)
      go_ret
      exact ⟨rfl, Below.refl _ _⟩
end Go.Proofs.Qxb6606184aDoor
