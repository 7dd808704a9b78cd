import Derived.Test.Qxb6606184aDoorModel
namespace Go.Proofs.Qxb6606184aDoor
open Go.RowKit Plain

theorem depth_at (s : ByteArray) (st : Nat) (i : Int) (lim : Nat) (L : Int) (w : World) (hi : i = (st : Int)) (hL : L = (lim : Int)) (hs : s.size ≤ 524288) (hst : st ≤ s.size) (hlm : lim ≤ 2) :
    Calls Tryd.prog 20 #[.string s, .int .i64 i, .int .i64 L] w fun e w' => e = .returned (.int .i64 (scan s.data.toList lim 1 st)) ∧ w' = w := by
  subst hi; subst hL; exact depth_any s st lim w hs hst hlm

theorem body_room {s : ByteArray} {n : Nat} (h2 : 2 ≤ s.size) (h : body s.data.toList = n) : n ≤ s.size := by
  unfold body at h
  split at h
  · omega
  · split at h
    · omega
    · have ho : opn s.data.toList ≤ s.data.toList.length := by
        rw [len_of]; unfold opn
        split
        · rename_i hh
          obtain ⟨hlt, _⟩ := List.getElem?_eq_some_iff.1 hh.2.2
          rw [len_of] at hlt; omega
        · split
          · rename_i hh
            obtain ⟨hlt, _⟩ := List.getElem?_eq_some_iff.1 hh.2.2.2
            rw [len_of] at hlt; omega
          · omega
      have := nd_room s.data.toList (opn s.data.toList) ho
      rw [len_of] at this
      omega

theorem body_or (l : List UInt8) : body l = -1 ∨ ∃ n : Nat, body l = n := by
  unfold body
  split
  · exact Or.inl rfl
  · split
    · exact Or.inl rfl
    · exact Or.inr ⟨_, rfl⟩

theorem block_ver {l : List UInt8} {nest : Bool} {n : Nat} (h : body l = n) : block true nest l = scan l 2 1 n := by
  unfold block; rw [h]; simp
theorem block_nover {l : List UInt8} {runs nest : Bool} (h : runs = false ∨ body l = -1) : block runs nest l = if nest then scan l 0 1 2 else scan l 1 1 2 := by
  unfold block
  rw [if_neg]
  rintro ⟨h1, h2⟩
  rcases h with h | h
  · rw [h1] at h; simp at h
  · omega

theorem vbody_is (s : ByteArray) (r : Int) (w : World) (hs : s.size ≤ 524288) (h2 : 2 ≤ s.size) (a : Hid (s[0] = 47)) (b : Hid (s[1] = 42)) (h : Hid (body s.data.toList = r)) :
    Calls Tryd.prog 19 #[.string s] w fun e w' => e = .returned (.int .i64 r) ∧ w' = w := by
  rw [← unhide h]; exact vbody_any s w hs h2 (unhide a) (unhide b)

set_option maxHeartbeats 800000 in
theorem model_any (lex : Int) (s : ByteArray) (w : World) (hs : s.size ≤ 524288) (h2 : 2 ≤ s.size) (a : s[0] = 47) (b : s[1] = 42) :
    Calls Tryd.prog 15 #[.int .u16 lex, .string s] w fun e w' => e = .returned (.int .i64 (block (bits BinOp.and IntKind.u16 lex 512 != 0) (bits BinOp.and IntKind.u16 lex 256 != 0) s.data.toList)) ∧ w' = w := by
  have A := hide a
  have B := hide b
  clear a b
  cases hr : (bits BinOp.and IntKind.u16 lex 512 != 0)
  · have H := hide (block_nover (l := s.data.toList) (runs := false) (nest := (bits BinOp.and IntKind.u16 lex 256 != 0)) (Or.inl rfl))
    cases hn : (bits BinOp.and IntKind.u16 lex 256 != 0)
    · rw [hn] at H
      go_enter Tryd.func15, Tryd.ntmps15
      go_wp2_with (go_at_call 20; refine (depth_at _ 2 _ 1 _ _ rfl rfl hs (by omega) (by omega)).mono ?_; rintro e w' ⟨rfl, rfl⟩)
      go_ret
      exact ⟨ret_int (by rw [unhide H]; rfl), rfl⟩
    · rw [hn] at H
      go_enter Tryd.func15, Tryd.ntmps15
      go_wp2_with (go_at_call 20; refine (depth_at _ 2 _ 0 _ _ rfl rfl hs (by omega) (by omega)).mono ?_; rintro e w' ⟨rfl, rfl⟩)
      go_ret
      exact ⟨ret_int (by rw [unhide H]; rfl), rfl⟩
  · rcases body_or s.data.toList with hb | ⟨n, hb⟩
    · have H := hide (block_nover (l := s.data.toList) (runs := true) (nest := (bits BinOp.and IntKind.u16 lex 256 != 0)) (Or.inr hb))
      have HB := hide hb
      clear hb
      cases hn : (bits BinOp.and IntKind.u16 lex 256 != 0)
      · rw [hn] at H
        go_enter Tryd.func15, Tryd.ntmps15
        go_wp2_with (first | (go_at_call 19; refine (vbody_is _ _ _ hs h2 A B HB).mono ?_; rintro e w' ⟨rfl, rfl⟩) | (go_at_call 20; refine (depth_at _ 2 _ 1 _ _ rfl rfl hs (by omega) (by omega)).mono ?_; rintro e w' ⟨rfl, rfl⟩))
        go_ret
        exact ⟨ret_int (by rw [unhide H]; rfl), rfl⟩
      · rw [hn] at H
        go_enter Tryd.func15, Tryd.ntmps15
        go_wp2_with (first | (go_at_call 19; refine (vbody_is _ _ _ hs h2 A B HB).mono ?_; rintro e w' ⟨rfl, rfl⟩) | (go_at_call 20; refine (depth_at _ 2 _ 0 _ _ rfl rfl hs (by omega) (by omega)).mono ?_; rintro e w' ⟨rfl, rfl⟩))
        go_ret
        exact ⟨ret_int (by rw [unhide H]; rfl), rfl⟩
    · have H := hide (block_ver (nest := (bits BinOp.and IntKind.u16 lex 256 != 0)) hb)
      have hroom := body_room h2 hb
      have HB := hide hb
      clear hb
      go_enter Tryd.func15, Tryd.ntmps15
      go_wp2_with (first | (go_at_call 19; refine (vbody_is _ _ _ hs h2 A B HB).mono ?_; rintro e w' ⟨rfl, rfl⟩) | (go_at_call 20; refine (depth_at _ n _ 2 _ _ rfl rfl hs hroom (by omega)).mono ?_; rintro e w' ⟨rfl, rfl⟩))
      go_ret
      exact ⟨ret_int (unhide H).symm, rfl⟩

set_option maxHeartbeats 400000 in
theorem has_any (x r : Int) (w : World) :
    Calls Tryd.prog 22 #[.int .u16 x, .int .u16 r] w fun e w' => e = .returned (.bool (bits BinOp.and IntKind.u16 x r != 0)) ∧ w' = w := by
  go_enter Tryd.func22, Tryd.ntmps22
  go_wp2
  go_ret
  exact ⟨rfl, rfl⟩
end Go.Proofs.Qxb6606184aDoor
