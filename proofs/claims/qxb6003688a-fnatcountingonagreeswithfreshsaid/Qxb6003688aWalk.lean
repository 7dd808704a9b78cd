import Derived.Test.Qxb6003688aRune
namespace Go.Proofs.Qxb6003688a
open Go.RowKit Plain

theorem u8_yes {c d : UInt8} {n : Int} (h : c = d) (hn : (d.toNat : Int) = n) : ((c.toNat : Int) == n) = true ∧ ((c.toNat : Int) != n) = false := by
  subst h; subst hn; simp
theorem u8_no {c d : UInt8} {n : Int} (h : c ≠ d) (hn : (d.toNat : Int) = n) : ((c.toNat : Int) == n) = false ∧ ((c.toNat : Int) != n) = true := by
  have : c.toNat ≠ d.toNat := fun e => h (UInt8.toNat_inj.1 e)
  subst hn; simp; omega

/-- the ways of the walk's round -/
theorem way (s : ByteArray) (cr : Bool) (i : Nat) (hi : i < s.size) :
    (s[i] = 10 ∧ ends s cr i = true) ∨
    (s[i] = 13 ∧ cr = true ∧ ∃ h : i + 1 < s.size, s[i + 1] = 10 ∧ ends s cr i = false) ∨
    (s[i] = 13 ∧ cr = true ∧ ends s cr i = true ∧ ∃ h : i + 1 < s.size, s[i + 1] ≠ 10) ∨
    (s[i] = 13 ∧ cr = true ∧ ends s cr i = true ∧ s.size ≤ i + 1) ∨
    (s[i] ≠ 10 ∧ ends s cr i = false ∧ (cr = false ∨ s[i] ≠ 13)) := by
  unfold ends
  rw [at_of hi]
  by_cases h10 : s[i] = 10
  · exact Or.inl ⟨h10, by simp [h10]⟩
  · by_cases h13 : s[i] = 13
    · cases cr
      · exact Or.inr (Or.inr (Or.inr (Or.inr ⟨h10, by simp [h10], Or.inl rfl⟩)))
      · by_cases h1 : i + 1 < s.size
        · rw [at_of h1]
          by_cases hn : s[i + 1] = 10
          · exact Or.inr (Or.inl ⟨h13, rfl, h1, hn, by simp [h10, hn]⟩)
          · exact Or.inr (Or.inr (Or.inl ⟨h13, rfl, by simp [h13, hn], h1, hn⟩))
        · rw [at_past (k := i + 1) (by omega)]
          exact Or.inr (Or.inr (Or.inr (Or.inl ⟨h13, rfl, by simp [h13], by omega⟩)))
    · exact Or.inr (Or.inr (Or.inr (Or.inr ⟨h10, by simp [h10, h13], Or.inr h13⟩)))

theorem low_next {s : ByteArray} {i : Nat} (hi : i < s.size) (h : s[i] = 10 ∨ s[i] = 13) : sk s (i + 1) = 0 := by
  have ha : (s[i]'hi).toNat < 128 := by rcases h with h | h <;> rw [h] <;> decide
  have h0 := sk_ascii hi ha
  have hn := sk_next h0 hi
  rw [wd_ascii hi ha] at hn
  exact hn

theorem runelen_is (B : Nat) (s : ByteArray) (i : Nat) (r : Int) (w : World) (hs : s.size ≤ 65536) (hi : i < s.size) (hc : Hid (Src w B s)) (h : Hid ((wd s i : Int) = r)) :
    Calls Try.prog 21 #[.slice (some ⟨B, 0, none⟩) s.size s.size, .int .i64 i] w fun e w' => e = .returned (.int .i64 r) ∧ w' = w := by
  rw [← unhide h]; exact runelen_any B s i w hs hi (unhide hc)

/-- what the walk hands back: if it ends on off itself: the line and the column there -/
def WalkEnd (s : ByteArray) (cr : Bool) (off : Nat) (e : Ending) : Prop := ∃ (l c : Int) (b : Bool), e = .returned (.tuple #[.int .i64 l, .int .i64 c, .bool b]) ∧ (b = true → l = 1 + nL s cr off ∧ c = 1 + nC s cr off ∧ sk s off = 0)

theorem walkEnd_mk {s : ByteArray} {cr : Bool} {off i L C : Nat} (h0 : sk s i = 0) (hL : nL s cr i = L) (hC : nC s cr i = C) : WalkEnd s cr off (.returned (.tuple #[.int .i64 (1 + (L : Int)), .int .i64 (1 + (C : Int)), .bool ((i : Int) == (off : Int))])) := by
  refine ⟨_, _, _, rfl, fun hb => ?_⟩
  have e : i = off := by have := beq_iff_eq.1 hb; omega
  subst e; subst hL; subst hC
  exact ⟨rfl, rfl, h0⟩

set_option maxRecDepth 100000 in
set_option maxHeartbeats 1600000 in
theorem walk_some (B : Nat) (s : ByteArray) (cr : Bool) (off : Nat) (w : World) (hs : s.size ≤ 65536) (ho : off ≤ s.size) (hc : Src w B s) :
    Calls Try.prog 9 #[.slice (some ⟨B, 0, none⟩) s.size s.size, .bool cr, .int .i64 off] w fun e w' => WalkEnd s cr off e ∧ w' = w := by
  have HC := hide hc
  clear hc
  go_enter Try.func9, Try.ntmps9
  go_wp2
  go_loop [9, 10, 11, 12] (fun l c t _ => ∃ i : Nat, i ≤ s.size ∧ sk s i = 0 ∧ l = .int .i64 (1 + nL s cr i) ∧ c = .int .i64 (1 + nC s cr i) ∧ t = .int .i64 i) (fun _ _ t _ => off - (intOf t).toNat)
  case atStart => exact ⟨0, Nat.zero_le _, rfl, rfl, rfl, rfl⟩
  case round =>
    obtain ⟨i, hi, hsk, rfl, rfl, rfl⟩ := hrel
    have HS := hide hsk
    clear hsk
    have hl := nL_le s cr i
    have hcc := nC_le s cr i
    generalize hgl : nL s cr i = L at *
    generalize hgc : nC s cr i = C at *
    have HL := hide hgl
    have HCc := hide hgc
    clear hgl hgc
    by_cases hlt : i < off
    · have hi' : i < s.size := by omega
      have hcell := unhide HC i hi'
      rcases way s cr i hi' with ⟨h1, h2⟩ | ⟨h1, h2, h3, h4, h5⟩ | ⟨h1, h2, h5, h3, h4⟩ | ⟨h1, h2, h5, h3⟩ | ⟨h1, h5, h2⟩
      · have q1 := (u8_yes (n := 10) h1 rfl).1
        have HN := hide (stepEnd h2)
        have HK := hide (low_next hi' (Or.inl h1))
        clear h1 h2
        go_wp2_with fail
        go_round
        case rel => exact ⟨i + 1, by omega, unhide HK, by rw [(unhide HN).1, unhide HL]; go_num, by rw [(unhide HN).2]; go_num, by go_num⟩
        case measure => simp [intOf]; omega
      · subst h2
        have q1 := (u8_no (c := s[i]) (d := 10) (n := 10) (by rw [h1]; decide) rfl).1
        have q2 := (u8_yes (n := 13) h1 rfl).1
        have q3 := (u8_yes (n := 10) h4 rfl).1
        have hcell2 := unhide HC (i + 1) h3
        have hw : wd s i = 1 := wd_ascii hi' (by rw [h1]; decide)
        have hst := step_char (unhide HS) hi' h5
        rw [hw] at hst
        have HN := hide hst
        have HK := hide (low_next hi' (Or.inr h1))
        clear h1 h4 h5 hw hst
        go_wp2_with fail
        go_round
        case rel => exact ⟨i + 1, by omega, unhide HK, by rw [(unhide HN).1, unhide HL], by rw [(unhide HN).2, unhide HCc]; go_num, by go_num⟩
        case measure => simp [intOf]; omega
      · subst h2
        have q1 := (u8_no (c := s[i]) (d := 10) (n := 10) (by rw [h1]; decide) rfl).1
        have q2 := (u8_yes (n := 13) h1 rfl).1
        have q3 := (u8_no (n := 10) h4 rfl).1
        have hcell2 := unhide HC (i + 1) h3
        have HN := hide (stepEnd h5)
        have HK := hide (low_next hi' (Or.inr h1))
        clear h1 h4 h5
        go_wp2_with fail
        go_round
        case rel => exact ⟨i + 1, by omega, unhide HK, by rw [(unhide HN).1, unhide HL]; go_num, by rw [(unhide HN).2]; go_num, by go_num⟩
        case measure => simp [intOf]; omega
      · subst h2
        have q1 := (u8_no (c := s[i]) (d := 10) (n := 10) (by rw [h1]; decide) rfl).1
        have q2 := (u8_yes (n := 13) h1 rfl).1
        have HN := hide (stepEnd h5)
        have HK := hide (low_next hi' (Or.inr h1))
        clear h1 h5
        go_wp2_with fail
        go_round
        case rel => exact ⟨i + 1, by omega, unhide HK, by rw [(unhide HN).1, unhide HL]; go_num, by rw [(unhide HN).2]; go_num, by go_num⟩
        case measure => simp [intOf]; omega
      · have q1 := (u8_no (n := 10) h1 rfl).1
        have hst := step_char (unhide HS) hi' h5
        have hk := sk_next (unhide HS) hi'
        have hp := decode_pass s i hi'
        have hp1 := hp.1
        have hp2 := hp.2.1
        generalize hwd : wd s i = r at *
        have HW := hide (show (wd s i : Int) = (r : Int) by rw [hwd])
        have HN := hide hst
        have HK := hide hk
        clear h1 h5 hst hk hp hwd
        have hw2 : cr = false ∨ (cr = true ∧ ((s[i].toNat : Int) == 13) = false) := by
          rcases h2 with h2 | h2
          · exact Or.inl h2
          · cases cr
            · exact Or.inl rfl
            · exact Or.inr ⟨rfl, (u8_no h2 rfl).1⟩
        clear h2
        rcases hw2 with e | ⟨e, q2⟩
        all_goals
          subst e
          go_wp2_with (go_at_call 21; refine (runelen_is B s i _ _ hs hi' HC HW).mono ?_; rintro e w1 ⟨rfl, rfl⟩)
          go_round
          case rel => exact ⟨i + r, by omega, unhide HK, by rw [(unhide HN).1, unhide HL], by rw [(unhide HN).2, unhide HCc]; go_num, by go_num⟩
          case measure => simp [intOf]; omega
    · go_wp2_with fail
      go_ret3
      exact ⟨walkEnd_mk (unhide HS) (unhide HL) (unhide HCc), rfl⟩

set_option maxHeartbeats 400000 in
theorem walk_zero (a : Option Addr) (n c : Nat) (s : ByteArray) (cr : Bool) (w : World) :
    Calls Try.prog 9 #[.slice a n c, .bool cr, .int .i64 0] w fun e w' => WalkEnd s cr 0 e ∧ w' = w := by
  go_enter Try.func9, Try.ntmps9
  go_wp2
  refine wp_loop_rounds 1 ?_
  rw [rounds_succ]
  go_wp2_with fail
  go_ret3
  exact ⟨walkEnd_mk (i := 0) (L := 0) (C := 0) rfl rfl rfl, rfl⟩
end Go.Proofs.Qxb6003688a
