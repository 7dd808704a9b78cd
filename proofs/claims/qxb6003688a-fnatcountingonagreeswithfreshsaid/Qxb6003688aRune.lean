import Derived.Test.Qxb6003688aClone
import Derived.Test.Qxb6003688aWidth
namespace Go.Proofs.Qxb6003688a
open Go.RowKit Plain

/-- block B holds the bytes of s -/
def Src (w : World) (B : Nat) (s : ByteArray) : Prop := ∀ j (h : j < s.size), w.cell? ⟨B, j, none⟩ = some (.int .u8 ((s[j]'h).toNat : Int))

set_option maxHeartbeats 400000 in
theorem cont_yes (B : Nat) (s : ByteArray) (j lo hi : Int) (jn lon hin : Nat) (w : World) (_hs : s.size ≤ 65536) (hc : Hid (Src w B s)) (hj : j = jn) (hlo : lo = lon) (hhi : hi = hin) (h : Hid (inB s jn lon hin)) :
    Calls Try.prog 28 #[.slice (some ⟨B, 0, none⟩) s.size s.size, .int .i64 j, .int .u8 lo, .int .u8 hi] w fun e w' => e = .returned (.bool true) ∧ w' = w := by
  subst hj; subst hlo; subst hhi
  obtain ⟨h1, h2, h3⟩ := unhide h
  have hcell := unhide hc jn h1
  have g2 : (lon : Int) ≤ ((s[jn]'h1).toNat : Int) := by omega
  have g3 : ((s[jn]'h1).toNat : Int) ≤ (hin : Int) := by omega
  clear h2 h3
  go_enter Try.func28, Try.ntmps28
  go_wp2
  go_ret
  exact ⟨rfl, rfl⟩

set_option maxHeartbeats 400000 in
theorem cont_no (B : Nat) (s : ByteArray) (j lo hi : Int) (jn lon hin : Nat) (w : World) (_hs : s.size ≤ 65536) (hc : Hid (Src w B s)) (hj : j = jn) (hlo : lo = lon) (hhi : hi = hin) (h : Hid (¬ inB s jn lon hin)) :
    Calls Try.prog 28 #[.slice (some ⟨B, 0, none⟩) s.size s.size, .int .i64 j, .int .u8 lo, .int .u8 hi] w fun e w' => e = .returned (.bool false) ∧ w' = w := by
  subst hj; subst hlo; subst hhi
  by_cases h1 : jn < s.size
  · have hcell := unhide hc jn h1
    by_cases h2 : lon ≤ (s[jn]'h1).toNat
    · have h3 : ¬ (s[jn]'h1).toNat ≤ hin := fun h3 => unhide h ⟨h1, h2, h3⟩
      have g2 : (lon : Int) ≤ ((s[jn]'h1).toNat : Int) := by omega
      have g3 : ¬ ((s[jn]'h1).toNat : Int) ≤ (hin : Int) := by omega
      clear h2 h3
      go_enter Try.func28, Try.ntmps28
      go_wp2
      go_ret
      exact ⟨rfl, rfl⟩
    · have g2 : ¬ (lon : Int) ≤ ((s[jn]'h1).toNat : Int) := by omega
      clear h2
      go_enter Try.func28, Try.ntmps28
      go_wp2
      go_ret
      exact ⟨rfl, rfl⟩
  · go_enter Try.func28, Try.ntmps28
    go_wp2
    go_ret
    exact ⟨rfl, rfl⟩
set_option maxRecDepth 100000 in
set_option maxHeartbeats 800000 in
theorem rl_low (B : Nat) (s : ByteArray) (i : Nat) (w : World) (_hs : s.size ≤ 65536) (hi : i < s.size) (hc : Src w B s) (h1 : (s[i]'hi).toNat < 128) :
    Calls Try.prog 21 #[.slice (some ⟨B, 0, none⟩) s.size s.size, .int .i64 i] w fun e w' => e = .returned (.int .i64 (wd s i)) ∧ w' = w := by
  have hcell := hc i hi
  have HC := hide hc
  clear hc
  have H := hide (w_low hi h1)
  have g1 : ((s[i]'hi).toNat : Int) < 128 := by omega
  clear h1
  go_enter Try.func21, Try.ntmps21
  go_wp2_with fail
  go_ret
  exact ⟨ret_int (by rw [unhide H]; rfl), rfl⟩

set_option maxRecDepth 100000 in
set_option maxHeartbeats 800000 in
theorem rl_mid (B : Nat) (s : ByteArray) (i : Nat) (w : World) (_hs : s.size ≤ 65536) (hi : i < s.size) (hc : Src w B s) (h1 : 128 ≤ (s[i]'hi).toNat) (h2 : (s[i]'hi).toNat < 194) :
    Calls Try.prog 21 #[.slice (some ⟨B, 0, none⟩) s.size s.size, .int .i64 i] w fun e w' => e = .returned (.int .i64 (wd s i)) ∧ w' = w := by
  have hcell := hc i hi
  have HC := hide hc
  clear hc
  have H := hide (w_other hi (Or.inl ⟨h1, h2⟩))
  have g1 : (128 : Int) ≤ ((s[i]'hi).toNat : Int) := by omega
  have g2 : ((s[i]'hi).toNat : Int) < 194 := by omega
  clear h1 h2
  go_enter Try.func21, Try.ntmps21
  go_wp2_with fail
  go_ret
  exact ⟨ret_int (by rw [unhide H]; rfl), rfl⟩

set_option maxRecDepth 100000 in
set_option maxHeartbeats 800000 in
theorem rl_top (B : Nat) (s : ByteArray) (i : Nat) (w : World) (_hs : s.size ≤ 65536) (hi : i < s.size) (hc : Src w B s) (h1 : 244 < (s[i]'hi).toNat) :
    Calls Try.prog 21 #[.slice (some ⟨B, 0, none⟩) s.size s.size, .int .i64 i] w fun e w' => e = .returned (.int .i64 (wd s i)) ∧ w' = w := by
  have hcell := hc i hi
  have HC := hide hc
  clear hc
  have H := hide (w_other hi (Or.inr h1))
  have g1 : (244 : Int) < ((s[i]'hi).toNat : Int) := by omega
  clear h1
  go_enter Try.func21, Try.ntmps21
  go_wp2_with fail
  go_ret
  exact ⟨ret_int (by rw [unhide H]; rfl), rfl⟩

set_option maxRecDepth 100000 in
set_option maxHeartbeats 800000 in
theorem rl_two (B : Nat) (s : ByteArray) (i : Nat) (w : World) (hs : s.size ≤ 65536) (hi : i < s.size) (hc : Src w B s) (h1 : 194 ≤ (s[i]'hi).toNat) (h2 : (s[i]'hi).toNat ≤ 223) :
    Calls Try.prog 21 #[.slice (some ⟨B, 0, none⟩) s.size s.size, .int .i64 i] w fun e w' => e = .returned (.int .i64 (wd s i)) ∧ w' = w := by
  have hcell := hc i hi
  have HC := hide hc
  clear hc
  have g1 : (194 : Int) ≤ ((s[i]'hi).toNat : Int) := by omega
  have g2 : ((s[i]'hi).toNat : Int) ≤ 223 := by omega
  by_cases c1 : inB s (i + 1) 128 191
  · have H := hide (w_two_yes hi h1 h2 c1)
    have H1 := hide c1
    clear h1 h2 c1
    go_enter Try.func21, Try.ntmps21
    go_wp2_with fail
    refine (cont_yes B s _ _ _ (i + 1) 128 191 _ hs HC (by omega) (by omega) (by omega) H1).mono ?_
    rintro e w1 ⟨rfl, rfl⟩
    go_wp2_with fail
    go_ret
    exact ⟨ret_int (by rw [unhide H]; rfl), rfl⟩
  · have H := hide (w_two_no hi h1 h2 c1)
    have H1 := hide c1
    clear h1 h2 c1
    go_enter Try.func21, Try.ntmps21
    go_wp2_with fail
    refine (cont_no B s _ _ _ (i + 1) 128 191 _ hs HC (by omega) (by omega) (by omega) H1).mono ?_
    rintro e w1 ⟨rfl, rfl⟩
    go_wp2_with fail
    go_ret
    exact ⟨ret_int (by rw [unhide H]; rfl), rfl⟩

set_option maxRecDepth 100000 in
set_option maxHeartbeats 800000 in
theorem rl_three_a (B : Nat) (s : ByteArray) (i : Nat) (w : World) (hs : s.size ≤ 65536) (hi : i < s.size) (hc : Src w B s) (h1 : 224 ≤ (s[i]'hi).toNat) (h2 : (s[i]'hi).toNat ≤ 239) (h3 : (s[i]'hi).toNat = 224) :
    Calls Try.prog 21 #[.slice (some ⟨B, 0, none⟩) s.size s.size, .int .i64 i] w fun e w' => e = .returned (.int .i64 (wd s i)) ∧ w' = w := by
  have hcell := hc i hi
  have HC := hide hc
  clear hc
  have g1 : (224 : Int) ≤ ((s[i]'hi).toNat : Int) := by omega
  have g2 : ((s[i]'hi).toNat : Int) ≤ 239 := by omega
  have e224 : (((s[i]'hi).toNat : Int) == 224) = true := beq_iff_eq.2 (by omega)
  have e237 : (((s[i]'hi).toNat : Int) == 237) = false := beq_eq_false_iff_ne.2 (by omega)
  by_cases c1 : inB s (i + 1) 160 191
  · by_cases c2 : inB s (i + 2) 128 191
    · have H := hide (w_three_yes (lo := 160) (hi' := 191) hi h1 h2 (by rw [if_pos (by omega)]) (by rw [if_neg (by omega)]) c1 c2)
      have H1 := hide c1
      have H2 := hide c2
      clear h1 h2 c1 c2 h3
      go_enter Try.func21, Try.ntmps21
      go_wp2_with fail
      refine (cont_yes B s _ _ _ (i + 1) 160 191 _ hs HC (by omega) (by omega) (by omega) H1).mono ?_
      rintro e w1 ⟨rfl, rfl⟩
      go_wp2_with fail
      refine (cont_yes B s _ _ _ (i + 2) 128 191 _ hs HC (by omega) (by omega) (by omega) H2).mono ?_
      rintro e w1 ⟨rfl, rfl⟩
      go_wp2_with fail
      go_ret
      exact ⟨ret_int (by rw [unhide H]; rfl), rfl⟩
    · have H := hide (w_three_no (lo := 160) (hi' := 191) hi h1 h2 (by rw [if_pos (by omega)]) (by rw [if_neg (by omega)]) (fun c => c2 c.2))
      have H1 := hide c1
      have H2 := hide c2
      clear h1 h2 c1 c2 h3
      go_enter Try.func21, Try.ntmps21
      go_wp2_with fail
      refine (cont_yes B s _ _ _ (i + 1) 160 191 _ hs HC (by omega) (by omega) (by omega) H1).mono ?_
      rintro e w1 ⟨rfl, rfl⟩
      go_wp2_with fail
      refine (cont_no B s _ _ _ (i + 2) 128 191 _ hs HC (by omega) (by omega) (by omega) H2).mono ?_
      rintro e w1 ⟨rfl, rfl⟩
      go_wp2_with fail
      go_ret
      exact ⟨ret_int (by rw [unhide H]; rfl), rfl⟩
  · have H := hide (w_three_no (lo := 160) (hi' := 191) hi h1 h2 (by rw [if_pos (by omega)]) (by rw [if_neg (by omega)]) (fun c => c1 c.1))
    have H1 := hide c1
    clear h1 h2 c1 h3
    go_enter Try.func21, Try.ntmps21
    go_wp2_with fail
    refine (cont_no B s _ _ _ (i + 1) 160 191 _ hs HC (by omega) (by omega) (by omega) H1).mono ?_
    rintro e w1 ⟨rfl, rfl⟩
    go_wp2_with fail
    go_ret
    exact ⟨ret_int (by rw [unhide H]; rfl), rfl⟩

set_option maxRecDepth 100000 in
set_option maxHeartbeats 800000 in
theorem rl_three_b (B : Nat) (s : ByteArray) (i : Nat) (w : World) (hs : s.size ≤ 65536) (hi : i < s.size) (hc : Src w B s) (h1 : 224 ≤ (s[i]'hi).toNat) (h2 : (s[i]'hi).toNat ≤ 239) (h3 : (s[i]'hi).toNat = 237) :
    Calls Try.prog 21 #[.slice (some ⟨B, 0, none⟩) s.size s.size, .int .i64 i] w fun e w' => e = .returned (.int .i64 (wd s i)) ∧ w' = w := by
  have hcell := hc i hi
  have HC := hide hc
  clear hc
  have g1 : (224 : Int) ≤ ((s[i]'hi).toNat : Int) := by omega
  have g2 : ((s[i]'hi).toNat : Int) ≤ 239 := by omega
  have e224 : (((s[i]'hi).toNat : Int) == 224) = false := beq_eq_false_iff_ne.2 (by omega)
  have e237 : (((s[i]'hi).toNat : Int) == 237) = true := beq_iff_eq.2 (by omega)
  by_cases c1 : inB s (i + 1) 128 159
  · by_cases c2 : inB s (i + 2) 128 191
    · have H := hide (w_three_yes (lo := 128) (hi' := 159) hi h1 h2 (by rw [if_neg (by omega)]) (by rw [if_pos (by omega)]) c1 c2)
      have H1 := hide c1
      have H2 := hide c2
      clear h1 h2 c1 c2 h3
      go_enter Try.func21, Try.ntmps21
      go_wp2_with fail
      refine (cont_yes B s _ _ _ (i + 1) 128 159 _ hs HC (by omega) (by omega) (by omega) H1).mono ?_
      rintro e w1 ⟨rfl, rfl⟩
      go_wp2_with fail
      refine (cont_yes B s _ _ _ (i + 2) 128 191 _ hs HC (by omega) (by omega) (by omega) H2).mono ?_
      rintro e w1 ⟨rfl, rfl⟩
      go_wp2_with fail
      go_ret
      exact ⟨ret_int (by rw [unhide H]; rfl), rfl⟩
    · have H := hide (w_three_no (lo := 128) (hi' := 159) hi h1 h2 (by rw [if_neg (by omega)]) (by rw [if_pos (by omega)]) (fun c => c2 c.2))
      have H1 := hide c1
      have H2 := hide c2
      clear h1 h2 c1 c2 h3
      go_enter Try.func21, Try.ntmps21
      go_wp2_with fail
      refine (cont_yes B s _ _ _ (i + 1) 128 159 _ hs HC (by omega) (by omega) (by omega) H1).mono ?_
      rintro e w1 ⟨rfl, rfl⟩
      go_wp2_with fail
      refine (cont_no B s _ _ _ (i + 2) 128 191 _ hs HC (by omega) (by omega) (by omega) H2).mono ?_
      rintro e w1 ⟨rfl, rfl⟩
      go_wp2_with fail
      go_ret
      exact ⟨ret_int (by rw [unhide H]; rfl), rfl⟩
  · have H := hide (w_three_no (lo := 128) (hi' := 159) hi h1 h2 (by rw [if_neg (by omega)]) (by rw [if_pos (by omega)]) (fun c => c1 c.1))
    have H1 := hide c1
    clear h1 h2 c1 h3
    go_enter Try.func21, Try.ntmps21
    go_wp2_with fail
    refine (cont_no B s _ _ _ (i + 1) 128 159 _ hs HC (by omega) (by omega) (by omega) H1).mono ?_
    rintro e w1 ⟨rfl, rfl⟩
    go_wp2_with fail
    go_ret
    exact ⟨ret_int (by rw [unhide H]; rfl), rfl⟩

set_option maxRecDepth 100000 in
set_option maxHeartbeats 800000 in
theorem rl_three_c (B : Nat) (s : ByteArray) (i : Nat) (w : World) (hs : s.size ≤ 65536) (hi : i < s.size) (hc : Src w B s) (h1 : 224 ≤ (s[i]'hi).toNat) (h2 : (s[i]'hi).toNat ≤ 239) (h3 : (s[i]'hi).toNat ≠ 224 ∧ (s[i]'hi).toNat ≠ 237) :
    Calls Try.prog 21 #[.slice (some ⟨B, 0, none⟩) s.size s.size, .int .i64 i] w fun e w' => e = .returned (.int .i64 (wd s i)) ∧ w' = w := by
  have hcell := hc i hi
  have HC := hide hc
  clear hc
  have g1 : (224 : Int) ≤ ((s[i]'hi).toNat : Int) := by omega
  have g2 : ((s[i]'hi).toNat : Int) ≤ 239 := by omega
  have e224 : (((s[i]'hi).toNat : Int) == 224) = false := beq_eq_false_iff_ne.2 (by omega)
  have e237 : (((s[i]'hi).toNat : Int) == 237) = false := beq_eq_false_iff_ne.2 (by omega)
  by_cases c1 : inB s (i + 1) 128 191
  · by_cases c2 : inB s (i + 2) 128 191
    · have H := hide (w_three_yes (lo := 128) (hi' := 191) hi h1 h2 (by rw [if_neg (by omega)]) (by rw [if_neg (by omega)]) c1 c2)
      have H1 := hide c1
      have H2 := hide c2
      clear h1 h2 c1 c2 h3
      go_enter Try.func21, Try.ntmps21
      go_wp2_with fail
      refine (cont_yes B s _ _ _ (i + 1) 128 191 _ hs HC (by omega) (by omega) (by omega) H1).mono ?_
      rintro e w1 ⟨rfl, rfl⟩
      go_wp2_with fail
      refine (cont_yes B s _ _ _ (i + 2) 128 191 _ hs HC (by omega) (by omega) (by omega) H2).mono ?_
      rintro e w1 ⟨rfl, rfl⟩
      go_wp2_with fail
      go_ret
      exact ⟨ret_int (by rw [unhide H]; rfl), rfl⟩
    · have H := hide (w_three_no (lo := 128) (hi' := 191) hi h1 h2 (by rw [if_neg (by omega)]) (by rw [if_neg (by omega)]) (fun c => c2 c.2))
      have H1 := hide c1
      have H2 := hide c2
      clear h1 h2 c1 c2 h3
      go_enter Try.func21, Try.ntmps21
      go_wp2_with fail
      refine (cont_yes B s _ _ _ (i + 1) 128 191 _ hs HC (by omega) (by omega) (by omega) H1).mono ?_
      rintro e w1 ⟨rfl, rfl⟩
      go_wp2_with fail
      refine (cont_no B s _ _ _ (i + 2) 128 191 _ hs HC (by omega) (by omega) (by omega) H2).mono ?_
      rintro e w1 ⟨rfl, rfl⟩
      go_wp2_with fail
      go_ret
      exact ⟨ret_int (by rw [unhide H]; rfl), rfl⟩
  · have H := hide (w_three_no (lo := 128) (hi' := 191) hi h1 h2 (by rw [if_neg (by omega)]) (by rw [if_neg (by omega)]) (fun c => c1 c.1))
    have H1 := hide c1
    clear h1 h2 c1 h3
    go_enter Try.func21, Try.ntmps21
    go_wp2_with fail
    refine (cont_no B s _ _ _ (i + 1) 128 191 _ hs HC (by omega) (by omega) (by omega) H1).mono ?_
    rintro e w1 ⟨rfl, rfl⟩
    go_wp2_with fail
    go_ret
    exact ⟨ret_int (by rw [unhide H]; rfl), rfl⟩

set_option maxRecDepth 100000 in
set_option maxHeartbeats 800000 in
theorem rl_four_a (B : Nat) (s : ByteArray) (i : Nat) (w : World) (hs : s.size ≤ 65536) (hi : i < s.size) (hc : Src w B s) (h1 : 240 ≤ (s[i]'hi).toNat) (h2 : (s[i]'hi).toNat ≤ 244) (h3 : (s[i]'hi).toNat = 240) :
    Calls Try.prog 21 #[.slice (some ⟨B, 0, none⟩) s.size s.size, .int .i64 i] w fun e w' => e = .returned (.int .i64 (wd s i)) ∧ w' = w := by
  have hcell := hc i hi
  have HC := hide hc
  clear hc
  have g1 : (240 : Int) ≤ ((s[i]'hi).toNat : Int) := by omega
  have g2 : ((s[i]'hi).toNat : Int) ≤ 244 := by omega
  have e240 : (((s[i]'hi).toNat : Int) == 240) = true := beq_iff_eq.2 (by omega)
  have e244 : (((s[i]'hi).toNat : Int) == 244) = false := beq_eq_false_iff_ne.2 (by omega)
  by_cases c1 : inB s (i + 1) 144 191
  · by_cases c2 : inB s (i + 2) 128 191
    · by_cases c3 : inB s (i + 3) 128 191
      · have H := hide (w_four_yes (lo := 144) (hi' := 191) hi h1 h2 (by rw [if_pos (by omega)]) (by rw [if_neg (by omega)]) c1 c2 c3)
        have H1 := hide c1
        have H2 := hide c2
        have H3 := hide c3
        clear h1 h2 c1 c2 c3 h3
        go_enter Try.func21, Try.ntmps21
        go_wp2_with fail
        refine (cont_yes B s _ _ _ (i + 1) 144 191 _ hs HC (by omega) (by omega) (by omega) H1).mono ?_
        rintro e w1 ⟨rfl, rfl⟩
        go_wp2_with fail
        refine (cont_yes B s _ _ _ (i + 2) 128 191 _ hs HC (by omega) (by omega) (by omega) H2).mono ?_
        rintro e w1 ⟨rfl, rfl⟩
        go_wp2_with fail
        refine (cont_yes B s _ _ _ (i + 3) 128 191 _ hs HC (by omega) (by omega) (by omega) H3).mono ?_
        rintro e w1 ⟨rfl, rfl⟩
        go_wp2_with fail
        go_ret
        exact ⟨ret_int (by rw [unhide H]; rfl), rfl⟩
      · have H := hide (w_four_no (lo := 144) (hi' := 191) hi h1 h2 (by rw [if_pos (by omega)]) (by rw [if_neg (by omega)]) (fun c => c3 c.2.2))
        have H1 := hide c1
        have H2 := hide c2
        have H3 := hide c3
        clear h1 h2 c1 c2 c3 h3
        go_enter Try.func21, Try.ntmps21
        go_wp2_with fail
        refine (cont_yes B s _ _ _ (i + 1) 144 191 _ hs HC (by omega) (by omega) (by omega) H1).mono ?_
        rintro e w1 ⟨rfl, rfl⟩
        go_wp2_with fail
        refine (cont_yes B s _ _ _ (i + 2) 128 191 _ hs HC (by omega) (by omega) (by omega) H2).mono ?_
        rintro e w1 ⟨rfl, rfl⟩
        go_wp2_with fail
        refine (cont_no B s _ _ _ (i + 3) 128 191 _ hs HC (by omega) (by omega) (by omega) H3).mono ?_
        rintro e w1 ⟨rfl, rfl⟩
        go_wp2_with fail
        go_ret
        exact ⟨ret_int (by rw [unhide H]; rfl), rfl⟩
    · have H := hide (w_four_no (lo := 144) (hi' := 191) hi h1 h2 (by rw [if_pos (by omega)]) (by rw [if_neg (by omega)]) (fun c => c2 c.2.1))
      have H1 := hide c1
      have H2 := hide c2
      clear h1 h2 c1 c2 h3
      go_enter Try.func21, Try.ntmps21
      go_wp2_with fail
      refine (cont_yes B s _ _ _ (i + 1) 144 191 _ hs HC (by omega) (by omega) (by omega) H1).mono ?_
      rintro e w1 ⟨rfl, rfl⟩
      go_wp2_with fail
      refine (cont_no B s _ _ _ (i + 2) 128 191 _ hs HC (by omega) (by omega) (by omega) H2).mono ?_
      rintro e w1 ⟨rfl, rfl⟩
      go_wp2_with fail
      go_ret
      exact ⟨ret_int (by rw [unhide H]; rfl), rfl⟩
  · have H := hide (w_four_no (lo := 144) (hi' := 191) hi h1 h2 (by rw [if_pos (by omega)]) (by rw [if_neg (by omega)]) (fun c => c1 c.1))
    have H1 := hide c1
    clear h1 h2 c1 h3
    go_enter Try.func21, Try.ntmps21
    go_wp2_with fail
    refine (cont_no B s _ _ _ (i + 1) 144 191 _ hs HC (by omega) (by omega) (by omega) H1).mono ?_
    rintro e w1 ⟨rfl, rfl⟩
    go_wp2_with fail
    go_ret
    exact ⟨ret_int (by rw [unhide H]; rfl), rfl⟩

set_option maxRecDepth 100000 in
set_option maxHeartbeats 800000 in
theorem rl_four_b (B : Nat) (s : ByteArray) (i : Nat) (w : World) (hs : s.size ≤ 65536) (hi : i < s.size) (hc : Src w B s) (h1 : 240 ≤ (s[i]'hi).toNat) (h2 : (s[i]'hi).toNat ≤ 244) (h3 : (s[i]'hi).toNat = 244) :
    Calls Try.prog 21 #[.slice (some ⟨B, 0, none⟩) s.size s.size, .int .i64 i] w fun e w' => e = .returned (.int .i64 (wd s i)) ∧ w' = w := by
  have hcell := hc i hi
  have HC := hide hc
  clear hc
  have g1 : (240 : Int) ≤ ((s[i]'hi).toNat : Int) := by omega
  have g2 : ((s[i]'hi).toNat : Int) ≤ 244 := by omega
  have e240 : (((s[i]'hi).toNat : Int) == 240) = false := beq_eq_false_iff_ne.2 (by omega)
  have e244 : (((s[i]'hi).toNat : Int) == 244) = true := beq_iff_eq.2 (by omega)
  by_cases c1 : inB s (i + 1) 128 143
  · by_cases c2 : inB s (i + 2) 128 191
    · by_cases c3 : inB s (i + 3) 128 191
      · have H := hide (w_four_yes (lo := 128) (hi' := 143) hi h1 h2 (by rw [if_neg (by omega)]) (by rw [if_pos (by omega)]) c1 c2 c3)
        have H1 := hide c1
        have H2 := hide c2
        have H3 := hide c3
        clear h1 h2 c1 c2 c3 h3
        go_enter Try.func21, Try.ntmps21
        go_wp2_with fail
        refine (cont_yes B s _ _ _ (i + 1) 128 143 _ hs HC (by omega) (by omega) (by omega) H1).mono ?_
        rintro e w1 ⟨rfl, rfl⟩
        go_wp2_with fail
        refine (cont_yes B s _ _ _ (i + 2) 128 191 _ hs HC (by omega) (by omega) (by omega) H2).mono ?_
        rintro e w1 ⟨rfl, rfl⟩
        go_wp2_with fail
        refine (cont_yes B s _ _ _ (i + 3) 128 191 _ hs HC (by omega) (by omega) (by omega) H3).mono ?_
        rintro e w1 ⟨rfl, rfl⟩
        go_wp2_with fail
        go_ret
        exact ⟨ret_int (by rw [unhide H]; rfl), rfl⟩
      · have H := hide (w_four_no (lo := 128) (hi' := 143) hi h1 h2 (by rw [if_neg (by omega)]) (by rw [if_pos (by omega)]) (fun c => c3 c.2.2))
        have H1 := hide c1
        have H2 := hide c2
        have H3 := hide c3
        clear h1 h2 c1 c2 c3 h3
        go_enter Try.func21, Try.ntmps21
        go_wp2_with fail
        refine (cont_yes B s _ _ _ (i + 1) 128 143 _ hs HC (by omega) (by omega) (by omega) H1).mono ?_
        rintro e w1 ⟨rfl, rfl⟩
        go_wp2_with fail
        refine (cont_yes B s _ _ _ (i + 2) 128 191 _ hs HC (by omega) (by omega) (by omega) H2).mono ?_
        rintro e w1 ⟨rfl, rfl⟩
        go_wp2_with fail
        refine (cont_no B s _ _ _ (i + 3) 128 191 _ hs HC (by omega) (by omega) (by omega) H3).mono ?_
        rintro e w1 ⟨rfl, rfl⟩
        go_wp2_with fail
        go_ret
        exact ⟨ret_int (by rw [unhide H]; rfl), rfl⟩
    · have H := hide (w_four_no (lo := 128) (hi' := 143) hi h1 h2 (by rw [if_neg (by omega)]) (by rw [if_pos (by omega)]) (fun c => c2 c.2.1))
      have H1 := hide c1
      have H2 := hide c2
      clear h1 h2 c1 c2 h3
      go_enter Try.func21, Try.ntmps21
      go_wp2_with fail
      refine (cont_yes B s _ _ _ (i + 1) 128 143 _ hs HC (by omega) (by omega) (by omega) H1).mono ?_
      rintro e w1 ⟨rfl, rfl⟩
      go_wp2_with fail
      refine (cont_no B s _ _ _ (i + 2) 128 191 _ hs HC (by omega) (by omega) (by omega) H2).mono ?_
      rintro e w1 ⟨rfl, rfl⟩
      go_wp2_with fail
      go_ret
      exact ⟨ret_int (by rw [unhide H]; rfl), rfl⟩
  · have H := hide (w_four_no (lo := 128) (hi' := 143) hi h1 h2 (by rw [if_neg (by omega)]) (by rw [if_pos (by omega)]) (fun c => c1 c.1))
    have H1 := hide c1
    clear h1 h2 c1 h3
    go_enter Try.func21, Try.ntmps21
    go_wp2_with fail
    refine (cont_no B s _ _ _ (i + 1) 128 143 _ hs HC (by omega) (by omega) (by omega) H1).mono ?_
    rintro e w1 ⟨rfl, rfl⟩
    go_wp2_with fail
    go_ret
    exact ⟨ret_int (by rw [unhide H]; rfl), rfl⟩

set_option maxRecDepth 100000 in
set_option maxHeartbeats 800000 in
theorem rl_four_c (B : Nat) (s : ByteArray) (i : Nat) (w : World) (hs : s.size ≤ 65536) (hi : i < s.size) (hc : Src w B s) (h1 : 240 ≤ (s[i]'hi).toNat) (h2 : (s[i]'hi).toNat ≤ 244) (h3 : (s[i]'hi).toNat ≠ 240 ∧ (s[i]'hi).toNat ≠ 244) :
    Calls Try.prog 21 #[.slice (some ⟨B, 0, none⟩) s.size s.size, .int .i64 i] w fun e w' => e = .returned (.int .i64 (wd s i)) ∧ w' = w := by
  have hcell := hc i hi
  have HC := hide hc
  clear hc
  have g1 : (240 : Int) ≤ ((s[i]'hi).toNat : Int) := by omega
  have g2 : ((s[i]'hi).toNat : Int) ≤ 244 := by omega
  have e240 : (((s[i]'hi).toNat : Int) == 240) = false := beq_eq_false_iff_ne.2 (by omega)
  have e244 : (((s[i]'hi).toNat : Int) == 244) = false := beq_eq_false_iff_ne.2 (by omega)
  by_cases c1 : inB s (i + 1) 128 191
  · by_cases c2 : inB s (i + 2) 128 191
    · by_cases c3 : inB s (i + 3) 128 191
      · have H := hide (w_four_yes (lo := 128) (hi' := 191) hi h1 h2 (by rw [if_neg (by omega)]) (by rw [if_neg (by omega)]) c1 c2 c3)
        have H1 := hide c1
        have H2 := hide c2
        have H3 := hide c3
        clear h1 h2 c1 c2 c3 h3
        go_enter Try.func21, Try.ntmps21
        go_wp2_with fail
        refine (cont_yes B s _ _ _ (i + 1) 128 191 _ hs HC (by omega) (by omega) (by omega) H1).mono ?_
        rintro e w1 ⟨rfl, rfl⟩
        go_wp2_with fail
        refine (cont_yes B s _ _ _ (i + 2) 128 191 _ hs HC (by omega) (by omega) (by omega) H2).mono ?_
        rintro e w1 ⟨rfl, rfl⟩
        go_wp2_with fail
        refine (cont_yes B s _ _ _ (i + 3) 128 191 _ hs HC (by omega) (by omega) (by omega) H3).mono ?_
        rintro e w1 ⟨rfl, rfl⟩
        go_wp2_with fail
        go_ret
        exact ⟨ret_int (by rw [unhide H]; rfl), rfl⟩
      · have H := hide (w_four_no (lo := 128) (hi' := 191) hi h1 h2 (by rw [if_neg (by omega)]) (by rw [if_neg (by omega)]) (fun c => c3 c.2.2))
        have H1 := hide c1
        have H2 := hide c2
        have H3 := hide c3
        clear h1 h2 c1 c2 c3 h3
        go_enter Try.func21, Try.ntmps21
        go_wp2_with fail
        refine (cont_yes B s _ _ _ (i + 1) 128 191 _ hs HC (by omega) (by omega) (by omega) H1).mono ?_
        rintro e w1 ⟨rfl, rfl⟩
        go_wp2_with fail
        refine (cont_yes B s _ _ _ (i + 2) 128 191 _ hs HC (by omega) (by omega) (by omega) H2).mono ?_
        rintro e w1 ⟨rfl, rfl⟩
        go_wp2_with fail
        refine (cont_no B s _ _ _ (i + 3) 128 191 _ hs HC (by omega) (by omega) (by omega) H3).mono ?_
        rintro e w1 ⟨rfl, rfl⟩
        go_wp2_with fail
        go_ret
        exact ⟨ret_int (by rw [unhide H]; rfl), rfl⟩
    · have H := hide (w_four_no (lo := 128) (hi' := 191) hi h1 h2 (by rw [if_neg (by omega)]) (by rw [if_neg (by omega)]) (fun c => c2 c.2.1))
      have H1 := hide c1
      have H2 := hide c2
      clear h1 h2 c1 c2 h3
      go_enter Try.func21, Try.ntmps21
      go_wp2_with fail
      refine (cont_yes B s _ _ _ (i + 1) 128 191 _ hs HC (by omega) (by omega) (by omega) H1).mono ?_
      rintro e w1 ⟨rfl, rfl⟩
      go_wp2_with fail
      refine (cont_no B s _ _ _ (i + 2) 128 191 _ hs HC (by omega) (by omega) (by omega) H2).mono ?_
      rintro e w1 ⟨rfl, rfl⟩
      go_wp2_with fail
      go_ret
      exact ⟨ret_int (by rw [unhide H]; rfl), rfl⟩
  · have H := hide (w_four_no (lo := 128) (hi' := 191) hi h1 h2 (by rw [if_neg (by omega)]) (by rw [if_neg (by omega)]) (fun c => c1 c.1))
    have H1 := hide c1
    clear h1 h2 c1 h3
    go_enter Try.func21, Try.ntmps21
    go_wp2_with fail
    refine (cont_no B s _ _ _ (i + 1) 128 191 _ hs HC (by omega) (by omega) (by omega) H1).mono ?_
    rintro e w1 ⟨rfl, rfl⟩
    go_wp2_with fail
    go_ret
    exact ⟨ret_int (by rw [unhide H]; rfl), rfl⟩

theorem runelen_any (B : Nat) (s : ByteArray) (i : Nat) (w : World) (hs : s.size ≤ 65536) (hi : i < s.size) (hc : Src w B s) :
    Calls Try.prog 21 #[.slice (some ⟨B, 0, none⟩) s.size s.size, .int .i64 i] w fun e w' => e = .returned (.int .i64 (wd s i)) ∧ w' = w := by
  by_cases a1 : (s[i]'hi).toNat < 128
  · exact rl_low B s i w hs hi hc a1
  by_cases a2 : (s[i]'hi).toNat < 194
  · exact rl_mid B s i w hs hi hc (by omega) a2
  by_cases a3 : (s[i]'hi).toNat ≤ 223
  · exact rl_two B s i w hs hi hc (by omega) a3
  by_cases a4 : (s[i]'hi).toNat ≤ 239
  · by_cases b1 : (s[i]'hi).toNat = 224
    · exact rl_three_a B s i w hs hi hc (by omega) a4 b1
    by_cases b2 : (s[i]'hi).toNat = 237
    · exact rl_three_b B s i w hs hi hc (by omega) a4 b2
    exact rl_three_c B s i w hs hi hc (by omega) a4 ⟨b1, b2⟩
  by_cases a5 : (s[i]'hi).toNat ≤ 244
  · by_cases b1 : (s[i]'hi).toNat = 240
    · exact rl_four_a B s i w hs hi hc (by omega) a5 b1
    by_cases b2 : (s[i]'hi).toNat = 244
    · exact rl_four_b B s i w hs hi hc (by omega) a5 b2
    exact rl_four_c B s i w hs hi hc (by omega) a5 ⟨b1, b2⟩
  exact rl_top B s i w hs hi hc (by omega)
end Go.Proofs.Qxb6003688a
