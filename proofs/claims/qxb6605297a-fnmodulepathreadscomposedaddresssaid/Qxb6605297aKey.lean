import Derived.Test.Qxb6605297aBase
import Derived.Test.Qxb6605297aShelf
namespace Go.Proofs.Qxb6605297a
open Go.RowKit

/-- a key's text, escaped -/
def esc : List UInt8 → List UInt8
  | [] => []
  | b :: l => if b == 34 || b == 92 then 92 :: b :: esc l else b :: esc l

theorem prefix_is (s p : ByteArray) (r : Bool) (w : World) (h : Hid (Lib.hasPrefix s.data.toList p.data.toList = r)) :
    Calls Try.prog 15 #[.string s, .string p] w fun e w' => e = .returned (.bool r) ∧ w' = w := by
  rw [← unhide h]; exact Try.strings_HasPrefix s p w
theorem index_is (s : ByteArray) (c : UInt8) (C r : Int) (w : World) (hC : (c.toNat : Int) = C) (h : Hid (Lib.indexByte s.data.toList c = r)) :
    Calls Try.prog 25 #[.string s, .int .u8 C] w fun e w' => e = .returned (.int .i64 r) ∧ w' = w := by
  subst hC
  have := Try.strings_IndexByte s (c.toNat : Int) w
  rw [show ((c.toNat : Int)).toNat.toUInt8 = c by simp, unhide h] at this
  exact this

theorem indexByte_hit (c : UInt8) : ∀ (ds tail : List UInt8), (∀ x ∈ ds, x ≠ c) → Lib.indexByte (ds ++ c :: tail) c = ds.length
  | [], tail, _ => by simp [Lib.indexByte]
  | d :: ds, tail, h => by
    have ih := indexByte_hit c ds tail (fun x hx => h x (by simp [hx]))
    have hd : (d == c) = false := beq_eq_false_iff_ne.2 (h d (by simp))
    simp [Lib.indexByte, hd, ih]

theorem cut_list (s : ByteArray) (i j : Nat) : (s.extract i j).data.toList = (s.data.toList.take j).drop i := by
  rw [ByteArray.data_extract, Array.toList_extract]
  simp [List.extract, List.drop_take]
theorem cut_tail (s : ByteArray) (i : Nat) : (s.extract i s.size).data.toList = s.data.toList.drop i := by
  rw [cut_list, List.take_of_length_le (Nat.le_of_eq (len_of s))]

set_option maxHeartbeats 800000 in
theorem key_num (s : ByteArray) (ds tail : List UInt8) (w : World) (hz : s.size ≤ 4194304) (hs : s.data.toList = 91 :: (ds ++ 93 :: tail)) (hd : ∀ x ∈ ds, x ≠ 93) (h34 : ∀ x ∈ ds, x ≠ 34) :
    Calls Try.prog 16 #[.string s] w fun e w' => e = .returned (.int .i64 (ds.length + 2)) ∧ w' = w := by
  have HP := hide (show Lib.hasPrefix s.data.toList [91, 34] = false by
    rw [hs]; cases ds with
    | nil => rfl
    | cons d ds =>
      have : d ≠ 34 := h34 d (by simp)
      simp [Lib.hasPrefix, List.isPrefixOf, this.symm])
  have hsz : ds.length + 2 ≤ s.size := by rw [← len_of, hs, List.length_cons, List.length_append, List.length_cons]; omega
  have HS := hide hs
  clear hs
  go_enter Try.func16, Try.ntmps16
  go_wp2_with fail
  refine (prefix_is s _ false _ HP).mono ?_
  rintro e w1 ⟨rfl, rfl⟩
  go_wp2_with fail
  refine (index_is _ 93 _ (ds.length : Nat) _ rfl (hide ?_)).mono ?_
  · rw [cut_tail, unhide HS, show (min (1 : Int) (s.size : Int)).toNat = 1 by omega]
    exact indexByte_hit 93 ds tail hd
  rintro e w1 ⟨rfl, rfl⟩
  have hge : decide ((0 : Int) ≤ (ds.length : Int)) = true := decide_eq_true (by omega)
  go_wp2_with fail
  go_ret
  exact ⟨ret_int (by omega), rfl⟩

theorem esc_nil {k : List UInt8} (h : k = []) : esc k = [] := by rw [h]; rfl

/-- the places of a key's text: what stands at i, and where the next place is -/
theorem esc_at {s : ByteArray} {i : Nat} {k tail : List UInt8} (h : s.data.toList.drop i = esc k ++ 34 :: 93 :: tail) :
    (k = [] ∧ ∃ hi : i < s.size, s[i] = 34) ∨
    (∃ b l, k = b :: l ∧ ∃ hi : i < s.size, s[i] = 92 ∧ s.data.toList.drop (i + 2) = esc l ++ 34 :: 93 :: tail ∧ i + 2 < s.size) ∨
    (∃ b l, k = b :: l ∧ ∃ hi : i < s.size, s[i] ≠ 34 ∧ s[i] ≠ 92 ∧ s.data.toList.drop (i + 1) = esc l ++ 34 :: 93 :: tail ∧ i + 1 < s.size) := by
  have hlen : (s.data.toList.drop i).length = s.size - i := by rw [List.length_drop, len_of]
  have hat : ∀ x l, s.data.toList.drop i = x :: l → ∃ hi : i < s.size, s[i] = x := by
    intro x l e
    have hi : i < s.size := by rw [e] at hlen; simp at hlen; omega
    refine ⟨hi, ?_⟩
    have h0 : (s.data.toList.drop i)[0]? = some x := by rw [e]; rfl
    rw [List.getElem?_drop, Nat.add_zero, at_of hi] at h0
    exact Option.some.inj h0
  have hdrop : ∀ n l m, s.data.toList.drop i = l ++ m → l.length = n → s.data.toList.drop (i + n) = m := by
    intro n l m e hl
    rw [← List.drop_drop, e, ← hl, List.drop_left]
  cases k with
  | nil => exact Or.inl ⟨rfl, hat 34 _ h⟩
  | cons b l =>
    right
    by_cases hb : (b == 34 || b == 92) = true
    · rw [esc, if_pos hb] at h
      obtain ⟨hi, e⟩ := hat 92 _ h
      have h2 := hdrop 2 [92, b] _ h rfl
      refine Or.inl ⟨b, l, rfl, hi, e, h2, ?_⟩
      have := congrArg List.length h2
      rw [List.length_drop, len_of] at this
      simp at this
      omega
    · rw [esc, if_neg hb] at h
      obtain ⟨hi, e⟩ := hat b _ h
      have h2 := hdrop 1 [b] _ h rfl
      rw [Bool.or_eq_true, not_or, beq_iff_eq, beq_iff_eq] at hb
      refine Or.inr ⟨b, l, rfl, hi, by rw [e]; exact hb.1, by rw [e]; exact hb.2, h2, ?_⟩
      have := congrArg List.length h2
      rw [List.length_drop, len_of] at this
      simp at this
      omega

set_option maxHeartbeats 800000 in
theorem key_str (s : ByteArray) (k tail : List UInt8) (w : World) (hz : s.size ≤ 4194304) (hs : s.data.toList = 91 :: 34 :: (esc k ++ 34 :: 93 :: tail)) :
    Calls Try.prog 16 #[.string s] w fun e w' => e = .returned (.int .i64 ((esc k).length + 4)) ∧ w' = w := by
  have HP := hide (show Lib.hasPrefix s.data.toList [91, 34] = true by rw [hs]; rfl)
  have hsz : (esc k).length + 4 + tail.length = s.size := by rw [← len_of, hs]; simp; omega
  have HZ := hide hsz
  have HS := hide hs
  clear hs hsz
  go_enter Try.func16, Try.ntmps16
  go_wp2_with fail
  refine (prefix_is s _ true _ HP).mono ?_
  rintro e w1 ⟨rfl, rfl⟩
  go_wp2_with fail
  go_loop [3] (fun t => ∃ (i : Nat) (l : List UInt8), t = .int .i64 i ∧ s.data.toList.drop i = esc l ++ 34 :: 93 :: tail ∧ i < s.size) (fun t => s.size - (intOf t).toNat)
  case atStart => exact ⟨2, k, rfl, by rw [unhide HS]; rfl, by have := unhide HZ; omega⟩
  case round =>
    obtain ⟨i, l, rfl, hl, hi⟩ := hrel
    rcases esc_at hl with ⟨rfl, _, e⟩ | ⟨b, l, rfl, _, e, hn, hi2⟩ | ⟨b, l, rfl, _, e1, e2, hn, hi2⟩
    · have hu := u8_yes (n := 34) e rfl
      have HL := hide hl
      clear hl
      have hd : decide (i < s.size) = true := decide_eq_true hi
      have hend : i = (esc k).length + 2 := by
        have h1 := congrArg List.length (unhide HL)
        rw [List.length_drop, len_of] at h1
        have h2 := unhide HZ
        simp [esc] at h1
        omega
      have HE := hide hend
      clear hend
      go_wp2_with fail
      refine (index_is _ 93 _ (1 : Nat) _ rfl (hide ?_)).mono ?_
      · rw [cut_tail, show (min (i : Int) (s.size : Int)).toNat = i by omega, unhide HL]
        exact indexByte_hit 93 [34] tail (by intro x hx; simp at hx; rw [hx]; decide)
      rintro e w1 ⟨rfl, rfl⟩
      go_wp2_with fail
      go_ret
      exact ⟨ret_int (by have := unhide HE; omega), rfl⟩
    · have hu := u8_yes (n := 92) e rfl
      have hu2 := u8_no (c := s[i]) (d := 34) (n := 34) (by rw [e]; decide) rfl
      have HL := hide hn
      clear hl hn
      have hd : decide (i < s.size) = true := decide_eq_true hi
      go_wp2_with fail
      go_round
      case rel => exact ⟨i + 2, l, by go_num, unhide HL, hi2⟩
      case measure => simp [intOf]; omega
    · have hu := u8_no (n := 34) e1 rfl
      have hu2 := u8_no (n := 92) e2 rfl
      have HL := hide hn
      clear hl hn
      have hd : decide (i < s.size) = true := decide_eq_true hi
      go_wp2_with fail
      go_round
      case rel => exact ⟨i + 1, l, by go_num, unhide HL, hi2⟩
      case measure => simp [intOf]; omega
end Go.Proofs.Qxb6605297a
