import Derived.Test.Qxb6605297aRune
import Derived.Lib.OthersKept
namespace Go.Proofs.Qxb6605297a
open Go.RowKit

theorem dbr_iff (x : UInt8) : ([46, 91] : List UInt8).contains x = (x == 46 || x == 91) := by
  rw [Bool.eq_iff_iff]; simp

theorem idx_dbr_no {x : UInt8} (h : ([46, 91] : List UInt8).contains x = false) : Lib.indexByte [46, 91] x = -1 := by
  rw [dbr_iff, Bool.or_eq_false_iff, beq_eq_false_iff_ne, beq_eq_false_iff_ne] at h
  have h1 : ((46 : UInt8) == x) = false := by simpa using Ne.symm h.1
  have h2 : ((91 : UInt8) == x) = false := by simpa using Ne.symm h.2
  simp [Lib.indexByte, h1, h2]
theorem idx_dbr_yes {x : UInt8} (h : ([46, 91] : List UInt8).contains x = true) : ∃ n : Nat, Lib.indexByte [46, 91] x = n ∧ n ≤ 1 := by
  rw [dbr_iff, Bool.or_eq_true, beq_iff_eq, beq_iff_eq] at h
  rcases h with rfl | rfl
  · exact ⟨0, by decide, by omega⟩
  · exact ⟨1, by decide, by omega⟩
theorem high_no {x : UInt8} (h : 128 ≤ x.toNat) : ([46, 91] : List UInt8).contains x = false := by
  rw [dbr_iff, Bool.or_eq_false_iff, beq_eq_false_iff_ne, beq_eq_false_iff_ne]
  constructor
  · intro e; rw [e] at h; exact absurd h (by decide)
  · intro e; rw [e] at h; exact absurd h (by decide)

theorem rune_low (x : UInt8) (r : Int) (w : World) (hx : x.toNat < 128) (h : Hid (Lib.indexByte [46, 91] x = r)) :
    Calls Try.prog 19 #[.string ⟨#[46, 91]⟩, .int .i32 (x.toNat : Int)] w fun e w' => e = .returned (.int .i64 r) ∧ w' = w := by
  have c := Try.strings_IndexRune_ascii ⟨#[46, 91]⟩ (x.toNat : Int) w (by omega) (by omega)
  have hback : ((x.toNat : Int)).toNat.toUInt8 = x := by simp
  rw [hback] at c
  rw [← unhide h]; exact c

set_option maxRecDepth 1000000 in
set_option maxHeartbeats 4000000 in
theorem any_short (s : ByteArray) (w : World) (h8 : s.size ≤ 8) :
    Calls Try.prog 12 #[.string s, .string ⟨#[46, 91]⟩] w fun e w' => e = .returned (.int .i64 (Lib.indexAny s.data.toList [46, 91])) ∧ Below w.heap.size w w' := by
  have h8z : decide ((8 : Int) < (s.size : Int)) = false := decide_eq_false (by omega)
  go_enter Try.func12, Try.ntmps12
  go_wp2_with (go_at_call 20; go_in)
  go_loopg [9, 10] s.size (fun g _ _ wx => ∃ i : Nat, i + g = s.size ∧ wx.heap[w.heap.size]? = some (.stringIter s i) ∧ Below w.heap.size w wx ∧ Lib.NoAny s.data.toList [46, 91] i)
  case atStart => exact ⟨0, by omega, World.iter_heap w s 0, (Below.refl _ _).alloc (Nat.le_refl _) _, Lib.NoAny.zero _ _⟩
  case round =>
    obtain ⟨i, hig, hit, hbel, hno⟩ := hrel
    have HN := hide hno
    have HB := hide hbel
    have HT := hide hit
    clear hno hbel hit
    have HG := hide hig
    have hi0 : i ≤ s.size := by omega
    clear hig
    by_cases hi : i < s.size
    · by_cases hx : (s[i]'hi).toNat < 128
      · have hnx := fun ty => Lib.run_next_ascii_at (P := Try.prog) wr w.heap.size s i ty (unhide HT) hi hx
        have H1 := hide (Lib.iterAt_heap wr w.heap.size s i (i + 1) (unhide HT))
        have H2 := hide (Lib.below_iterAt (unhide HB) (Nat.le_refl _) s (i + 1))
        cases hin : ([46, 91] : List UInt8).contains (s[i]'hi)
        · have HI := hide (idx_dbr_no hin)
          have H3 := hide ((unhide HN).succ (at_of hi) hin)
          clear hin
          go_wp2_with (go_at_call 19; refine (rune_low _ _ _ hx HI).mono ?_; rintro e w' ⟨rfl, rfl⟩)
          go_roundg (gk - 1)
          case measure => have := unhide HG; omega
          case rel => exact ⟨i + 1, by have := unhide HG; omega, unhide H1, unhide H2, unhide H3⟩
        · obtain ⟨n, hn, hn1⟩ := idx_dbr_yes hin
          have HI := hide hn
          have H3 := hide (Lib.indexAny_hit (unhide HN) (at_of hi) hin)
          clear hin hn
          go_wp2_with (go_at_call 19; refine (rune_low _ _ _ hx HI).mono ?_; rintro e w' ⟨rfl, rfl⟩)
          go_ret
          exact ⟨ret_int (unhide H3).symm, unhide H2⟩
      · have hx' : 128 ≤ (s[i]'hi).toNat := by omega
        have hnx := fun ty => Lib.run_next_any_at (P := Try.prog) wr w.heap.size s i ty (unhide HT) hi
        obtain ⟨hd1, hd2⟩ := decode_high s i hi hx'
        have hd3 := decode_le s i
        obtain ⟨hp1, hp2⟩ := decode_pass s i hi hx'
        generalize hdd : Utf8.decode s i = dd at *
        obtain ⟨r, n⟩ := dd
        simp only at hd1 hd2 hd3 hp1 hp2 hnx
        have H1 := hide (Lib.iterAt_heap wr w.heap.size s i (i + n) (unhide HT))
        have H2 := hide (Lib.below_iterAt (unhide HB) (Nat.le_refl _) s (i + n))
        have H3 := hide (show Lib.NoAny s.data.toList [46, 91] (i + n) from fun j b hj hb => by
          by_cases hji : j < i
          · exact unhide HN j b hji hb
          · have hjs : j < s.size := by omega
            rw [at_of hjs] at hb
            injection hb with hb
            rw [← hb]
            exact high_no (hp2 j hjs (by omega) hj))
        clear hdd hp2 hx hx'
        go_wp2_with (go_at_call 19; refine (rune_high _ _ (by omega) (by omega)).mono ?_; rintro e w' ⟨rfl, hbl⟩)
        go_roundg (gk - n)
        case measure => have := unhide HG; omega
        case rel =>
          have hlt := (Array.getElem?_eq_some_iff.1 (unhide H1)).1
          exact ⟨i + n, by have := unhide HG; omega, (hbl.block _ hlt).trans (unhide H1), (unhide H2).trans (hbl.mono (Nat.le_of_lt hlt)), unhide H3⟩
    · have hnx := fun ty => Lib.run_next_end_at (P := Try.prog) wr w.heap.size s i ty (unhide HT) hi
      have hsz : i = s.data.toList.length := by rw [len_of]; omega
      have H3 := hide (Lib.indexAny_none (s := s.data.toList) (chars := [46, 91]) (hsz ▸ unhide HN))
      clear hsz
      go_wp2_with fail
      go_ret
      exact ⟨ret_int (unhide H3).symm, unhide HB⟩

theorem zero48 (w : World) : (zeroValue 48).run Try.prog w = .ok (.agg (Array.replicate 256 (.bool false))) w := by kernel_rfl

theorem any_is (s : ByteArray) (w : World) (r : Int) (hs : s.size ≤ 4194304) (hr : Hid (Lib.indexAny s.data.toList [46, 91] = r)) :
    Calls Try.prog 12 #[.string s, .string ⟨#[46, 91]⟩] w fun e w' => e = .returned (.int .i64 r) ∧ Below w.heap.size w w' := by
  rw [← unhide hr]
  by_cases h8 : s.size ≤ 8
  · exact any_short s w h8
  · refine (Try.strings_IndexAny_long zero48 s ⟨#[46, 91]⟩ w (by decide) (by omega) (by omega) (by decide) ?_).mono ?_
    · intro j b hj
      match j, hj with
      | 0, hj => have e : b = 46 := by simpa using hj.symm
                 subst e; decide
      | 1, hj => have e : b = 91 := by simpa using hj.symm
                 subst e; decide
      | j + 2, hj => simp at hj
    · rintro e w' ⟨rfl, rfl⟩
      exact ⟨rfl, ((Below.refl _ _).alloc (Nat.le_refl _) _).alloc (by simp) _⟩
end Go.Proofs.Qxb6605297a
