import Derived.Test.Qxb6003688aWalk
import Derived.Test.Qxb6003688aShelf
namespace Go.Proofs.Qxb6003688a
open Go.RowKit Plain

/-- the bytes bs lie in block b from place o on -/
def Seg (w : World) (b o : Nat) (bs : List UInt8) : Prop := ∀ i x, bs[i]? = some x → w.cell? ⟨b, o + i, none⟩ = some (.int .u8 (x.toNat : Int))

theorem src_seg {w : World} {B : Nat} {s : ByteArray} (h : Src w B s) (o k : Nat) : Seg w B o (seg s o k) := by
  intro i x hx
  by_cases hi : i < k
  · rw [seg_at hi] at hx
    obtain ⟨hlt, _⟩ := List.getElem?_eq_some_iff.1 hx
    rw [len_of] at hlt
    rw [at_of hlt] at hx
    injection hx with hx
    rw [h (o + i) hlt, hx]
  · unfold seg at hx
    rw [List.getElem?_eq_none (by rw [List.length_take]; omega)] at hx
    exact absurd hx (by simp)

/-- r is the last place of x in bs; -1: it has none -/
def LastAt (bs : List UInt8) (x : UInt8) (r : Int) : Prop := (r = -1 ∧ ∀ j : Nat, bs[j]? ≠ some x) ∨ ∃ t : Nat, r = t ∧ bs[t]? = some x ∧ ∀ j : Nat, t < j → bs[j]? ≠ some x

theorem lastAt_ex (x : UInt8) : ∀ bs : List UInt8, ∃ r, LastAt bs x r
  | [] => ⟨-1, Or.inl ⟨rfl, fun j => by simp⟩⟩
  | b :: l => by
    obtain ⟨r, hr⟩ := lastAt_ex x l
    rcases hr with ⟨rfl, hn⟩ | ⟨t, rfl, ht, hn⟩
    · by_cases hb : b = x
      · exact ⟨0, Or.inr ⟨0, rfl, by simp [hb], fun j hj => by
          cases j with
          | zero => omega
          | succ j => simpa using hn j⟩⟩
      · exact ⟨-1, Or.inl ⟨rfl, fun j => by
          cases j with
          | zero => simpa using hb
          | succ j => simpa using hn j⟩⟩
    · exact ⟨t + 1, Or.inr ⟨t + 1, by omega, by simpa using ht, fun j hj => by
        cases j with
        | zero => omega
        | succ j => simpa using hn j (by omega)⟩⟩

theorem LastAt.uniq {bs : List UInt8} {x : UInt8} {r r' : Int} (h : LastAt bs x r) (h' : LastAt bs x r') : r = r' := by
  rcases h with ⟨rfl, hn⟩ | ⟨t, rfl, ht, hn⟩
  · rcases h' with ⟨rfl, _⟩ | ⟨t', rfl, ht', _⟩
    · rfl
    · exact absurd ht' (hn t')
  · rcases h' with ⟨rfl, hn'⟩ | ⟨t', rfl, ht', hn'⟩
    · exact absurd ht (hn' t)
    · by_cases a : t < t'
      · exact absurd ht' (hn t' a)
      · by_cases b : t' < t
        · exact absurd ht (hn' t b)
        · have : t = t' := by omega
          rw [this]

theorem LastAt.bd {bs : List UInt8} {x : UInt8} {r : Int} (h : LastAt bs x r) : -1 ≤ r ∧ r < bs.length := by
  rcases h with ⟨rfl, _⟩ | ⟨t, rfl, ht, _⟩
  · omega
  · obtain ⟨hlt, _⟩ := List.getElem?_eq_some_iff.1 ht
    omega

set_option maxHeartbeats 800000 in
theorem last32 (b o n c : Nat) (bs : List UInt8) (x : UInt8) (r : Int) (w : World) (hn : bs.length = n) (hs : n ≤ 65536) (hc : Hid (Seg w b o bs)) (hr : Hid (LastAt bs x r)) :
    Calls Try.prog 32 #[.slice (some ⟨b, o, none⟩) n c, .int .u8 (x.toNat : Int)] w fun e w' => e = .returned (.int .i64 r) ∧ w' = w := by
  have HN := hide hn
  clear hn
  go_enter Try.func32, Try.ntmps32
  go_wp2
  go_loop [5] (fun t => ∃ k : Nat, k ≤ n ∧ t = .int .i64 ((k : Int) - 1) ∧ ∀ j : Nat, k ≤ j → bs[j]? ≠ some x) (fun t => (intOf t + 1).toNat)
  case atStart => exact ⟨n, Nat.le_refl _, rfl, fun j hj => by rw [List.getElem?_eq_none (by rw [unhide HN]; exact hj)]; simp⟩
  case round =>
    obtain ⟨k, hk, rfl, hno⟩ := hrel
    have HNo := hide hno
    clear hno
    cases k with
    | zero =>
      have HR := hide ((unhide hr).uniq (Or.inl ⟨rfl, fun j => unhide HNo j (Nat.zero_le _)⟩))
      go_wp2
      go_ret
      exact ⟨ret_int (unhide HR).symm, rfl⟩
    | succ m =>
      have hm : m < bs.length := by rw [unhide HN]; omega
      have hcell := unhide hc m (bs[m]'hm) (List.getElem?_eq_getElem hm)
      have he : ((m + 1 : Nat) : Int) - 1 = (m : Int) := by omega
      rw [he]
      by_cases hx : bs[m]'hm = x
      · have q : ((((bs[m]'hm).toNat : Nat) : Int) == ((x.toNat : Nat) : Int)) = true := by rw [hx]; simp
        have HR := hide ((unhide hr).uniq (Or.inr ⟨m, rfl, by rw [List.getElem?_eq_getElem hm, hx], fun j hj => unhide HNo j (by omega)⟩))
        clear hx he
        go_wp2
        go_ret
        exact ⟨ret_int (unhide HR).symm, rfl⟩
      · have q : ((((bs[m]'hm).toNat : Nat) : Int) == ((x.toNat : Nat) : Int)) = false := by
          rw [beq_eq_false_iff_ne]; intro e
          exact hx (UInt8.toNat_inj.1 (by omega))
        have HX := hide hx
        clear hx he
        go_wp2
        go_round
        case rel => exact ⟨m, by omega, rfl, fun j hj => by
          by_cases e : j = m
          · subst e; rw [List.getElem?_eq_getElem hm]; intro h; injection h with h; exact unhide HX h
          · exact unhide HNo j (by omega)⟩
        case measure => simp [intOf]

set_option maxHeartbeats 400000 in
theorem last_is (b o n c : Nat) (bs : List UInt8) (x : UInt8) (X r : Int) (w : World) (hX : (x.toNat : Int) = X) (hn : bs.length = n) (hs : n ≤ 65536) (hc : Hid (Seg w b o bs)) (hr : Hid (LastAt bs x r)) :
    Calls Try.prog 24 #[.slice (some ⟨b, o, none⟩) n c, .int .u8 X] w fun e w' => e = .returned (.int .i64 r) ∧ w' = w := by
  subst hX
  have HN := hide hn
  clear hn
  go_enter Try.func24, Try.ntmps24
  go_wp2_with (go_at_call 32; refine (last32 _ _ _ _ bs x r _ (unhide HN) hs hc hr).mono ?_; rintro e w1 ⟨rfl, rfl⟩)
  go_ret
  exact ⟨rfl, rfl⟩

set_option maxHeartbeats 400000 in
theorem last_zero (a : Option Addr) (c : Nat) (X : Int) (w : World) :
    Calls Try.prog 24 #[.slice a 0 c, .int .u8 X] w fun e w' => e = .returned (.int .i64 (-1)) ∧ w' = w := by
  go_enter Try.func24, Try.ntmps24
  go_wp2_with (go_at_call 32; go_in)
  refine wp_loop_rounds 1 ?_
  rw [rounds_succ]
  go_wp2_with fail
  go_ret
  exact ⟨rfl, rfl⟩

/-- bytes as the contracts of the library want them -/
def nums (bs : List UInt8) : List Int := bs.map fun b => (b.toNat : Int)
theorem nums_len (bs : List UInt8) : (nums bs).length = bs.length := by simp [nums]
theorem bytesOf_nums (bs : List UInt8) : Lib.bytesOf (nums bs) = bs := by
  unfold Lib.bytesOf nums
  rw [List.map_map]
  conv => rhs; rw [← List.map_id bs]
  apply List.map_congr_left
  intro b _
  simp
theorem nums_at {w : World} {b o : Nat} {bs : List UInt8} (h : Seg w b o bs) (i : Nat) (hi : i < bs.length) : w.cell? ⟨b, o + i, none⟩ = some (.int .u8 ((nums bs).getD i 0)) := by
  rw [h i (bs[i]'hi) (List.getElem?_eq_getElem hi)]
  simp [nums, List.getD, List.getElem?_eq_getElem hi]
theorem nums_range (bs : List UInt8) : ∀ x ∈ nums bs, 0 ≤ x ∧ x < 256 := by
  intro x hx
  unfold nums at hx
  obtain ⟨b, _, rfl⟩ := List.mem_map.1 hx
  have := b.toNat_lt
  omega

theorem count_one (b o n c b2 o2 d : Nat) (bs : List UInt8) (x : UInt8) (r : Int) (w : World) (hn : bs.length = n) (hc : Hid (Seg w b o bs)) (hx : w.cell? ⟨b2, o2, none⟩ = some (.int .u8 (x.toNat : Int))) (hr : Hid ((bs.count x : Int) = r)) :
    Calls Try.prog 23 #[.slice (some ⟨b, o, none⟩) n c, .slice (some ⟨b2, o2, none⟩) 1 d] w fun e w' => e = .returned (.int .i64 r) ∧ w' = w := by
  have h := Try.bytes_Count_one_at ⟨b, o, none⟩ n c b2 o2 d (nums bs) (x.toNat : Int) w (by rw [nums_len]; exact hn) (fun i hi => by rw [Go.WideShapes.add_plain]; exact nums_at (unhide hc) i (by omega)) hx
  rw [bytesOf_nums] at h
  have e : ((x.toNat : Int)).toNat.toUInt8 = x := by simp
  rw [e] at h
  rw [← unhide hr]
  exact h

theorem count_two (b o n c b2 o2 d : Nat) (bs : List UInt8) (m r : Int) (w : World) (hn : bs.length = n) (hs : n ≤ 65536) (hnc : n ≤ c) (hc : Hid (Seg w b o bs)) (hx : Hid (Seg w b2 o2 [13, 10])) (hm : w.cell? ⟨0, 0, none⟩ = some (.int .i64 m)) (hr : Hid ((cnt2 bs : Int) = r)) :
    Calls Try.prog 23 #[.slice (some ⟨b, o, none⟩) n c, .slice (some ⟨b2, o2, none⟩) 2 d] w fun e w' => e = .returned (.int .i64 r) ∧ ∃ q, w' = w.drewN q := by
  have h := Try.bytes_Count_at ⟨b, o, none⟩ ⟨b2, o2, none⟩ n c 2 d (nums bs) (nums [13, 10]) m w (by rw [nums_len]; exact hn) rfl (nums_range _) (nums_range _) (fun i hi => by rw [Go.WideShapes.add_plain]; exact nums_at (unhide hc) i (by omega)) (fun i hi => by rw [Go.WideShapes.add_plain]; exact nums_at (unhide hx) i (by simpa using hi)) hnc (by omega) (by omega) (by omega) hm
  rw [bytesOf_nums, bytesOf_nums, count_pair _ _ (Nat.le_refl _)] at h
  rw [← unhide hr]
  exact h

theorem suffix_cr (bs : List UInt8) : Lib.hasSuffix bs [13] = (bs[bs.length - 1]? == some 13) := by
  unfold Lib.hasSuffix
  rw [Bool.eq_iff_iff, List.isSuffixOf_iff_suffix, beq_iff_eq]
  constructor
  · rintro ⟨l, rfl⟩
    simp
  · intro h
    obtain ⟨hlt, e⟩ := List.getElem?_eq_some_iff.1 h
    refine ⟨bs.take (bs.length - 1), ?_⟩
    have h2 : bs.drop (bs.length - 1) = [13] := by
      rw [List.drop_eq_getElem_cons hlt, e, List.drop_of_length_le (by omega)]
    rw [← h2]; exact List.take_append_drop _ _

theorem suffix_is (b o n c b2 o2 d : Nat) (bs : List UInt8) (r : Bool) (w : World) (hn : bs.length = n) (hs : n ≤ 65536) (hnc : n ≤ c) (hc : Hid (Seg w b o bs)) (hx : w.cell? ⟨b2, o2, none⟩ = some (.int .u8 13)) (hr : Hid ((bs[n - 1]? == some 13) = r)) :
    Calls Try.prog 22 #[.slice (some ⟨b, o, none⟩) n c, .slice (some ⟨b2, o2, none⟩) 1 d] w fun e w' => e = .returned (.bool r) ∧ w' = w := by
  have h := Try.bytes_HasSuffix_all (some ⟨b, o, none⟩) (some ⟨b2, o2, none⟩) n c 1 d (nums bs) [13] w (by rw [nums_len]; exact hn) rfl hnc (by omega)
    (fun _ => ⟨b, o, rfl, fun i hi => nums_at (unhide hc) i (by omega)⟩)
    (fun _ => ⟨b2, o2, rfl, fun i hi => by obtain rfl : i = 0 := by omega
                                           exact hx⟩)
  rw [bytesOf_nums, show Lib.bytesOf [13] = [13] from rfl, suffix_cr, hn, unhide hr] at h
  exact h

theorem suffix_zero (a : Option Addr) (c b2 o2 d : Nat) (w : World) (hx : w.cell? ⟨b2, o2, none⟩ = some (.int .u8 13)) :
    Calls Try.prog 22 #[.slice a 0 c, .slice (some ⟨b2, o2, none⟩) 1 d] w fun e w' => e = .returned (.bool false) ∧ w' = w :=
  Try.bytes_HasSuffix_all a (some ⟨b2, o2, none⟩) 0 c 1 d [] [13] w rfl rfl (Nat.zero_le _) (by omega) (Lib.BytesIn.nil _ _ _)
    (fun _ => ⟨b2, o2, rfl, fun i hi => by obtain rfl : i = 0 := by omega
                                           exact hx⟩)

theorem rune_is (b o n c : Nat) (bs : List UInt8) (r : Int) (w : World) (hn : bs.length = n) (hs : n ≤ 65536) (hnc : n ≤ c) (hc : Hid (Seg w b o bs)) (hr : Hid ((Lib.runeCount ⟨bs.toArray⟩ : Int) = r)) :
    Calls Try.prog 25 #[.slice (some ⟨b, o, none⟩) n c] w fun e w' => e = .returned (.int .i64 r) ∧ Below w.heap.size w w' := by
  have hsz : (⟨bs.toArray⟩ : ByteArray).size = n := by rw [← hn, ← len_of]
  have h := Try.utf8_RuneCount ⟨bs.toArray⟩ b o c w (by omega) (fun j hj => by
    have hj' : j < bs.length := by omega
    rw [unhide hc j (bs[j]'hj') (List.getElem?_eq_getElem hj'), get_of _ _ hj]
    rfl) (by omega)
  rw [hsz] at h
  rw [← unhide hr]
  refine h.mono fun e w' ⟨h1, h2⟩ => ⟨h1, ?_⟩
  rcases h2 with rfl | ⟨t, pos, rfl⟩
  · exact Below.refl _ _
  · exact (Below.refl _ _).alloc (Nat.le_refl _) _

theorem rune_nil (w : World) : Calls Try.prog 25 #[.slice none 0 0] w fun e w' => e = .returned (.int .i64 0) ∧ w' = w := Try.utf8_RuneCount_nil w

theorem count_one_nil (b2 o2 d : Nat) (x : Int) (w : World) (hx : w.cell? ⟨b2, o2, none⟩ = some (.int .u8 x)) :
    Calls Try.prog 23 #[.slice none 0 0, .slice (some ⟨b2, o2, none⟩) 1 d] w fun e w' => e = .returned (.int .i64 0) ∧ w' = w := Try.bytes_Count_one_nil b2 o2 d x w hx
theorem count_two_nil (a : Option Addr) (d : Nat) (w : World) :
    Calls Try.prog 23 #[.slice none 0 0, .slice a 2 d] w fun e w' => e = .returned (.int .i64 0) ∧ w' = w := Try.bytes_Count_nil a 2 d w (by omega) (by omega)
end Go.Proofs.Qxb6003688a
