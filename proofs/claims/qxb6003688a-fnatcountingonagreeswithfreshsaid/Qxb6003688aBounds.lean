import Derived.Test.Qxb6003688aClone32
import Derived.Test.Qxb6003688aWalk
import Derived.Deep.DeepAppendRoom
import Derived.OwnWalk
namespace Go.Proofs.Qxb6003688a
open Go.RowKit Plain

theorem Try.info3 : (Try.prog.info? 3).map (fun i => (i.zero, i.size, i.bytes)) = some (some (.int .i64 0), 1, 8) := by kernel_rfl

def ints (xs : List Nat) : List Value := xs.map fun (x : Nat) => Value.int .i64 (x : Int)
theorem ints_len (xs : List Nat) : (ints xs).length = xs.length := by simp [ints]
theorem ints_add (xs : List Nat) (x : Nat) : ints xs ++ [Value.int .i64 (x : Int)] = ints (xs ++ [x]) := by simp [ints]

/-- the places at which characters begin -/
def Starts (s : ByteArray) (xs : List Nat) : Prop := ∀ x ∈ xs, x ≤ s.size ∧ sk s x = 0

/-- the loop's state -/
def BSt (w : World) (s : ByteArray) (v t : Value) (wr : World) : Prop :=
  ∃ (i : Nat) (xs : List Nat), i ≤ s.size ∧ sk s i = 0 ∧ xs.length ≤ i ∧ Starts s xs ∧ v = .slice (some ⟨w.heap.size, 0, none⟩) xs.length (s.size + 1) ∧ t = .int .i64 i ∧
    wr.ownsRow w.heap.size 3 1 (.slice (some ⟨w.heap.size, 0, none⟩) xs.length (s.size + 1)) xs.length (ints xs) ∧ Below w.heap.size w wr

/-- the result -/
def BEnd (w : World) (s : ByteArray) (e : Ending) (w' : World) : Prop :=
  ∃ xs : List Nat, e = .returned (.slice (some ⟨w.heap.size, 0, none⟩) xs.length (s.size + 1)) ∧ 0 < xs.length ∧ xs.length ≤ s.size + 1 ∧ Starts s xs ∧ w.heap.size < w'.heap.size ∧ Below w.heap.size w w' ∧
    ∀ j (h : j < xs.length), w'.cell? ⟨w.heap.size, j, none⟩ = some (.int .i64 (xs[j]'h : Nat))

theorem wd_pos {s : ByteArray} {i : Nat} (h : i < s.size) : 1 ≤ wd s i ∧ i + wd s i ≤ s.size := by
  have := decode_pass s i h
  exact ⟨this.1, this.2.1⟩

set_option maxHeartbeats 1600000 in
theorem bounds_is (a : Option Addr) (s : ByteArray) (w : World) (hs : s.size ≤ 65536) (ht : (a = none ∧ s.size = 0) ∨ ∃ B, a = some ⟨B, 0, none⟩ ∧ B < w.heap.size ∧ Src w B s) :
    Calls Try.prog 15 #[.slice a s.size s.size] w fun e w' => BEnd w s e w' := by
  obtain ⟨i0, hi, hz0, hz1, hz2⟩ := info_parts Try.info3
  have HT := hide ht
  clear ht
  go_enter Try.func15, Try.ntmps15
  go_wp2_with (at_make; refine wpList_make_own _ rfl _ _ 36 rfl w.heap.size 3 i0 (.int .i64 0) 1 Try.underlying36 hi hz0 hz1 _ _ _ (s.size + 1) rfl rfl (by simp) (by rw [hz2]; omega) (by unfold maxLen; omega) (Nat.le_refl _) ?_; intro w1 hown hgrow)
  have HS := hide (show BSt w s (.slice (some ⟨w.heap.size, 0, none⟩) 0 (s.size + 1)) (.int .i64 0) w1 from
    ⟨0, [], Nat.zero_le _, rfl, Nat.le_refl _, fun x hx => by simp at hx, rfl, rfl, hown, (Below.refl w.heap.size w).grown hgrow (Nat.le_refl _) (by simp)⟩)
  clear hown hgrow
  go_loopw [3, 4] (fun v t wr => BSt w s v t wr) (fun _ t _ => s.size - (intOf t).toNat)
  case atStart => exact unhide HS
  case round =>
    obtain ⟨i, xs, hi1, hsk, hxi, hst, rfl, rfl, hown, hbel⟩ := hrel
    clear HS
    have HO := hide hown
    have HB := hide hbel
    have HSK := hide hsk
    have HX := hide hst
    have hwr := hbel.size
    clear hown hbel hsk hst
    by_cases hlt : i < s.size
    · rcases unhide HT with ⟨_, hz⟩ | ⟨B, rfl, hB, hsrc⟩
      · omega
      · have HSR := hide hsrc
        clear hsrc
        have hw := wd_pos hlt
        go_wp2_with (first
          | (at_builtin; refine wpList_append_own_spare _ rfl (.tmp 13) (.tmp 15) 36 rfl w.heap.size 3 i0 1 Try.underlying36 hi hz1 w.heap.size xs.length (s.size + 1) _ rfl ((unhide HO).alloc _) ⟨wr.heap.size, 0, none⟩ 1 1 [.int .i64 i] rfl rfl (cell_one_new _ _ _) (by intro u hu; simp at hu; subst hu; rfl) (by omega) ?_; intro w2 hown2 hgrow2)
          | fail)
        have HB2 := hide (((unhide HB).alloc hwr (.cells #[.int .i64 i] 3)).grown hgrow2 (by simp; omega) (fun k hk => by injection hk with hk; omega))
        have HO2 := hide hown2
        clear hown2 hgrow2
        refine (runelen_is B s i (wd s i : Nat) w2 hs hlt (hide fun j hj => ((unhide HB2).cell (p := ⟨B, j, none⟩) hB).trans (unhide HSR j hj)) (hide rfl)).mono ?_
        rintro e w3 ⟨rfl, rfl⟩
        go_wp2
        go_roundw
        case rel =>
          refine ⟨i + wd s i, xs ++ [i], by omega, sk_next (unhide HSK) hlt, by simp; omega, ?_, by simp, by go_num, ?_, unhide HB2⟩
          · intro x hx
            rw [List.mem_append] at hx
            rcases hx with hx | hx
            · exact unhide HX x hx
            · obtain rfl : x = i := by simpa using hx
              exact ⟨hi1, unhide HSK⟩
          · rw [← ints_add, List.length_append]; exact unhide HO2
        case measure => simp [intOf]; omega
    · obtain rfl : i = s.size := by omega
      go_wp2_with (first
        | (at_builtin; refine wpList_append_own_spare _ rfl (.tmp 22) (.tmp 25) 36 rfl w.heap.size 3 i0 1 Try.underlying36 hi hz1 w.heap.size xs.length (s.size + 1) _ rfl ((unhide HO).alloc _) ⟨wr.heap.size, 0, none⟩ 1 1 [.int .i64 s.size] rfl rfl (cell_one_new _ _ _) (by intro u hu; simp at hu; subst hu; rfl) (by omega) ?_; intro w2 hown2 hgrow2)
        | fail)
      have HB2 := hide (((unhide HB).alloc hwr (.cells #[.int .i64 s.size] 3)).grown hgrow2 (by simp; omega) (fun k hk => by injection hk with hk; omega))
      have HO2 := hide hown2
      clear hown2 hgrow2
      go_ret
      refine ⟨xs ++ [s.size], by simp, by simp, by simp; omega, ?_, ?_, unhide HB2, fun j hj => ?_⟩
      · intro x hx
        rw [List.mem_append] at hx
        rcases hx with hx | hx
        · exact unhide HX x hx
        · obtain rfl : x = s.size := by simpa using hx
          exact ⟨Nat.le_refl _, unhide HSK⟩
      · rcases (unhide HO2).2 with ⟨h', _⟩ | ⟨g', cap', cur, h', _, hg, _⟩
        · simp at h'
        · simp only [Value.slice.injEq, Option.some.injEq, Addr.mk.injEq, and_true, true_and] at h'
          obtain ⟨rfl, rfl⟩ := h'
          exact (Array.getElem?_eq_some_iff.1 hg).1
      · rw [(unhide HO2).cellAt j (by simpa using hj), ints_add]
        unfold ints
        rw [List.getElem?_map, List.getElem?_eq_getElem hj]
        rfl
end Go.Proofs.Qxb6003688a
