import Derived.Test.Qxb6003688aProg
import Derived.Test.Qxb6003688aPlain
import Derived.WalkKit
import Derived.WalkSpells
namespace Go.Proofs.Qxb6003688a
open Go.RowKit Plain

theorem hide {p : Prop} (h : p) : Hid p := h
theorem unhide {p : Prop} (h : Hid p) : p := h
theorem ret_int {k : IntKind} {a b : Int} (h : a = b) : Ending.returned (.int k a) = .returned (.int k b) := by rw [h]
theorem Try.info5 : (Try.prog.info? 5).map (fun i => (i.zero, i.size, i.bytes)) = some (some (.int .u8 0), 1, 1) := by kernel_rfl

/-- the first k numbers written, the rest still zero -/
def filled (k : IntKind) (zs : List Int) (j n : Nat) : List Value := (zs.take j).map (Value.int k) ++ List.replicate (n - j) (.int k 0)

theorem filled_len {kd : IntKind} {zs : List Int} {j n : Nat} (h1 : j ≤ n) (h2 : n ≤ zs.length) : (filled kd zs j n).length = n := by
  unfold filled; simp; omega
theorem filled_set {kd : IntKind} {zs : List Int} {j n : Nat} (h1 : j < n) (h2 : n ≤ zs.length) : (filled kd zs j n).set j (.int kd (zs.getD j 0)) = filled kd zs (j + 1) n := by
  unfold filled
  have hl : ((zs.take j).map (Value.int kd)).length = j := by simp; omega
  rw [List.set_append, if_neg (by rw [hl]; omega), hl, Nat.sub_self]
  have e : n - j = (n - (j + 1)) + 1 := by omega
  rw [e, List.replicate_succ, List.set_cons_zero, List.take_succ_eq_append_getElem (by omega)]
  have hg : zs.getD j 0 = zs[j]'(by omega) := by simp [List.getD, List.getElem?_eq_getElem (show j < zs.length by omega)]
  rw [hg, List.map_append, List.append_assoc]; rfl
theorem filled_at {kd : IntKind} {zs : List Int} {n j : Nat} (h2 : n ≤ zs.length) (hj : j < n) : (filled kd zs n n)[j]? = some (.int kd (zs.getD j 0)) := by
  unfold filled
  rw [Nat.sub_self, List.replicate_zero, List.append_nil, List.getElem?_map, List.getElem?_take_of_lt hj, List.getElem?_eq_getElem (by omega)]
  simp [List.getD, List.getElem?_eq_getElem (show j < zs.length by omega)]

theorem own_lt {w : World} {base e size g n cap : Nat} {xs : List Value} (h : w.ownsRow base e size (.slice (some ⟨g, 0, none⟩) n cap) n xs) : g < w.heap.size := by
  rcases h.2 with ⟨h', _⟩ | ⟨g', cap', cur, h', _, hg, _⟩
  · simp at h'
  · simp only [Value.slice.injEq, Option.some.injEq, Addr.mk.injEq, and_true, true_and] at h'
    obtain ⟨rfl, rfl⟩ := h'
    exact (Array.getElem?_eq_some_iff.1 hg).1

set_option maxHeartbeats 800000 in
theorem clone_some (b off len cap : Nat) (zs : List Int) (w : World) (hlen : len ≤ 1048576) (hz : len ≤ zs.length)
    (hc : ∀ i, i < len → w.cell? ⟨b, off + i, none⟩ = some (.int .u8 (zs.getD i 0))) (hb : 0 < len → b < w.heap.size) :
    Calls Try.prog 8 #[.slice (some ⟨b, off, none⟩) len cap] w fun e w' => e = .returned (.slice (some ⟨w.heap.size, 0, none⟩) len len) ∧ Below w.heap.size w w' ∧
      w.heap.size < w'.heap.size ∧ (∀ j, j < len → w'.cell? ⟨w.heap.size, j, none⟩ = some (.int .u8 (zs.getD j 0))) := by
  have hnil := fun w n c => Lib.run_eql_slice_nil (P := Try.prog) w 22 5 (some ⟨b, off, none⟩) n c 0 0 Try.underlying22
  obtain ⟨i0, hi, hz0, hz1, hz2⟩ := info_parts Try.info5
  have HC := hide hc
  have HB := hide hb
  clear hc hb
  go_enter Try.func8, Try.ntmps8
  go_wp2_with (at_make; refine wpList_make_full _ rfl _ _ 22 rfl w.heap.size 5 i0 (.int .u8 0) 1 Try.underlying22 hi hz0 hz1 _ _ _ _ len rfl rfl rfl rfl (by rw [hz2]; omega) (by unfold maxLen; omega) (Nat.le_refl _) ?_; intro w1 hown hgrow)
  have hown0 : w1.ownsRow w.heap.size 5 1 (.slice (some ⟨w.heap.size, 0, none⟩) len len) len (filled .u8 zs 0 len) := by
    have e : (madeCells (Value.int .u8 0).cells (len * 1)).toList = filled .u8 zs 0 len := by
      rw [Nat.mul_one]
      show (madeCells #[Value.int .u8 0] len).toList = _
      rw [toList_madeCells_one]
      simp [filled]
    rw [← e]; exact hown
  have hbel0 := (Below.refl w.heap.size w).grown hgrow (Nat.le_refl _) (by simp)
  have HO := hide hown0
  have HL := hide hbel0
  clear hown hgrow hown0 hbel0
  go_loopw [4] (fun t wr => ∃ k : Nat, k ≤ len ∧ t = .int .i64 k ∧ wr.ownsRow w.heap.size 5 1 (.slice (some ⟨w.heap.size, 0, none⟩) len len) len (filled .u8 zs k len) ∧ Below w.heap.size w wr) (fun t _ => len - (intOf t).toNat)
  case atStart => exact ⟨0, Nat.zero_le _, rfl, unhide HO, unhide HL⟩
  case round =>
    obtain ⟨k, hk, rfl, hown, hbel⟩ := hrel
    clear HO HL
    have HB1 := hide hbel
    have HO1 := hide hown
    clear hown hbel
    by_cases hlt : k < len
    · have hcx : wr.cell? ⟨b, off + k, none⟩ = some (.int .u8 (zs.getD k 0)) := ((unhide HB1).cell (p := ⟨b, off + k, none⟩) (unhide HB (by omega))).trans (unhide HC k hlt)
      have hfl := filled_len (kd := .u8) (Nat.le_of_lt hlt) hz
      have hco : ∃ v, wr.cell? ⟨w.heap.size, k, none⟩ = some v := by
        rw [(unhide HO1).cellAt k (by omega)]
        exact ⟨_, List.getElem?_eq_getElem (by rw [hfl]; exact hlt)⟩
      obtain ⟨v0, hv0⟩ := hco
      have hfr := (unhide HO1).frozenAt k
      have HS := hide ((unhide HO1).stored k (.int .u8 (zs.getD k 0)))
      clear hfl
      go_wp2
      go_roundw
      case rel => exact ⟨k + 1, by omega, by go_num, by rw [← filled_set hlt hz]; exact (unhide HS).1, (unhide HB1).setCell (Nat.le_refl _) _⟩
      case measure => simp [intOf]; omega
    · have e : k = len := by omega
      subst e
      go_wp2
      go_ret
      exact ⟨rfl, unhide HB1, own_lt (unhide HO1), fun j hj => by rw [(unhide HO1).cellAt j (by omega), filled_at hz hj]⟩

set_option maxHeartbeats 400000 in
theorem clone_zero (x : Addr) (cap : Nat) (w : World) : Calls Try.prog 8 #[.slice (some x) 0 cap] w fun e w' => e = .returned (.slice (some ⟨w.heap.size, 0, none⟩) 0 0) ∧ Below w.heap.size w w' ∧ w.heap.size < w'.heap.size := by
  have hnil := fun w n c => Lib.run_eql_slice_nil (P := Try.prog) w 22 5 (some x) n c 0 0 Try.underlying22
  obtain ⟨i0, hi, hz0, hz1, hz2⟩ := info_parts Try.info5
  go_enter Try.func8, Try.ntmps8
  go_wp2_with (at_make; refine wpList_make_full _ rfl _ _ 22 rfl w.heap.size 5 i0 (.int .u8 0) 1 Try.underlying22 hi hz0 hz1 _ _ _ _ 0 rfl rfl rfl rfl (by rw [hz2]; omega) (by unfold maxLen; omega) (Nat.le_refl _) ?_; intro w1 hown hgrow)
  have HL := hide ((Below.refl w.heap.size w).grown hgrow (Nat.le_refl _) (by simp))
  have HS := hide (own_lt hown)
  clear hown hgrow
  refine wp_loop_rounds 1 ?_
  rw [rounds_succ]
  go_wp2
  go_ret
  exact ⟨rfl, unhide HL, unhide HS⟩

set_option maxHeartbeats 400000 in
theorem clone_nil (w : World) : Calls Try.prog 8 #[.slice none 0 0] w fun e w' => e = .returned (.slice none 0 0) ∧ w' = w := by
  have hnil := fun w n c => Lib.run_eql_slice_nil (P := Try.prog) w 22 5 none n c 0 0 Try.underlying22
  go_enter Try.func8, Try.ntmps8
  go_wp2
  go_ret
  exact ⟨rfl, rfl⟩
end Go.Proofs.Qxb6003688a
