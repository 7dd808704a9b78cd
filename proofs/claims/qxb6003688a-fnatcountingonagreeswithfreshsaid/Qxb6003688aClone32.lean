import Derived.Test.Qxb6003688aClone
namespace Go.Proofs.Qxb6003688a
open Go.RowKit Plain

theorem Try.info38 : (Try.prog.info? 38).map (fun i => (i.zero, i.size, i.bytes)) = some (some (.int .u32 0), 1, 4) := by kernel_rfl

set_option maxHeartbeats 800000 in
theorem clone32_some (b off len cap : Nat) (zs : List Int) (w : World) (hlen : len ≤ 1048576) (hz : len ≤ zs.length)
    (hc : ∀ i, i < len → w.cell? ⟨b, off + i, none⟩ = some (.int .u32 (zs.getD i 0))) (hb : 0 < len → b < w.heap.size) :
    Calls Try.prog 14 #[.slice (some ⟨b, off, none⟩) len cap] w fun e w' => e = .returned (.slice (some ⟨w.heap.size, 0, none⟩) len len) ∧ Below w.heap.size w w' ∧
      w.heap.size < w'.heap.size ∧ (∀ j, j < len → w'.cell? ⟨w.heap.size, j, none⟩ = some (.int .u32 (zs.getD j 0))) := by
  have hnil := fun w n c => Lib.run_eql_slice_nil (P := Try.prog) w 33 38 (some ⟨b, off, none⟩) n c 0 0 Try.underlying33
  obtain ⟨i0, hi, hz0, hz1, hz2⟩ := info_parts Try.info38
  have HC := hide hc
  have HB := hide hb
  clear hc hb
  go_enter Try.func14, Try.ntmps14
  go_wp2_with (at_make; refine wpList_make_full _ rfl _ _ 33 rfl w.heap.size 38 i0 (.int .u32 0) 1 Try.underlying33 hi hz0 hz1 _ _ _ _ len rfl rfl rfl rfl (by rw [hz2]; omega) (by unfold maxLen; omega) (Nat.le_refl _) ?_; intro w1 hown hgrow)
  have hown0 : w1.ownsRow w.heap.size 38 1 (.slice (some ⟨w.heap.size, 0, none⟩) len len) len (filled .u32 zs 0 len) := by
    have e : (madeCells (Value.int .u32 0).cells (len * 1)).toList = filled .u32 zs 0 len := by
      rw [Nat.mul_one]
      show (madeCells #[Value.int .u32 0] len).toList = _
      rw [toList_madeCells_one]
      simp [filled]
    rw [← e]; exact hown
  have hbel0 := (Below.refl w.heap.size w).grown hgrow (Nat.le_refl _) (by simp)
  have HO := hide hown0
  have HL := hide hbel0
  clear hown hgrow hown0 hbel0
  go_loopw [4] (fun t wr => ∃ k : Nat, k ≤ len ∧ t = .int .i64 k ∧ wr.ownsRow w.heap.size 38 1 (.slice (some ⟨w.heap.size, 0, none⟩) len len) len (filled .u32 zs k len) ∧ Below w.heap.size w wr) (fun t _ => len - (intOf t).toNat)
  case atStart => exact ⟨0, Nat.zero_le _, rfl, unhide HO, unhide HL⟩
  case round =>
    obtain ⟨k, hk, rfl, hown, hbel⟩ := hrel
    clear HO HL
    have HB1 := hide hbel
    have HO1 := hide hown
    clear hown hbel
    by_cases hlt : k < len
    · have hcx : wr.cell? ⟨b, off + k, none⟩ = some (.int .u32 (zs.getD k 0)) := ((unhide HB1).cell (p := ⟨b, off + k, none⟩) (unhide HB (by omega))).trans (unhide HC k hlt)
      have hfl := filled_len (kd := .u32) (Nat.le_of_lt hlt) hz
      have hco : ∃ v, wr.cell? ⟨w.heap.size, k, none⟩ = some v := by
        rw [(unhide HO1).cellAt k (by omega)]
        exact ⟨_, List.getElem?_eq_getElem (by rw [hfl]; exact hlt)⟩
      obtain ⟨v0, hv0⟩ := hco
      have hfr := (unhide HO1).frozenAt k
      have HS := hide ((unhide HO1).stored k (.int .u32 (zs.getD k 0)))
      clear hfl
      go_wp2
      go_roundw
      case rel => exact ⟨k + 1, by omega, by go_num, by rw [← filled_set hlt hz]; exact (unhide HS).1, (unhide HB1).setCell (Nat.le_refl _) _⟩
      case measure => simp [intOf]; omega
    · have e : k = len := by omega
      subst e
      go_wp2
      go_ret
      exact ⟨rfl, unhide HB1, own_lt (unhide HO1), fun j hj => by rw [(unhide HO1).cellAt j (by omega), filled_at hz hj]⟩

set_option maxHeartbeats 400000 in
theorem clone32_zero (x : Addr) (cap : Nat) (w : World) : Calls Try.prog 14 #[.slice (some x) 0 cap] w fun e w' => e = .returned (.slice (some ⟨w.heap.size, 0, none⟩) 0 0) ∧ Below w.heap.size w w' ∧ w.heap.size < w'.heap.size := by
  have hnil := fun w n c => Lib.run_eql_slice_nil (P := Try.prog) w 33 38 (some x) n c 0 0 Try.underlying33
  obtain ⟨i0, hi, hz0, hz1, hz2⟩ := info_parts Try.info38
  go_enter Try.func14, Try.ntmps14
  go_wp2_with (at_make; refine wpList_make_full _ rfl _ _ 33 rfl w.heap.size 38 i0 (.int .u32 0) 1 Try.underlying33 hi hz0 hz1 _ _ _ _ 0 rfl rfl rfl rfl (by rw [hz2]; omega) (by unfold maxLen; omega) (Nat.le_refl _) ?_; intro w1 hown hgrow)
  have HL := hide ((Below.refl w.heap.size w).grown hgrow (Nat.le_refl _) (by simp))
  have HS := hide (own_lt hown)
  clear hown hgrow
  refine wp_loop_rounds 1 ?_
  rw [rounds_succ]
  go_wp2
  go_ret
  exact ⟨rfl, unhide HL, unhide HS⟩

set_option maxHeartbeats 400000 in
theorem clone32_nil (w : World) : Calls Try.prog 14 #[.slice none 0 0] w fun e w' => e = .returned (.slice none 0 0) ∧ w' = w := by
  have hnil := fun w n c => Lib.run_eql_slice_nil (P := Try.prog) w 33 38 none n c 0 0 Try.underlying33
  go_enter Try.func14, Try.ntmps14
  go_wp2
  go_ret
  exact ⟨rfl, rfl⟩
end Go.Proofs.Qxb6003688a
