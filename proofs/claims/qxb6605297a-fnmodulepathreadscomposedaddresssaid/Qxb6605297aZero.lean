import Derived.Test.Qxb6605297aMainA
namespace Go.Proofs.Qxb6605297a
open Go.RowKit

theorem bytes_zero (a : Option Addr) (cap : Nat) (w : World) :
    Calls Try.prog 8 #[.slice a 0 cap] w fun e w' => e = .returned (.bool true) ∧ w' = w := by
  go_enter Try.func8, Try.ntmps8
  go_wp2_with fail
  refine wp_loop_rounds 1 ?_
  rw [rounds_succ]
  go_wp2_with fail
  go_ret
  exact ⟨rfl, rfl⟩

theorem zz_zero (w : World) : Calls Try.prog 6 #[.string ⟨#[]⟩] w fun e w' => e = .returned (.string ⟨#[]⟩) ∧ Below w.heap.size w w' :=
  zz_is ⟨#[]⟩ [] w rfl (by decide) (fun c hc => by simp at hc) (by decide)

set_option maxRecDepth 100000 in
set_option maxHeartbeats 1600000 in
theorem main_nil (w : World) : Calls Try.prog 4 #[.slice none 0 0] w fun e w' => e = .returned (.bool true) ∧ Below w.heap.size w w' := by
  have hnil := fun (w : World) (l c : Nat) => run_neq_slice_nil (P := Try.prog) w 24 28 none l c Try.underlying24
  obtain ⟨i5, hi, hz0, hz1, hz2⟩ := info_parts Try.info5
  go_enter Try.func4, Try.ntmps4
  go_wp2_with fail
  refine (bytes_zero _ _ _).mono ?_
  rintro e w1 ⟨rfl, rfl⟩
  go_wp2_with fail
  refine wp_loop_rounds 1 ?_
  rw [rounds_succ]
  go_wp2_with fail
  refine wp_loop_rounds 1 ?_
  rw [rounds_succ]
  go_wp2_with (first
    | (at_make; refine wpList_make_own _ rfl _ _ 29 rfl w1.heap.size 5 i5 (.int .u8 0) 1 Try.underlying29 hi hz0 hz1 _ _ _ 0 rfl rfl (by simp) (by rw [hz2]; omega) (by unfold maxLen; omega) (Nat.le_refl _) ?_; intro wa hownA hgrowA)
    | (at_make; refine wpList_make_own _ rfl _ _ 29 rfl w1.heap.size 5 i5 (.int .u8 0) 1 Try.underlying29 hi hz0 hz1 _ _ _ 0 rfl rfl (by simp) (by rw [hz2]; omega) (by unfold maxLen; omega) hgrowA.size ?_; intro wb hownB hgrowB))
  have HOA := hide (show Own wb w1.heap.size w1.heap.size 0 [] from Own.keep (w := wa) hownA (hgrowB.block _ (own_lt hownA) (by simp)))
  have HOB := hide (show Own wb w1.heap.size wa.heap.size 0 [] from hownB)
  have HBB := hide (((Below.refl w1.heap.size w1).grown hgrowA (Nat.le_refl _) (by simp)).grown hgrowB hgrowA.size (by simp))
  have hs1 : (convert 29 9 (.slice (some ⟨w1.heap.size, 0, none⟩) 0 0)).run Try.prog wb.drew = .ok (.string ⟨#[]⟩) wb.drew := string_of (l := []) (unhide HOA)
  have hs2 : (convert 29 9 (.slice (some ⟨wa.heap.size, 0, none⟩) 0 0)).run Try.prog wb.drew = .ok (.string ⟨#[]⟩) wb.drew := string_of (l := []) (unhide HOB)
  clear hownA hgrowA hownB hgrowB
  refine wp_loop_rounds 1 ?_
  rw [rounds_succ]
  go_wp2_with fail
  go_region_with (go_at_call 6; refine (zz_zero _).mono ?_; rintro e w20 ⟨rfl, hb20⟩; have HB20 := hide hb20; have hs3 : (convert 29 9 (.slice (some ⟨wa.heap.size, 0, none⟩) 0 0)).run Try.prog w20 = .ok (.string ⟨#[]⟩) w20 := (string_of (l := []) ((unhide HOB).keep (w' := w20) ((unhide HB20).block wa.heap.size (unhide HOB).lt))); clear hb20)
  all_goals (go_wp2_with fail)
  all_goals (go_ret)
  all_goals (exact ⟨rfl, (unhide HBB).drew.trans ((unhide HB20).mono (unhide HBB).size)⟩)

set_option maxRecDepth 100000 in
set_option maxHeartbeats 1600000 in
theorem main_empty (x : Addr) (cap : Nat) (w : World) : Calls Try.prog 4 #[.slice (some x) 0 cap] w fun e w' => e = .returned (.bool true) ∧ Below w.heap.size w w' := by
  have hnil := fun (w : World) (l c : Nat) => run_neq_slice_nil (P := Try.prog) w 24 28 (some x) l c Try.underlying24
  obtain ⟨i5, hi, hz0, hz1, hz2⟩ := info_parts Try.info5
  obtain ⟨i0, hj, hy0, hy1, hy2⟩ := info_parts Try.info28
  go_enter Try.func4, Try.ntmps4
  go_wp2_with fail
  refine (bytes_zero _ _ _).mono ?_
  rintro e w1 ⟨rfl, rfl⟩
  go_wp2_with fail
  refine wp_loop_rounds 1 ?_
  rw [rounds_succ]
  go_wp2_with fail
  refine wp_loop_rounds 1 ?_
  rw [rounds_succ]
  go_wp2_with (at_make; refine wpList_make_full _ rfl _ _ 24 rfl w1.heap.size 28 i0 _ 4 Try.underlying24 hj hy0 hy1 _ _ _ _ 0 rfl rfl rfl rfl (by rw [hy2]; omega) (by unfold maxLen; omega) (Nat.le_refl _) ?_; intro w2 hown hgrow)
  have HB2 := hide ((Below.refl w1.heap.size w1).grown hgrow (Nat.le_refl _) (by simp))
  clear hown hgrow
  refine wp_loop_rounds 1 ?_
  rw [rounds_succ]
  go_wp2_with (first
    | (at_make; refine wpList_make_own _ rfl _ _ 29 rfl w2.heap.size 5 i5 (.int .u8 0) 1 Try.underlying29 hi hz0 hz1 _ _ _ 0 rfl rfl (by simp) (by rw [hz2]; omega) (by unfold maxLen; omega) (Nat.le_refl _) ?_; intro wa hownA hgrowA)
    | (at_make; refine wpList_make_own _ rfl _ _ 29 rfl w2.heap.size 5 i5 (.int .u8 0) 1 Try.underlying29 hi hz0 hz1 _ _ _ 0 rfl rfl (by simp) (by rw [hz2]; omega) (by unfold maxLen; omega) hgrowA.size ?_; intro wb hownB hgrowB))
  have HOA := hide (show Own wb w2.heap.size w2.heap.size 0 [] from Own.keep (w := wa) hownA (hgrowB.block _ (own_lt hownA) (by simp)))
  have HOB := hide (show Own wb w2.heap.size wa.heap.size 0 [] from hownB)
  have HBB := hide (((Below.refl w2.heap.size w2).grown hgrowA (Nat.le_refl _) (by simp)).grown hgrowB hgrowA.size (by simp))
  have hs1 : (convert 29 9 (.slice (some ⟨w2.heap.size, 0, none⟩) 0 0)).run Try.prog wb.drew = .ok (.string ⟨#[]⟩) wb.drew := string_of (l := []) (unhide HOA)
  have hs2 : (convert 29 9 (.slice (some ⟨wa.heap.size, 0, none⟩) 0 0)).run Try.prog wb.drew = .ok (.string ⟨#[]⟩) wb.drew := string_of (l := []) (unhide HOB)
  clear hownA hgrowA hownB hgrowB
  refine wp_loop_rounds 1 ?_
  rw [rounds_succ]
  go_wp2_with fail
  go_region_with (go_at_call 6; refine (zz_zero _).mono ?_; rintro e w20 ⟨rfl, hb20⟩; have HB20 := hide hb20; have hs3 : (convert 29 9 (.slice (some ⟨wa.heap.size, 0, none⟩) 0 0)).run Try.prog w20 = .ok (.string ⟨#[]⟩) w20 := (string_of (l := []) ((unhide HOB).keep (w' := w20) ((unhide HB20).block wa.heap.size (unhide HOB).lt))); clear hb20)
  all_goals (go_wp2_with fail)
  all_goals (go_ret)
  all_goals (exact ⟨rfl, (unhide HB2).trans (((unhide HBB).mono (unhide HB2).size).drew.trans ((unhide HB20).mono (Nat.le_trans (unhide HB2).size (unhide HBB).size)))⟩)
end Go.Proofs.Qxb6605297a
