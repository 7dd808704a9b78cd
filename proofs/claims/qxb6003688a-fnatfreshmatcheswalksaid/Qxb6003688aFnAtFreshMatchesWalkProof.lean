import Derived.Test.Qxb6003688aRows
import Derived.WalkKit
import Derived.ProofKit
import Derived.OpenShut
import Derived.ShutString
import Derived.ChangeOld
import Derived.Below
import Derived.HandedShaped
import Derived.Test.Qxb6003688aNew
namespace Go.Proofs.Qxb6003688a.fnAtFreshMatchesWalk
open Go.ChangeShapes Go.WideShapes Go.ChangeAt Go.RowKit
open Go.ChangeMaps (open_string shut_string)
set_option linter.unusedVariables false
open Plain

theorem own : ownKnob Try.prog.godebug = none := by kernel_rfl
theorem laidOut : laidOutB Try.prog = true := by kernel_rfl

/-- WHAT THE WALK IS TOLD OF A SLICE OF INTEGERS THAT CAME IN: it is nil; or it leads to a row of 'cap' cells, the numbers 'zs' (the first 'len' are its elements, the rest its spare room), each fitting its kind. -/
def IsRow (k : IntKind) (w : World) (a : Option Addr) (len cap : Nat) (zs : List Int) : Prop :=
  (a = none ∧ len = 0 ∧ cap = 0 ∧ zs = []) ∨
  ∃ x, a = some x ∧ len ≤ cap ∧ cap ≤ maxLen ∧ zs.length = cap ∧ (∀ i, i < zs.length → w.cell? (x.add i) = some (.int k (zs.getD i 0))) ∧ ∀ n ∈ zs, (Lit.int k n).wf = true

theorem row_len {k : IntKind} {w : World} {a : Option Addr} {len cap : Nat} {zs : List Int} (h : IsRow k w a len cap zs) : len ≤ maxLen := by
  rcases h with ⟨_, rfl, _⟩ | ⟨_, _, h1, h2, _⟩
  · exact Nat.zero_le _
  · exact Nat.le_trans h1 h2

/-! ### STEP 1: THE WALK -/
theorem clone_row (a0 : Option Addr) (len0 cap0 : Nat) (z0 : List Int) (w : World) (w0 : IsRow .u8 w a0 len0 cap0 z0) (hl : len0 ≤ 65536) :
    len0 ≤ z0.length ∧ Calls Try.prog 8 #[.slice a0 len0 cap0] w fun e w' => Cln w (bytesIn z0 len0) e w' := by
  rcases w0 with ⟨rfl, rfl, rfl, rfl⟩ | ⟨x, rfl, h1, h2, h3, h4, h5⟩
  · exact ⟨Nat.le_refl _, clone_none w⟩
  · exact ⟨by omega, clone_any x len0 cap0 z0 w (by omega) (by omega) h4 h5⟩

set_option maxRecDepth 100000 in
set_option maxHeartbeats 1600000 in
theorem walk (a0 : Option Addr) (len0 cap0 : Nat) (z0 : List Int) (a1 : Bool) (a2 : Int) (m : Int) (w : World) (hm : Max w m) (w0 : IsRow .u8 w a0 len0 cap0 z0) (w2 : (Lit.int .i64 a2).wf = true) (hcap : len0 ≤ maxLen) :
    Calls Try.prog 3 #[.slice a0 len0 cap0, .bool a1, .int .i64 a2] w fun e w' => e = .returned (.bool true) ∧ Below w.heap.size w w' := by
  by_cases hbig : 1048576 < len0
  · clear w0 hm w2
    unfold maxLen at hcap
    go_enter Try.func3, Try.ntmps3
    go_wp2_with (go_at_call 7; go_in)
    go_ret
    exact ⟨rfl, Below.refl _ _⟩
  by_cases hl : 65536 < len0
  · clear w0 hm w2
    go_enter Try.func3, Try.ntmps3
    go_wp2_with (go_at_call 7; go_in)
    go_ret
    exact ⟨rfl, Below.refl _ _⟩
  by_cases hneg : a2 < 0
  · clear w0 hm w2
    have hd : decide (a2 < 0) = true := decide_eq_true hneg
    go_enter Try.func3, Try.ntmps3
    go_wp2_with (go_at_call 7; go_in)
    go_ret
    exact ⟨rfl, Below.refl _ _⟩
  obtain ⟨off, rfl⟩ : ∃ n : Nat, a2 = n := ⟨a2.toNat, by omega⟩
  have hd : decide ((off : Int) < 0) = false := decide_eq_false hneg
  by_cases hgt : len0 < off
  · clear w0 hm w2
    have hd2 : decide (len0 < off) = true := decide_eq_true hgt
    go_enter Try.func3, Try.ntmps3
    go_wp2_with (go_at_call 7; go_in)
    go_ret
    exact ⟨rfl, Below.refl _ _⟩
  have hd2 : decide (len0 < off) = false := decide_eq_false hgt
  obtain ⟨hz, hcl⟩ := clone_row a0 len0 cap0 z0 w w0 (by omega)
  have hsz := bytesIn_size hz
  have HCL := hide hcl
  have HM := hide hm
  clear w0 hm w2 hcl
  generalize bytesIn z0 len0 = s at *
  subst hsz
  go_enter Try.func3, Try.ntmps3
  go_wp2_with (go_at_call 7; go_in)
  refine (unhide HCL).mono ?_
  rintro e w1 ⟨a', rfl, hb, ht⟩
  have HB := hide hb
  have HT := hide ht
  clear hb ht
  go_wp2_with fail
  refine (walk_any _ a' s a1 off _ (by omega) (by omega) (unhide HT)).mono ?_
  rintro e w2 ⟨⟨l, c, b, rfl, hend⟩, rfl⟩
  cases b with
  | false =>
    clear hend
    go_wp2_with fail
    go_ret
    exact ⟨rfl, unhide HB⟩
  | true =>
    obtain ⟨rfl, rfl, hsk⟩ := hend rfl
    have HSK := hide hsk
    clear hend hsk
    go_wp2_with fail
    refine (mode_is a1 _).mono ?_
    rintro e w3 ⟨rfl, rfl⟩
    go_wp2_with fail
    refine (new_is a' s.size (brOf a1) _).mono ?_
    rintro e w4 ⟨rfl, hb4, hc4⟩
    have HB4 := hide hb4
    have HC4 := hide hc4
    clear hb4 hc4
    go_wp2_with fail
    refine (at_is _ a' s a1 0 off m w4 (by omega) (by omega) (unhide HSK) rfl (pos_of (unhide HM) (unhide HB)) (max_of (unhide HM) (unhide HB) (unhide HB4)) ((unhide HT).below (unhide HB4)) (unhide HC4)).mono ?_
    rintro e w5 ⟨rfl, hb5, _⟩
    have HB5 := hide hb5
    clear hb5
    have e1 : (((nL s a1 off : Nat) : Int) + 1 == 1 + ((nL s a1 off : Nat) : Int)) = true := by rw [beq_iff_eq]; omega
    have e2 : (((nC s a1 off : Nat) : Int) + 1 == 1 + ((nC s a1 off : Nat) : Int)) = true := by rw [beq_iff_eq]; omega
    go_wp2_with fail
    go_ret
    exact ⟨rfl, (unhide HB).trans (((unhide HB4).mono (unhide HB).size).trans ((unhide HB5).mono (unhide HB).size))⟩

/-! ### THE ROW's STEP: WRITTEN OUT: LEAVE IT -/
set_option maxRecDepth 100000 in
theorem lifted (os : Os) (started : os.Started) (H : Type) (enc : TypeId × Value → H) :
    ReturnsInHanded {} Try.checked os 3 .any (Rows.fnAtFreshMatchesWalkSpec.pre6 enc Try.prog Try.f3 Rows.fnAtFreshMatchesWalkRow.domain false) (Rows.fnAtFreshMatchesWalkSpec.post enc Try.prog Try.f3 false true false false) := by
  refine returnsInHanded_of_change_shaped (C := Try.checked) own started (by kernel_rfl) Try.func3
    (ChangeSpec.witness6 (enc := enc) (C := Try.checked) false ⟨#[], #[.slice none 0 0, .bool false, .int .i64 0], []⟩ 8 (by kernel_rfl) (by kernel_rfl) (by kernel_rfl) (by kernel_rfl)) ?_
  intro W base args ds gs before hval0 hW hcnd _ hsh _
  obtain ⟨m, hm⟩ := Try.laysM185.s1_3 W hsh
  have hval : ∀ (j : Nat) t v, Try.f3.params[j]? = some t → args[j]? = some v → Value.okWide Try.prog W .any base t v := hval0
  have hW' := hW
  obtain ⟨p, q, hA0, hV, rfl, hfz, hnd⟩ := hW
  have hA : DataW.TrodAll enc Try.prog W 0 (fun _ => true) true Try.f3.params.toList args.toList ds p := hA0
  rw [Try.params3] at hA hval
  obtain ⟨v0, vs0, d0, ds0, p0, q0, hargs, rfl, rfl, h0, r0⟩ := trodAll_cons hA
  obtain ⟨v1, vs1, d1, ds1, p1, q1, rfl, rfl, rfl, h1, r1⟩ := trodAll_cons r0
  obtain ⟨v2, vs2, d2, ds2, p2, q2, rfl, rfl, rfl, h2, r2⟩ := trodAll_cons r1
  obtain ⟨rfl, rfl, rfl⟩ := trodAll_nil r2
  obtain rfl : args = #[v0, v1, v2] := by cases args; simp_all
  obtain ⟨rfl, rfl⟩ := trodVars_none hV
  obtain ⟨a0, len0, cap0, rfl⟩ := okWide_slice Try.underlying22 (hval 0 22 v0 rfl rfl)
  have k0 := h0
  have lt0 : ∀ x ∈ p0, x.block < W.heap.size := by obtain ⟨m, hm⟩ := k0; exact DataW.trod_lt m _ _ _ hm
  obtain ⟨z0, w0⟩ : ∃ zs, IsRow .u8 W a0 len0 cap0 zs := by
    obtain ⟨fuel, hf⟩ := h0
    rcases open_ints Try.underlying22 Try.underlying5 (by kernel_rfl) hf with ⟨hcs, _⟩ | ⟨x, l, c, zs, hcs, _, hl, hm, hz, _, hcell, hwz⟩
    · simp [Value.cells] at hcs
      obtain ⟨rfl, rfl, rfl⟩ := hcs
      exact ⟨[], .inl ⟨rfl, rfl, rfl, rfl⟩⟩
    · simp [Value.cells] at hcs
      obtain ⟨rfl, rfl, rfl⟩ := hcs
      exact ⟨zs, .inr ⟨_, rfl, hl, hm, by simpa using hz, hcell, hwz⟩⟩
  obtain ⟨a1, rfl, rfl, rfl⟩ := open_bool Try.underlying4 (hval 1 4 v1 rfl rfl) h1
  obtain ⟨a2, rfl, rfl, rfl, w2⟩ := open_int Try.underlying3 (hval 2 3 v2 rfl rfl) h2
  clear hA0 hval0
  refine (walk a0 len0 cap0 z0 a1 a2 m W hm w0 w2 (row_len w0)).mono fun e W' ⟨he, bel⟩ => ?_
  subst he
  exact ⟨_, rfl, _, _, _, [], _, [], hW', trodAll_mk1 (shut_bool Try.underlying4 _), (trodAll_cons_mk (Below.trod laidOut (by kernel_rfl) (of_decide_eq_true (by kernel_rfl)) k0 bel lt0) (trodAll_cons_mk (shut_bool Try.underlying4 _) (trodAll_cons_mk (shut_int Try.underlying3 w2) trodAll_mk0))), rfl, bel.frame _, fun h => by cases h⟩

theorem over : Rows.fnAtFreshMatchesWalkRow.holds Try.pinned (OpenSpec.ofChange Rows.fnAtFreshMatchesWalkSpec) :=
  OpenClaim.holds_of_wide 3 Try.f3 rfl rfl rfl rfl rfl rfl rfl ⟨rfl, rfl, rfl, rfl, rfl⟩ rfl rfl rfl rfl rfl (by kernel_rfl) Try.func3 (by kernel_rfl)
    (of_decide_eq_true (by kernel_rfl)) (by unfold Func.isWrapper; first | (rw [if_pos (by decide +kernel)]; kernel_rfl) | (rw [if_neg (by decide +kernel)]; exact ⟨rfl, rfl⟩))
    (fun os started H enc _ => lifted os started H enc)

/-- ████ THE STATEMENT ████ -/
theorem proved : Rows.FnAtFreshMatchesWalkSaid := over
#print axioms proved
end Go.Proofs.Qxb6003688a.fnAtFreshMatchesWalk
