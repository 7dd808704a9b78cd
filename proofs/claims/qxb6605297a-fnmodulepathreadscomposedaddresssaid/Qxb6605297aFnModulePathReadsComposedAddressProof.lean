import Derived.Test.Qxb6605297aRows
import Derived.Test.Qxb6605297aMain
import Derived.Test.Qxb6605297aZero
import Derived.Test.Qxb6605297aOpens
import Derived.WalkKit
import Derived.ProofKit
import Derived.OpenShut
import Derived.ChangeOld
import Derived.Below
namespace Go.Proofs.Qxb6605297a.fnModulePathReadsComposedAddress
open Go.ChangeShapes Go.WideShapes Go.ChangeAt Go.RowKit
set_option linter.unusedVariables false

theorem own : ownKnob Try.prog.godebug = none := by kernel_rfl
theorem laidOut : laidOutB Try.prog = true := by kernel_rfl

set_option maxRecDepth 100000 in
theorem lifted (os : Os) (started : os.Started) (H : Type) (enc : TypeId × Value → H) :
    ReturnsInHanded {} Try.checked os 4 .any (Rows.fnModulePathReadsComposedAddressSpec.pre6 enc Try.prog Try.f4 Rows.fnModulePathReadsComposedAddressRow.domain false) (Rows.fnModulePathReadsComposedAddressSpec.post enc Try.prog Try.f4 false true false false) := by
  refine returnsInHanded_of_change (C := Try.checked) own started (by kernel_rfl) Try.func4
    (ChangeSpec.witness6 (enc := enc) (C := Try.checked) false ⟨#[], #[.slice none 0 0], []⟩ 8 (by kernel_rfl) (by kernel_rfl) (by kernel_rfl) (by kernel_rfl)) ?_
  intro W base args ds gs before hval0 hW hcnd _
  have hval : ∀ (j : Nat) t v, Try.f4.params[j]? = some t → args[j]? = some v → Value.okWide Try.prog W .any base t v := hval0
  have hW' := hW
  obtain ⟨p, q, hA0, hV, rfl, hfz, hnd⟩ := hW
  have hA : DataW.TrodAll enc Try.prog W 0 (fun _ => true) true Try.f4.params.toList args.toList ds p := hA0
  rw [Try.params4] at hA hval
  obtain ⟨v0, vs0, d0, ds0, p0, q0, hargs, rfl, rfl, h0, r0⟩ := trodAll_cons hA
  obtain ⟨rfl, rfl, rfl⟩ := trodAll_nil r0
  obtain rfl : args = #[v0] := by cases args; simp_all
  obtain ⟨rfl, rfl⟩ := trodVars_none hV
  obtain ⟨a0, len0, cap0, rfl⟩ := okWide_slice Try.underlying24 (hval 0 24 v0 rfl rfl)
  have k0 := h0
  have lt0 : ∀ x ∈ p0, x.block < W.heap.size := by obtain ⟨m, hm⟩ := k0; exact DataW.trod_lt m _ _ _ hm
  have hmain : Calls Try.prog 4 #[.slice a0 len0 cap0] W fun e w' => e = .returned (.bool true) ∧ Below W.heap.size W w' := by
    obtain ⟨fuel, hf⟩ := h0
    rcases open_calls hf with hcs | ⟨x, l, c, I, hcs, hl, hm, hI⟩
    · simp [Value.cells] at hcs
      obtain ⟨rfl, rfl, rfl⟩ := hcs
      exact main_nil W
    · simp [Value.cells] at hcs
      obtain ⟨rfl, rfl, rfl⟩ := hcs
      by_cases hz : len0 = 0
      · subst hz; exact main_empty x cap0 W
      · obtain ⟨b, o, sp⟩ := x
        have hx : sp = none := by
          have := (hI 0 (by omega)).1
          cases sp with
          | none => rfl
          | some q =>
            simp [World.cell?, Addr.add] at this
            split at this <;> cases this
        subst hx
        have hb : b < W.heap.size := by
          have := (hI 0 (by omega)).1
          rcases Nat.lt_or_ge b W.heap.size with h | h
          · exact h
          · simp [World.cell?, Addr.add, Array.getElem?_eq_none h] at this
        obtain ⟨cs, rfl, hcal, hk⟩ := cal_of hI
        exact main_some b o cap0 cs W (by unfold maxLen at hm; omega) (by omega) hcal hb hk
  clear hA0 hval0
  refine hmain.mono fun e W' ⟨he, bel⟩ => ?_
  subst he
  exact ⟨_, rfl, _, _, _, [], _, [], hW', trodAll_mk1 (shut_bool Try.underlying4 _), (trodAll_cons_mk (Below.trod laidOut (by kernel_rfl) (of_decide_eq_true (by kernel_rfl)) k0 bel lt0) trodAll_mk0), rfl, bel.frame _, fun h => by cases h⟩

theorem over : Rows.fnModulePathReadsComposedAddressRow.holds Try.pinned (OpenSpec.ofChange Rows.fnModulePathReadsComposedAddressSpec) :=
  OpenClaim.holds_of_wide 4 Try.f4 rfl rfl rfl rfl rfl rfl rfl ⟨rfl, rfl, rfl, rfl, rfl⟩ rfl rfl rfl rfl rfl (by kernel_rfl) Try.func4 (by kernel_rfl)
    (of_decide_eq_true (by kernel_rfl)) (by unfold Func.isWrapper; first | (rw [if_pos (by decide +kernel)]; kernel_rfl) | (rw [if_neg (by decide +kernel)]; exact ⟨rfl, rfl⟩))
    (fun os started H enc _ => lifted os started H enc)

/-- THE STATEMENT -/
theorem proved : Rows.FnModulePathReadsComposedAddressSaid := over
#print axioms proved
end Go.Proofs.Qxb6605297a.fnModulePathReadsComposedAddress
