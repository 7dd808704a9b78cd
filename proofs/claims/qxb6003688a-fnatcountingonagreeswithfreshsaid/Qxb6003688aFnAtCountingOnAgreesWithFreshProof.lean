import Derived.Test.Qxb6003688aRows
import Derived.WalkKit
import Derived.ProofKit
import Derived.OpenShut
import Derived.ShutString
import Derived.ChangeOld
import Derived.Below
import Derived.HandedShaped
import Derived.Test.Qxb6003688aNew
import Derived.Test.Qxb6003688aBounds
import Derived.Test.Qxb6003688aPicks
namespace Go.Proofs.Qxb6003688a.fnAtCountingOnAgreesWithFresh
open Go.ChangeShapes Go.WideShapes Go.ChangeAt Go.RowKit
open Go.ChangeMaps (open_string shut_string)
set_option linter.unusedVariables false
open Plain

theorem own : ownKnob Try.prog.godebug = none := by kernel_rfl
theorem laidOut : laidOutB Try.prog = true := by kernel_rfl

/-- WHAT THE WALK IS TOLD OF A SLICE OF INTEGERS THAT CAME IN: it is nil; or it leads to a row of 'cap' cells, the numbers 'zs' (the first 'len' are its elements, the rest its spare room), each fitting its kind. -/
def IsRow (k : IntKind) (w : World) (a : Option Addr) (len cap : Nat) (zs : List Int) : Prop :=
  (a = none ∧ len = 0 ∧ cap = 0 ∧ zs = []) ∨
  ∃ x, a = some x ∧ len ≤ cap ∧ cap ≤ maxLen ∧ zs.length = cap ∧ (∀ i, i < zs.length → w.cell? (x.add i) = some (.int k (zs.getD i 0))) ∧ ∀ n ∈ zs, (Lit.int k n).wf = true

theorem row_len {k : IntKind} {w : World} {a : Option Addr} {len cap : Nat} {zs : List Int} (h : IsRow k w a len cap zs) : len ≤ maxLen := by
  rcases h with ⟨_, rfl, _⟩ | ⟨_, _, h1, h2, _⟩
  · exact Nat.zero_le _
  · exact Nat.le_trans h1 h2

theorem clone_row (a0 : Option Addr) (len0 cap0 : Nat) (z0 : List Int) (w : World) (w0 : IsRow .u8 w a0 len0 cap0 z0) (hl : len0 ≤ 65536) :
    len0 ≤ z0.length ∧ Calls Try.prog 8 #[.slice a0 len0 cap0] w fun e w' => Cln w (bytesIn z0 len0) e w' := by
  rcases w0 with ⟨rfl, rfl, rfl, rfl⟩ | ⟨x, rfl, h1, h2, h3, h4, h5⟩
  · exact ⟨Nat.le_refl _, clone_none w⟩
  · exact ⟨by omega, clone_any x len0 cap0 z0 w (by omega) (by omega) h4 h5⟩

theorem range32 {z : Int} (h : (Lit.int .u32 z).wf = true) : 0 ≤ z ∧ z < 4294967296 := by
  have h1 : IntKind.u32.min = 0 := rfl
  have h2 : IntKind.u32.max = 4294967295 := rfl
  simp only [Lit.wf, Bool.and_eq_true, decide_eq_true_eq] at h
  rw [h1, h2] at h
  omega

/-- the picks: in whatever later world, the clone; their numbers are naturals of 32 bits -/
theorem clone32_row (a2 : Option Addr) (len2 cap2 : Nat) (z2 : List Int) (w w' : World) (hb : Below w.heap.size w w') (w2 : IsRow .u32 w a2 len2 cap2 z2) (hl : len2 ≤ 1024) :
    (∀ j, j < len2 → 0 ≤ z2.getD j 0 ∧ z2.getD j 0 < 4294967296) ∧ Calls Try.prog 14 #[.slice a2 len2 cap2] w' fun e w'' => Cln32 w' len2 z2 e w'' := by
  rcases w2 with ⟨rfl, rfl, rfl, rfl⟩ | ⟨x, rfl, h1, h2, h3, h4, h5⟩
  · exact ⟨fun j hj => by omega, clone32_none w'⟩
  · refine ⟨fun j hj => ?_, clone32_any x len2 cap2 z2 w' (by omega) (by omega) fun i hi => ?_⟩
    · refine range32 (h5 _ ?_)
      simp only [List.getD, List.getElem?_eq_getElem (show j < z2.length by omega), Option.getD_some]
      exact List.getElem_mem _
    · have hc := h4 i hi
      have hlt : (x.add i).block < w.heap.size := by
        rcases Nat.lt_or_ge (x.add i).block w.heap.size with h | h
        · exact h
        · simp [World.cell?, Array.getElem?_eq_none h] at hc
      exact (hb.cell hlt).trans hc

/-- the loop's state: the counter stands at some character's place; nothing below it turned -/
def CSt (C : Nat) (a : Option Addr) (s : ByteArray) (cr : Bool) (np : Nat) (wb : World) (t : Value) (wr : World) : Prop :=
  ∃ k o : Nat, k ≤ np ∧ t = .int .i64 k ∧ o ≤ s.size ∧ sk s o = 0 ∧ Cel wr C a s.size (brOf cr) o (nL s cr o) (nC s cr o) ∧ Below C wb wr

/-! ### STEP 1: THE WALK -/
set_option maxRecDepth 100000 in
set_option maxHeartbeats 3200000 in
theorem walk (a0 : Option Addr) (len0 cap0 : Nat) (z0 : List Int) (a1 : Bool) (a2 : Option Addr) (len2 cap2 : Nat) (z2 : List Int) (m : Int) (w : World) (hm : Max w m) (w0 : IsRow .u8 w a0 len0 cap0 z0) (w2 : IsRow .u32 w a2 len2 cap2 z2) (hcap : len0 ≤ maxLen) (hcap2 : len2 ≤ maxLen) :
    Calls Try.prog 4 #[.slice a0 len0 cap0, .bool a1, .slice a2 len2 cap2] w fun e w' => e = .returned (.bool true) ∧ Below w.heap.size w w' := by
  unfold maxLen at hcap hcap2
  by_cases hbig : len0 ≤ 1048576 ∧ len2 ≤ 1048576 ∧ len0 + len2 ≤ 1048576
  case neg =>
    clear w0 hm w2
    by_cases h1 : 1048576 < len0
    · go_enter Try.func4, Try.ntmps4
      go_wp2_with (go_at_call 13; go_in)
      go_ret
      exact ⟨rfl, Below.refl _ _⟩
    · by_cases h2 : 1048576 < len2
      · go_enter Try.func4, Try.ntmps4
        go_wp2_with (go_at_call 13; go_in)
        go_ret
        exact ⟨rfl, Below.refl _ _⟩
      · have h3 : 1048576 < len0 + len2 := by omega
        go_enter Try.func4, Try.ntmps4
        go_wp2_with (go_at_call 13; go_in)
        go_ret
        exact ⟨rfl, Below.refl _ _⟩
  obtain ⟨hb1, hb2, hb3⟩ := hbig
  by_cases hl : 65536 < len0
  · clear w0 hm w2
    have hd : decide (65536 < len0) = true := decide_eq_true hl
    go_enter Try.func4, Try.ntmps4
    go_wp2_with (go_at_call 13; go_in)
    go_ret
    exact ⟨rfl, Below.refl _ _⟩
  have hd : decide (65536 < len0) = false := decide_eq_false hl
  by_cases hl2 : 1024 < len2
  · clear w0 hm w2
    have hd2 : decide (1024 < len2) = true := decide_eq_true hl2
    go_enter Try.func4, Try.ntmps4
    go_wp2_with (go_at_call 13; go_in)
    go_ret
    exact ⟨rfl, Below.refl _ _⟩
  have hd2 : decide (1024 < len2) = false := decide_eq_false hl2
  obtain ⟨hz, hcl⟩ := clone_row a0 len0 cap0 z0 w w0 (by omega)
  have hsz := bytesIn_size hz
  have HCL := hide hcl
  have HM := hide hm
  have HR2 := hide w2
  clear w0 hm w2 hcl hcap hcap2
  generalize bytesIn z0 len0 = s at *
  subst hsz
  go_enter Try.func4, Try.ntmps4
  go_wp2_with (go_at_call 13; go_in)
  refine (unhide HCL).mono ?_
  rintro e w1 ⟨a', rfl, hb, ht⟩
  have HB := hide hb
  have HT := hide ht
  clear hb ht
  go_wp2_with fail
  obtain ⟨hrg, hcl2⟩ := clone32_row a2 len2 cap2 z2 w w1 (unhide HB) (unhide HR2) (by omega)
  have HRG := hide hrg
  clear hrg
  refine hcl2.mono ?_
  clear hcl2
  rintro e w3 ⟨p', rfl, hb3', hp⟩
  have HB3 := hide hb3'
  have HPK := hide hp
  have HT3 := hide ((unhide HT).below hb3')
  clear hb3' hp
  go_wp2_with fail
  refine (bounds_is a' s w3 (by omega) ((unhide HT3).mono (unhide HB3).size)).mono ?_
  rintro e w4 ⟨xs, rfl, hx0, hxn, hst, hsz4, hb4, hcells⟩
  have HST := hide hst
  have HB4 := hide hb4
  have HCS := hide hcells
  clear hst hb4 hcells
  go_wp2_with fail
  refine (mode_is a1 _).mono ?_
  rintro e w4' ⟨rfl, rfl⟩
  go_wp2_with fail
  refine (new_is a' s.size (brOf a1) _).mono ?_
  rintro e w5 ⟨rfl, hb5, hc5⟩
  have HB5 := hide hb5
  have HC5 := hide hc5
  have hpos : 0 < w4'.heap.size := by
    have h1 := (unhide HM).pos
    have h2 := (unhide HB).size
    have h3 := (unhide HB3).size
    omega
  have HM5 := hide ((((unhide HM).below (unhide HM).pos (unhide HB)).below (pos_of (unhide HM) (unhide HB)) (unhide HB3)).below (by have h1 := (unhide HM).pos; have h2 := (unhide HB).size; have h3 := (unhide HB3).size; omega) (unhide HB4) |>.below hpos hb5)
  have HT5 := hide (((((unhide HT3).mono (unhide HB3).size).below (unhide HB4)).mono (Nat.le_of_lt hsz4)).below hb5)
  have HP5 := hide ((((unhide HPK).below (unhide HB4)).mono (Nat.le_of_lt hsz4)).below hb5)
  have HX5 := hide (fun j (h : j < xs.length) => (hb5.cell (p := ⟨w3.heap.size, j, none⟩) hsz4).trans (unhide HCS j h))
  have HBA := hide ((unhide HB).trans (((unhide HB3).mono (unhide HB).size).trans (((unhide HB4).mono (Nat.le_trans (unhide HB).size (unhide HB3).size)).trans (hb5.mono (by have h2 := (unhide HB).size; have h3 := (unhide HB3).size; omega)))))
  have hle : w.heap.size ≤ w4'.heap.size := by
    have h2 := (unhide HB).size
    have h3 := (unhide HB3).size
    omega
  clear hb5 hc5 HCL HM HR2 HB HT HB3 HPK HT3 HB4 HCS HB5
  go_wp2_with fail
  go_loopw [10] (fun t wr => CSt w4'.heap.size a' s a1 len2 w5 t wr) (fun t _ => len2 - (intOf t).toNat)
  case atStart => exact ⟨0, 0, Nat.zero_le _, rfl, Nat.zero_le _, rfl, unhide HC5, Below.refl _ _⟩
  case round =>
    obtain ⟨k, o, hk, rfl, ho, hsk, hcel, hbel⟩ := hrel
    clear HC5
    have HC := hide hcel
    have HB := hide hbel
    have HSK := hide hsk
    clear hcel hbel hsk
    by_cases hlt : k < len2
    · rcases unhide HP5 with ⟨_, hz0⟩ | ⟨P, rfl, hP, hpc⟩
      · omega
      · obtain ⟨zn, hzn⟩ : ∃ n : Nat, z2.getD k 0 = n := ⟨(z2.getD k 0).toNat, by have := unhide HRG k hlt; omega⟩
        have hz32 := (unhide HRG k hlt).2
        rw [hzn] at hz32
        have hzc : wr.cell? ⟨P, k, none⟩ = some (.int .u32 (zn : Int)) := by rw [(unhide HB).cell (p := ⟨P, k, none⟩) hP, hpc k hlt, hzn]
        have hm := Nat.mod_lt zn hx0
        have hoc : wr.cell? ⟨w3.heap.size, zn % xs.length, none⟩ = some (.int .i64 (xs[zn % xs.length]'hm : Nat)) := by rw [(unhide HB).cell (p := ⟨w3.heap.size, zn % xs.length, none⟩) hsz4, unhide HX5 _ hm]
        obtain ⟨hofs, hosk⟩ := unhide HST (xs[zn % xs.length]'hm) (List.getElem_mem _)
        have HOSK := hide hosk
        clear hosk hpc hzn
        generalize (xs[zn % xs.length]'hm) = off at hoc hofs HOSK
        go_wp2_with fail
        refine (at_is _ a' s a1 o off m wr (by omega) hofs (unhide HOSK) (unhide HSK) hpos ((unhide HM5).below hpos (unhide HB)) ((unhide HT5).below (unhide HB)) (unhide HC)).mono ?_
        rintro e w6 ⟨rfl, hb6, hc6⟩
        have HB6 := hide ((unhide HB).trans hb6)
        have HC6 := hide hc6
        have hCs6 := hc6.hC
        clear hb6 hc6
        go_wp2_with fail
        refine (mode_is a1 _).mono ?_
        rintro e w7 ⟨rfl, rfl⟩
        go_wp2_with fail
        refine (new_is a' s.size (brOf a1) _).mono ?_
        rintro e w8 ⟨rfl, hb8, hc8⟩
        have HB8 := hide hb8
        have HC8 := hide hc8
        clear hb8 hc8
        go_wp2_with fail
        refine (at_is _ a' s a1 0 off m w8 (by omega) hofs (unhide HOSK) rfl (Nat.lt_of_lt_of_le hpos (Nat.le_of_lt hCs6)) (((unhide HM5).below hpos (unhide HB6)).below (Nat.lt_of_lt_of_le hpos (Nat.le_of_lt hCs6)) (unhide HB8)) ((((unhide HT5).below (unhide HB6)).mono (Nat.le_of_lt hCs6)).below (unhide HB8)) (unhide HC8)).mono ?_
        rintro e w9 ⟨rfl, hb9, hc9⟩
        have HB9 := hide hb9
        clear hb9 hc9
        go_wp2_with fail
        go_roundw
        case rel => exact ⟨k + 1, off, by omega, by go_num, hofs, unhide HOSK, ((unhide HC6).below (unhide HB8) hCs6).below (unhide HB9) hCs6, (unhide HB6).trans (((unhide HB8).mono (Nat.le_of_lt hCs6)).trans ((unhide HB9).mono (Nat.le_of_lt hCs6)))⟩
        case measure => simp [intOf]; omega
    · obtain rfl : k = len2 := by omega
      go_wp2
      go_ret
      exact ⟨rfl, (unhide HBA).trans ((unhide HB).mono hle)⟩

/-! ### THE ROW's STEP: WRITTEN OUT: LEAVE IT -/
set_option maxRecDepth 100000 in
theorem lifted (os : Os) (started : os.Started) (H : Type) (enc : TypeId × Value → H) :
    ReturnsInHanded {} Try.checked os 4 .any (Rows.fnAtCountingOnAgreesWithFreshSpec.pre6 enc Try.prog Try.f4 Rows.fnAtCountingOnAgreesWithFreshRow.domain false) (Rows.fnAtCountingOnAgreesWithFreshSpec.post enc Try.prog Try.f4 false true false false) := by
  refine returnsInHanded_of_change_shaped (C := Try.checked) own started (by kernel_rfl) Try.func4
    (ChangeSpec.witness6 (enc := enc) (C := Try.checked) false ⟨#[], #[.slice none 0 0, .bool false, .slice none 0 0], []⟩ 8 (by kernel_rfl) (by kernel_rfl) (by kernel_rfl) (by kernel_rfl)) ?_
  intro W base args ds gs before hval0 hW hcnd _ hsh _
  obtain ⟨m, hm⟩ := Try.laysM185.s1_3 W hsh
  have hval : ∀ (j : Nat) t v, Try.f4.params[j]? = some t → args[j]? = some v → Value.okWide Try.prog W .any base t v := hval0
  have hW' := hW
  obtain ⟨p, q, hA0, hV, rfl, hfz, hnd⟩ := hW
  have hA : DataW.TrodAll enc Try.prog W 0 (fun _ => true) true Try.f4.params.toList args.toList ds p := hA0
  rw [Try.params4] at hA hval
  obtain ⟨v0, vs0, d0, ds0, p0, q0, hargs, rfl, rfl, h0, r0⟩ := trodAll_cons hA
  obtain ⟨v1, vs1, d1, ds1, p1, q1, rfl, rfl, rfl, h1, r1⟩ := trodAll_cons r0
  obtain ⟨v2, vs2, d2, ds2, p2, q2, rfl, rfl, rfl, h2, r2⟩ := trodAll_cons r1
  obtain ⟨rfl, rfl, rfl⟩ := trodAll_nil r2
  obtain rfl : args = #[v0, v1, v2] := by cases args; simp_all
  obtain ⟨rfl, rfl⟩ := trodVars_none hV
  obtain ⟨a0, len0, cap0, rfl⟩ := okWide_slice Try.underlying22 (hval 0 22 v0 rfl rfl)
  have k0 := h0
  have lt0 : ∀ x ∈ p0, x.block < W.heap.size := by obtain ⟨m, hm⟩ := k0; exact DataW.trod_lt m _ _ _ hm
  obtain ⟨z0, w0⟩ : ∃ zs, IsRow .u8 W a0 len0 cap0 zs := by
    obtain ⟨fuel, hf⟩ := h0
    rcases open_ints Try.underlying22 Try.underlying5 (by kernel_rfl) hf with ⟨hcs, _⟩ | ⟨x, l, c, zs, hcs, _, hl, hm, hz, _, hcell, hwz⟩
    · simp [Value.cells] at hcs
      obtain ⟨rfl, rfl, rfl⟩ := hcs
      exact ⟨[], .inl ⟨rfl, rfl, rfl, rfl⟩⟩
    · simp [Value.cells] at hcs
      obtain ⟨rfl, rfl, rfl⟩ := hcs
      exact ⟨zs, .inr ⟨_, rfl, hl, hm, by simpa using hz, hcell, hwz⟩⟩
  obtain ⟨a1, rfl, rfl, rfl⟩ := open_bool Try.underlying4 (hval 1 4 v1 rfl rfl) h1
  obtain ⟨a2, len2, cap2, rfl⟩ := okWide_slice Try.underlying33 (hval 2 33 v2 rfl rfl)
  have k2 := h2
  have lt2 : ∀ x ∈ p2, x.block < W.heap.size := by obtain ⟨m, hm⟩ := k2; exact DataW.trod_lt m _ _ _ hm
  obtain ⟨z2, w2⟩ : ∃ zs, IsRow .u32 W a2 len2 cap2 zs := by
    obtain ⟨fuel, hf⟩ := h2
    rcases open_ints Try.underlying33 Try.underlying38 (by kernel_rfl) hf with ⟨hcs, _⟩ | ⟨x, l, c, zs, hcs, _, hl, hm, hz, _, hcell, hwz⟩
    · simp [Value.cells] at hcs
      obtain ⟨rfl, rfl, rfl⟩ := hcs
      exact ⟨[], .inl ⟨rfl, rfl, rfl, rfl⟩⟩
    · simp [Value.cells] at hcs
      obtain ⟨rfl, rfl, rfl⟩ := hcs
      exact ⟨zs, .inr ⟨_, rfl, hl, hm, by simpa using hz, hcell, hwz⟩⟩
  clear hA0 hval0
  refine (walk a0 len0 cap0 z0 a1 a2 len2 cap2 z2 m W hm w0 w2 (row_len w0) (row_len w2)).mono fun e W' ⟨he, bel⟩ => ?_
  subst he
  exact ⟨_, rfl, _, _, _, [], _, [], hW', trodAll_mk1 (shut_bool Try.underlying4 _), (trodAll_cons_mk (Below.trod laidOut (by kernel_rfl) (of_decide_eq_true (by kernel_rfl)) k0 bel lt0) (trodAll_cons_mk (shut_bool Try.underlying4 _) (trodAll_cons_mk (Below.trod laidOut (by kernel_rfl) (of_decide_eq_true (by kernel_rfl)) k2 bel lt2) trodAll_mk0))), rfl, bel.frame _, fun h => by cases h⟩

theorem over : Rows.fnAtCountingOnAgreesWithFreshRow.holds Try.pinned (OpenSpec.ofChange Rows.fnAtCountingOnAgreesWithFreshSpec) :=
  OpenClaim.holds_of_wide 4 Try.f4 rfl rfl rfl rfl rfl rfl rfl ⟨rfl, rfl, rfl, rfl, rfl⟩ rfl rfl rfl rfl rfl (by kernel_rfl) Try.func4 (by kernel_rfl)
    (of_decide_eq_true (by kernel_rfl)) (by unfold Func.isWrapper; first | (rw [if_pos (by decide +kernel)]; kernel_rfl) | (rw [if_neg (by decide +kernel)]; exact ⟨rfl, rfl⟩))
    (fun os started H enc _ => lifted os started H enc)

/-- ████ THE STATEMENT ████ -/
theorem proved : Rows.FnAtCountingOnAgreesWithFreshSaid := over
#print axioms proved
end Go.Proofs.Qxb6003688a.fnAtCountingOnAgreesWithFresh
