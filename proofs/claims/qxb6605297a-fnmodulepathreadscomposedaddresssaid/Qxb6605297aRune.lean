import Derived.Test.Qxb6605297aBase
import Derived.Test.Qxb6605297aShelf
import Derived.Laws.Runes
import Derived.Deep.QuietTactic
import Derived.BigQuiet
import Derived.Deep.LoopGhost
import Derived.Deep.RegionWith
import Derived.WalkSmall
namespace Go.Proofs.Qxb6605297a
open Go.RowKit

def crlf : ByteArray := ⟨#[46, 91]⟩

set_option maxRecDepth 1000000 in
set_option maxHeartbeats 4000000 in
theorem rune_err (w : World) :
    Calls Try.prog 19 #[.string ⟨#[46, 91]⟩, .int .i32 65533] w fun e w' => e = .returned (.int .i64 (-1)) ∧ Below w.heap.size w w' := by
  have n0 : ∀ ty, (Instr.next (.pointer (some ⟨w.heap.size, 0, none⟩)) true ty).run Try.prog (w.iter ⟨#[46, 91]⟩ 0) = .ok (.tuple #[.bool true, .int .i64 0, .int .i32 46]) (w.iter ⟨#[46, 91]⟩ 1) := fun ty => run_next_ascii (P := Try.prog) w ⟨#[46, 91]⟩ 0 ty (by decide) (by decide)
  have n1 : ∀ ty, (Instr.next (.pointer (some ⟨w.heap.size, 0, none⟩)) true ty).run Try.prog (w.iter ⟨#[46, 91]⟩ 1) = .ok (.tuple #[.bool true, .int .i64 1, .int .i32 91]) (w.iter ⟨#[46, 91]⟩ 2) := fun ty => run_next_ascii (P := Try.prog) w ⟨#[46, 91]⟩ 1 ty (by decide) (by decide)
  have n2 := fun ty => run_next_end (P := Try.prog) w ⟨#[46, 91]⟩ 2 ty (by decide)
  go_enter Try.func19, Try.ntmps19
  go_wp2_with fail
  refine wp_loop_rounds 3 ?_
  rw [rounds_succ]
  go_wp2_with fail
  rw [rounds_succ]
  go_wp2_with fail
  rw [rounds_succ]
  go_wp2_with fail
  go_ret
  exact ⟨rfl, (Below.refl _ _).alloc (Nat.le_refl _) _⟩

theorem two_of {t : ByteArray} (h : t.size = 2) : ∃ a b : UInt8, t = ⟨#[a, b]⟩ := by
  obtain ⟨⟨l⟩⟩ := t
  match l, h with
  | [a, b], _ => exact ⟨a, b, rfl⟩

theorem valid_iff (r : Int) : Lib.validRune r = Utf8.valid r := by
  unfold Lib.validRune Utf8.valid
  by_cases h : (0 ≤ r ∧ r < 0xD800) ∨ (0xDFFF < r ∧ r ≤ 0x10FFFF)
  · rw [decide_eq_true h]; rcases h with h | h <;> simp <;> omega
  · rw [decide_eq_false h]; simp; omega

set_option maxRecDepth 1000000 in
set_option maxHeartbeats 4000000 in
theorem rune_bad (r : Int) (w : World) (h0 : 128 ≤ r) (h1 : r ≤ 2147483647) (he : (r == 65533) = false) (hv : Utf8.valid r = false) :
    Calls Try.prog 19 #[.string ⟨#[46, 91]⟩, .int .i32 r] w fun e w' => e = .returned (.int .i64 (-1)) ∧ Below w.heap.size w w' := by
  have HV := hide ((valid_iff r).trans hv)
  clear hv
  go_enter Try.func19, Try.ntmps19
  go_wp2_with fail
  refine (Try.utf8_ValidRune _ _).mono ?_
  rintro e w1 ⟨rfl, rfl⟩
  rw [unhide HV]
  go_wp2_with fail
  go_ret
  exact ⟨rfl, Below.refl _ _⟩

set_option maxRecDepth 1000000 in
set_option maxHeartbeats 4000000 in
theorem rune_long (r : Int) (w : World) (h0 : 128 ≤ r) (h1 : r ≤ 2147483647) (he : (r == 65533) = false) (hv : Utf8.valid r = true) (t : ByteArray) (ht : Utf8.encode r = t) (hn3 : 3 ≤ t.size) (hn4 : t.size ≤ 4) :
    Calls Try.prog 19 #[.string ⟨#[46, 91]⟩, .int .i32 r] w fun e w' => e = .returned (.int .i64 (-1)) ∧ Below w.heap.size w w' := by
  have HV := hide ((valid_iff r).trans hv)
  clear hv
  have hd : decide (r < 128) = false := decide_eq_false (by omega)
  go_enter Try.func19, Try.ntmps19
  go_wp2_with fail
  refine (Try.utf8_ValidRune _ _).mono ?_
  rintro e w1 ⟨rfl, rfl⟩
  rw [unhide HV]
  go_wp2_with fail
  go_step3
  go_wp2_with fail
  refine wp_loop_rounds 1 ?_
  rw [rounds_succ]
  go_wp2_with fail
  rw [Exit.noGoto_ret]
  try go_wp2
  go_ret
  exact ⟨rfl, Below.refl _ _⟩

theorem idx_none (t : ByteArray) (c : Int) (w : World) (h : t.data.toList = []) :
    Calls Try.prog 25 #[.string t, .int .u8 c] w fun e w' => e = .returned (.int .i64 (-1)) ∧ w' = w := by
  have e := Try.strings_IndexByte t c w
  rw [h] at e
  exact e

set_option maxRecDepth 1000000 in
set_option maxHeartbeats 4000000 in
theorem rune_two (r : Int) (w : World) (h0 : 128 ≤ r) (h1 : r ≤ 2147483647) (he : (r == 65533) = false) (hv : Utf8.valid r = true) (a b : UInt8) (ht : Utf8.encode r = ⟨#[a, b]⟩) (hb : 128 ≤ b.toNat) :
    Calls Try.prog 19 #[.string ⟨#[46, 91]⟩, .int .i32 r] w fun e w' => e = .returned (.int .i64 (-1)) ∧ Below w.heap.size w w' := by
  have HV := hide ((valid_iff r).trans hv)
  clear hv
  have hd : decide (r < 128) = false := decide_eq_false (by omega)
  have hw2 : IntKind.i64.wrap 2 = 2 := by decide
  have hne : ((((({ data := #[46, 91] } : ByteArray)[1]'(by decide)).toNat : Nat) : Int) != (((({ data := #[a, b] } : ByteArray)[1]'(show 1 < 2 by decide)).toNat : Nat) : Int)) = true := by
    show ((91 : Int) != (b.toNat : Int)) = true
    rw [bne_iff_ne]; omega
  go_enter Try.func19, Try.ntmps19
  go_wp2_with fail
  refine (Try.utf8_ValidRune _ _).mono ?_
  rintro e w1 ⟨rfl, rfl⟩
  rw [unhide HV]
  go_wp2_with fail
  go_step3
  go_wp2_with fail
  refine wp_loop_rounds 1 ?_
  rw [rounds_succ]
  go_wp2_with fail
  go_step3
  go_wp2_with fail
  go_quiet (fail)
  go_wp2_with fail
  go_region_with (go_at_call 25; refine (idx_none _ _ _ rfl).mono ?_; rintro e w' ⟨rfl, rfl⟩)
  all_goals (try go_wp2)
  all_goals rw [Exit.noGoto_ret]
  all_goals (try go_wp2)
  all_goals (try rw [Exit.noGoto_ret])
  all_goals (try go_wp2)
  all_goals go_ret
  all_goals exact ⟨rfl, by repeat (first | exact Below.refl _ _ | apply Below.drew | refine below_drewN ?_ _)⟩

/-- a rune beyond ASCII is not among the two line ends -/
theorem rune_high (r : Int) (w : World) (h0 : 128 ≤ r) (h1 : r ≤ 2147483647) :
    Calls Try.prog 19 #[.string ⟨#[46, 91]⟩, .int .i32 r] w fun e w' => e = .returned (.int .i64 (-1)) ∧ Below w.heap.size w w' := by
  by_cases he : r = 65533
  · subst he; exact rune_err w
  · have he' : (r == 65533) = false := beq_eq_false_iff_ne.2 he
    cases hv : Utf8.valid r
    · exact rune_bad r w h0 h1 he' hv
    · obtain ⟨hn2, hn4, hl⟩ := encode_facts r hv h0
      by_cases h3 : 3 ≤ (Utf8.encode r).size
      · exact rune_long r w h0 h1 he' hv _ rfl h3 hn4
      · obtain ⟨a, b, hab⟩ := two_of (t := Utf8.encode r) (by omega)
        refine rune_two r w h0 h1 he' hv a b hab ?_
        rw [hab] at hl
        exact hl (show 1 < 2 by decide)

/-- the bytes that one step of the range passes over, where the first is beyond ASCII, are all beyond ASCII -/
theorem decode_pass (s : ByteArray) (pos : Nat) (h : pos < s.size) (ha : 128 ≤ (s[pos]'h).toNat) :
    pos + (Utf8.decode s pos).2 ≤ s.size ∧ ∀ j (hj : j < s.size), pos ≤ j → j < pos + (Utf8.decode s pos).2 → 128 ≤ (s[j]'hj).toNat := by
  have hget : ∀ j (hj : j < s.size), s.get! j = s[j]'hj := by
    intro j hj
    simp [ByteArray.get!, getElem!_pos, hj]
    rfl
  have hw1 : (pos + 1 ≤ s.size ∧ ∀ j (hj : j < s.size), pos ≤ j → j < pos + 1 → 128 ≤ (s[j]'hj).toNat) :=
    ⟨by omega, fun j hj h1 h2 => by have e : j = pos := by omega
                                    subst e; exact ha⟩
  have hcont : ∀ k, (decide (pos + k < s.size) && (s.get! (pos + k)).toNat / 64 == 2) = true → ∃ hk : pos + k < s.size, 128 ≤ (s[pos + k]'hk).toNat := by
    intro k hk
    rw [Bool.and_eq_true, decide_eq_true_iff] at hk
    obtain ⟨h1, h2⟩ := hk
    rw [hget _ h1] at h2
    refine ⟨h1, ?_⟩
    have := beq_iff_eq.1 h2
    omega
  have hn : ¬ (s[pos]'h).toNat < 128 := by omega
  have e0 : s.get! (pos + 0) = s[pos]'h := hget pos h
  simp only [Utf8.decode, e0, hn, if_false]
  split
  · rename_i h2
    rw [Bool.and_eq_true] at h2
    obtain ⟨_, h2⟩ := h2
    obtain ⟨k1, c1⟩ := hcont 1 h2
    split
    · refine ⟨by show pos + 2 ≤ s.size; omega, fun j hj g1 g2 => ?_⟩
      have g2' : j < pos + 2 := g2
      have hor : j = pos ∨ j = pos + 1 := by omega
      rcases hor with rfl | rfl
      · exact ha
      · exact c1
    · exact hw1
  · split
    · rename_i h2
      rw [Bool.and_eq_true, Bool.and_eq_true] at h2
      obtain ⟨⟨_, h2⟩, h3⟩ := h2
      obtain ⟨k1, c1⟩ := hcont 1 h2
      obtain ⟨k2, c2⟩ := hcont 2 h3
      split
      · refine ⟨by show pos + 3 ≤ s.size; omega, fun j hj g1 g2 => ?_⟩
        have g2' : j < pos + 3 := g2
        have hor : j = pos ∨ j = pos + 1 ∨ j = pos + 2 := by omega
        rcases hor with rfl | rfl | rfl
        · exact ha
        · exact c1
        · exact c2
      · exact hw1
    · split
      · rename_i h2
        rw [Bool.and_eq_true, Bool.and_eq_true, Bool.and_eq_true] at h2
        obtain ⟨⟨⟨_, h2⟩, h3⟩, h4⟩ := h2
        obtain ⟨k1, c1⟩ := hcont 1 h2
        obtain ⟨k2, c2⟩ := hcont 2 h3
        obtain ⟨k3, c3⟩ := hcont 3 h4
        split
        · refine ⟨by show pos + 4 ≤ s.size; omega, fun j hj g1 g2 => ?_⟩
          have g2' : j < pos + 4 := g2
          have hor : j = pos ∨ j = pos + 1 ∨ j = pos + 2 ∨ j = pos + 3 := by omega
          rcases hor with rfl | rfl | rfl | rfl
          · exact ha
          · exact c1
          · exact c2
          · exact c3
        · exact hw1
      · exact hw1
end Go.Proofs.Qxb6605297a
