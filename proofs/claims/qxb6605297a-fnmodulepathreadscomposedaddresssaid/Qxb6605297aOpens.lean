import Derived.Test.Qxb6605297aCals
import Derived.Deep.Slices
import Derived.ProofKit
namespace Go.Proofs.Qxb6605297a
open Go.ChangeShapes Go.WideShapes Go.ChangeAt Go.RowKit Go.Deep

theorem Try.cells9 : Try.prog.cellsOf 9 = 1 := by kernel_rfl
theorem Try.cells5 : Try.prog.cellsOf 5 = 1 := by kernel_rfl
theorem Try.cells26 : Try.prog.cellsOf 26 = 1 := by kernel_rfl

section
variable {H : Type} {enc : TypeId × Value → H}
instance : Inhabited Step := ⟨noStep⟩
theorem open_calls {W : World} {sp : Nat → Bool} {fuel : Nat} {cs : List Value} {x : DataW H × List MemPlace} (h : DataW.trod enc Try.prog W 0 sp true fuel 24 cs = some x) :
    (cs = [.slice none 0 0]) ∨
    ∃ (a : Addr) (len cap : Nat) (I : Nat → Step), cs = [.slice (some a) len cap] ∧ len ≤ cap ∧ cap ≤ maxLen ∧
      ∀ i, i < len → W.cell? (a.add (i * 4)) = some (.string (I i).name) ∧ W.cell? (a.add (i * 4 + 1)) = some (.string (I i).key) ∧ W.cell? (a.add (i * 4 + 2)) = some (.int .u8 (I i).kind) ∧ W.cell? (a.add (i * 4 + 3)) = some (.int .u64 ((I i).num : Int)) ∧
        0 ≤ (I i).kind ∧ (I i).kind ≤ 255 ∧ (I i).num < 18446744073709551616 := by
  rcases open_slice Try.underlying24 h with h0 | ⟨a, len, cap, m, n, D, Pl, rfl, hb, hl, hm, hmm, rfl, hx⟩
  · exact Or.inl h0.1
  right
  have hlm : len ≤ m := by rw [hmm]; split <;> omega
  have each : ∀ i, i < len → ∃ q : Step, W.cell? (a.add (i * 4)) = some (.string q.name) ∧ W.cell? (a.add (i * 4 + 1)) = some (.string q.key) ∧ W.cell? (a.add (i * 4 + 2)) = some (.int .u8 q.kind) ∧ W.cell? (a.add (i * 4 + 3)) = some (.int .u64 (q.num : Int)) ∧
        0 ≤ q.kind ∧ q.kind ≤ 255 ∧ q.num < 18446744073709551616 := by
    intro i hi
    obtain ⟨cs', h1, h2⟩ := hx i (by omega)
    rw [Try.cells28] at h1
    obtain ⟨_, hlen, hcell⟩ := World.cells?_some h1
    obtain ⟨xs, k, hk, hxy, _, hxl, hf⟩ := DataW.trod_struct Try.underlying28 h2
    match xs, hxl, cs', hlen with
    | [y0, y1, y2, y3], _, [v0, v1, v2, v3], _ =>
      have g0 := hf 0 _ rfl
      have g1 := hf 1 _ rfl
      have g2 := hf 2 _ rfl
      have g3 := hf 3 _ rfl
      simp [Try.cells9, Try.cells5, Try.cells26] at g0 g1 g2 g3
      obtain ⟨s0, e0, _⟩ := DataW.trod_string Try.underlying9 g0
      obtain ⟨s1, e1, _⟩ := DataW.trod_string Try.underlying9 g1
      obtain ⟨q2, e2, _, w2⟩ := DataW.trod_int Try.underlying5 g2
      obtain ⟨q3, e3, _, w3⟩ := DataW.trod_int Try.underlying26 g3
      simp only [List.cons.injEq, and_true] at e0 e1 e2 e3
      subst e0; subst e1; subst e2; subst e3
      have c0 := hcell 0 (by omega)
      have c1 := hcell 1 (by omega)
      have c2 := hcell 2 (by omega)
      have c3 := hcell 3 (by omega)
      rw [add_add] at c0 c1 c2 c3
      have m8 : IntKind.u8.min = 0 := rfl
      have M8 : IntKind.u8.max = 255 := rfl
      have m64 : IntKind.u64.min = 0 := rfl
      have M64 : IntKind.u64.max = 18446744073709551615 := rfl
      simp only [Lit.wf, Bool.and_eq_true, decide_eq_true_eq] at w2 w3
      rw [m8, M8] at w2
      rw [m64, M64] at w3
      refine ⟨⟨s0, s1, q2, q3.toNat⟩, by simpa using c0, by simpa using c1, by simpa using c2, ?_, w2.1, w2.2, ?_⟩
      · rw [show ((q3.toNat : Nat) : Int) = q3 by omega]
        simpa using c3
      · show q3.toNat < 18446744073709551616
        omega
  obtain ⟨q, hq⟩ := choose_lt each
  exact ⟨a, len, cap, q, rfl, hl, hm, hq⟩
end

/-- the list of the steps that lie there -/
theorem cal_of {W : World} {b o len : Nat} {I : Nat → Step} (h : ∀ i, i < len → W.cell? ((⟨b, o, none⟩ : Addr).add (i * 4)) = some (.string (I i).name) ∧ W.cell? ((⟨b, o, none⟩ : Addr).add (i * 4 + 1)) = some (.string (I i).key) ∧ W.cell? ((⟨b, o, none⟩ : Addr).add (i * 4 + 2)) = some (.int .u8 (I i).kind) ∧ W.cell? ((⟨b, o, none⟩ : Addr).add (i * 4 + 3)) = some (.int .u64 ((I i).num : Int)) ∧
        0 ≤ (I i).kind ∧ (I i).kind ≤ 255 ∧ (I i).num < 18446744073709551616) :
    ∃ cs : List Step, cs.length = len ∧ Cal W b o cs ∧ ∀ c ∈ cs, 0 ≤ c.kind ∧ c.kind ≤ 255 ∧ c.num < 18446744073709551616 := by
  refine ⟨(List.range len).map I, by simp, fun i hi => ?_, fun c hc => ?_⟩
  · have hi' : i < len := by simpa using hi
    have e : nth ((List.range len).map I) i = I i := by
      unfold nth
      simp [List.getD, hi']
    rw [e]
    obtain ⟨h0, h1, h2, h3, _⟩ := h i hi'
    rw [add_plain] at h0 h1 h2 h3
    exact ⟨h0, by rw [Nat.add_assoc]; exact h1, by rw [Nat.add_assoc]; exact h2, by rw [Nat.add_assoc]; exact h3⟩
  · obtain ⟨i, hi, rfl⟩ := List.mem_map.1 hc
    exact (h i (by simpa using hi)).2.2.2.2
end Go.Proofs.Qxb6605297a
