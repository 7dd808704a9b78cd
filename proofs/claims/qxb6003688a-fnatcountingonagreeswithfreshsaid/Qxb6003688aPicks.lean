import Derived.Test.Qxb6003688aClone32
namespace Go.Proofs.Qxb6003688a
open Go.RowKit Plain

/-- the picks, cloned -/
def Pk (C : Nat) (w : World) (p : Option Addr) (n : Nat) (zs : List Int) : Prop :=
  (p = none ∧ n = 0) ∨ ∃ P, p = some ⟨P, 0, none⟩ ∧ P < C ∧ ∀ j, j < n → w.cell? ⟨P, j, none⟩ = some (.int .u32 (zs.getD j 0))
theorem Pk.below {C : Nat} {w w' : World} {p : Option Addr} {n : Nat} {zs : List Int} (h : Pk C w p n zs) (hb : Below C w w') : Pk C w' p n zs := by
  rcases h with h | ⟨P, h1, h2, h3⟩
  · exact Or.inl h
  · exact Or.inr ⟨P, h1, h2, fun j hj => (hb.cell (p := ⟨P, j, none⟩) h2).trans (h3 j hj)⟩
theorem Pk.mono {C C' : Nat} {w : World} {p : Option Addr} {n : Nat} {zs : List Int} (h : Pk C w p n zs) (hC : C ≤ C') : Pk C' w p n zs := by
  rcases h with h | ⟨P, h1, h2, h3⟩
  · exact Or.inl h
  · exact Or.inr ⟨P, h1, by omega, h3⟩

def Cln32 (w : World) (n : Nat) (zs : List Int) (e : Ending) (w' : World) : Prop := ∃ p, e = .returned (.slice p n n) ∧ Below w.heap.size w w' ∧ Pk w'.heap.size w' p n zs

theorem clone32_any (x : Addr) (len cap : Nat) (zs : List Int) (w : World) (hlen : len ≤ 1048576) (hz : len ≤ zs.length)
    (hc : ∀ i, i < zs.length → w.cell? (x.add i) = some (.int .u32 (zs.getD i 0))) :
    Calls Try.prog 14 #[.slice (some x) len cap] w fun e w' => Cln32 w len zs e w' := by
  by_cases h0 : len = 0
  · subst h0
    refine (clone32_zero x cap w).mono ?_
    rintro e w' ⟨rfl, h1, h2⟩
    exact ⟨_, rfl, h1, Or.inr ⟨_, rfl, h2, fun j hj => by omega⟩⟩
  · obtain ⟨b, o, sp⟩ := x
    have hx : sp = none := by
      have := hc 0 (by omega)
      cases sp with
      | none => rfl
      | some q =>
        simp [World.cell?, Addr.add] at this
        split at this <;> cases this
    subst hx
    have hc' : ∀ i, i < len → w.cell? ⟨b, o + i, none⟩ = some (.int .u32 (zs.getD i 0)) := fun i hi => by rw [← hc i (by omega), Go.WideShapes.add_plain]
    refine (clone32_some b o len cap zs w hlen hz hc' (fun h0 => ?_)).mono ?_
    · have := hc' 0 h0
      rcases Nat.lt_or_ge b w.heap.size with h | h
      · exact h
      · simp [World.cell?, Array.getElem?_eq_none h] at this
    · rintro e w' ⟨rfl, h1, h2, h3⟩
      exact ⟨_, rfl, h1, Or.inr ⟨_, rfl, h2, h3⟩⟩

theorem clone32_none (w : World) : Calls Try.prog 14 #[.slice none 0 0] w fun e w' => Cln32 w 0 [] e w' :=
  (clone32_nil w).mono fun e w' h => ⟨none, h.1, by rw [h.2]; exact Below.refl _ _, Or.inl ⟨rfl, rfl⟩⟩
end Go.Proofs.Qxb6003688a
