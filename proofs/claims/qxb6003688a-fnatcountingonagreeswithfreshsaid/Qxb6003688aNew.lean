import Derived.Test.Qxb6003688aAt
import Derived.Test.Qxb6003688aWalk
import Derived.Laws.NewBlocks
namespace Go.Proofs.Qxb6003688a
open Go.RowKit Plain

theorem mode_is (cr : Bool) (w : World) : Calls Try.prog 11 #[.bool cr] w fun e w' => e = .returned (.int .i64 (brOf cr)) ∧ w' = w := by
  cases cr with
  | false =>
    go_enter Try.func11, Try.ntmps11
    go_wp2
    go_ret
    exact ⟨rfl, rfl⟩
  | true =>
    go_enter Try.func11, Try.ntmps11
    go_wp2
    go_ret
    exact ⟨rfl, rfl⟩

theorem new_is (a : Option Addr) (n : Nat) (br : Int) (w : World) : Calls Try.prog 10 #[.slice a n n, .int .i64 br] w fun e w' => e = .returned (.pointer (some ⟨w.heap.size, 0, none⟩)) ∧ Below w.heap.size w w' ∧ Cel w' w.heap.size a n br 0 0 0 := by
  go_enter Try.func10, Try.ntmps10
  go_wp2
  go_ret
  refine ⟨rfl, (Below.refl _ _).alloc (Nat.le_refl _) _, ?_⟩
  refine ⟨by simp, cell_new rfl rfl, cell_new rfl rfl, cell_new rfl rfl, cell_new rfl rfl, cell_new rfl rfl, ?_, ?_, ?_⟩ <;> exact World.frozen?_alloc_at _ _ _ _ rfl

/-- the bytes of a row of numbers -/
def bytesIn (zs : List Int) (n : Nat) : ByteArray := ⟨((zs.take n).map fun z => z.toNat.toUInt8).toArray⟩
theorem bytesIn_size {zs : List Int} {n : Nat} (h : n ≤ zs.length) : (bytesIn zs n).size = n := by
  rw [← len_of]; simp [bytesIn]; omega
theorem bytesIn_at {zs : List Int} {n j : Nat} (hz : ∀ x ∈ zs, (Lit.int .u8 x).wf = true) (h : n ≤ zs.length) (hj : j < (bytesIn zs n).size) : (((bytesIn zs n)[j]'hj).toNat : Int) = zs.getD j 0 := by
  have hj' := hj
  rw [bytesIn_size h] at hj'
  have e : (bytesIn zs n).data.toList[j]? = some ((zs.getD j 0).toNat.toUInt8) := by
    simp only [bytesIn, List.getElem?_map, List.getElem?_take_of_lt hj']
    rw [List.getElem?_eq_getElem (by omega)]
    simp [List.getD, List.getElem?_eq_getElem (show j < zs.length by omega)]
  rw [at_of hj] at e
  rw [Option.some.inj e]
  have hm : zs.getD j 0 ∈ zs := by
    simp only [List.getD, List.getElem?_eq_getElem (show j < zs.length by omega), Option.getD_some]
    exact List.getElem_mem _
  have := hz _ hm
  simp only [Lit.wf, Bool.and_eq_true, decide_eq_true_eq] at this
  generalize zs.getD j 0 = z at this
  have h1 : IntKind.u8.min = 0 := rfl
  have h2 : IntKind.u8.max = 255 := rfl
  rw [h1, h2] at this
  simp
  omega

theorem walk_any (C : Nat) (a : Option Addr) (s : ByteArray) (cr : Bool) (off : Nat) (w : World) (hs : s.size ≤ 65536) (ho : off ≤ s.size) (ht : Txt C w a s) :
    Calls Try.prog 9 #[.slice a s.size s.size, .bool cr, .int .i64 off] w fun e w' => WalkEnd s cr off e ∧ w' = w := by
  rcases ht with ⟨rfl, hz⟩ | ⟨B, rfl, _, hsrc⟩
  · obtain rfl : off = 0 := by omega
    exact walk_zero none s.size s.size s cr w
  · exact walk_some B s cr off w hs ho hsrc

/-- what a clone hands back -/
def Cln (w : World) (s : ByteArray) (e : Ending) (w' : World) : Prop := ∃ a, e = .returned (.slice a s.size s.size) ∧ Below w.heap.size w w' ∧ Txt w'.heap.size w' a s

theorem clone_any (x : Addr) (len cap : Nat) (zs : List Int) (w : World) (hlen : len ≤ 1048576) (hz : len ≤ zs.length)
    (hc : ∀ i, i < zs.length → w.cell? (x.add i) = some (.int .u8 (zs.getD i 0))) (hw : ∀ n ∈ zs, (Lit.int .u8 n).wf = true) :
    Calls Try.prog 8 #[.slice (some x) len cap] w fun e w' => Cln w (bytesIn zs len) e w' := by
  by_cases h0 : len = 0
  · subst h0
    refine (clone_zero x cap w).mono ?_
    rintro e w' ⟨rfl, h1, h2⟩
    have e0 := bytesIn_size hz
    refine ⟨_, by rw [e0], h1, Or.inr ⟨_, rfl, h2, fun j hj => ?_⟩⟩
    rw [e0] at hj
    omega
  · obtain ⟨b, o, sp⟩ := x
    have hx : sp = none := by
      have := hc 0 (by omega)
      cases sp with
      | none => rfl
      | some q =>
        simp [World.cell?, Addr.add] at this
        split at this <;> cases this
    subst hx
    have hc' : ∀ i, i < len → w.cell? ⟨b, o + i, none⟩ = some (.int .u8 (zs.getD i 0)) := fun i hi => by rw [← hc i (by omega), Go.WideShapes.add_plain]
    refine (clone_some b o len cap zs w hlen hz hc' (fun h0 => ?_)).mono ?_
    · have := hc' 0 h0
      rcases Nat.lt_or_ge b w.heap.size with h | h
      · exact h
      · simp [World.cell?, Array.getElem?_eq_none h] at this
    · rintro e w' ⟨rfl, h1, h2, h3⟩
      refine ⟨_, by rw [bytesIn_size hz], h1, Or.inr ⟨_, rfl, h2, fun j hj => ?_⟩⟩
      rw [bytesIn_at hw hz hj]
      exact h3 j (by rw [bytesIn_size hz] at hj; exact hj)

theorem clone_none (w : World) : Calls Try.prog 8 #[.slice none 0 0] w fun e w' => Cln w (bytesIn [] 0) e w' :=
  (clone_nil w).mono fun e w' h => ⟨none, h.1, by rw [h.2]; exact Below.refl _ _, Or.inl ⟨rfl, rfl⟩⟩

theorem Txt.below {C : Nat} {w w' : World} {a : Option Addr} {s : ByteArray} (h : Txt C w a s) (hb : Below C w w') : Txt C w' a s := by
  rcases h with h | ⟨B, h1, h2, h3⟩
  · exact Or.inl h
  · exact Or.inr ⟨B, h1, h2, fun j hj => (hb.cell (p := ⟨B, j, none⟩) h2).trans (h3 j hj)⟩
theorem Txt.mono {C C' : Nat} {w : World} {a : Option Addr} {s : ByteArray} (h : Txt C w a s) (hC : C ≤ C') : Txt C' w a s := by
  rcases h with h | ⟨B, h1, h2, h3⟩
  · exact Or.inl h
  · exact Or.inr ⟨B, h1, by omega, h3⟩
theorem Max.pos {w : World} {m : Int} (h : Max w m) : 0 < w.heap.size := by
  rcases Nat.lt_or_ge 0 w.heap.size with h' | h'
  · exact h'
  · unfold Max at h
    simp [World.cell?, Array.getElem?_eq_none h'] at h
theorem pos_of {w w1 : World} {m : Int} (h : Max w m) (hb : Below w.heap.size w w1) : 0 < w1.heap.size := Nat.lt_of_lt_of_le h.pos hb.size
theorem max_of {w w1 w2 : World} {m : Int} (h : Max w m) (hb : Below w.heap.size w w1) (hb2 : Below w1.heap.size w1 w2) : Max w2 m := (h.below h.pos hb).below (pos_of h hb) hb2
end Go.Proofs.Qxb6003688a
