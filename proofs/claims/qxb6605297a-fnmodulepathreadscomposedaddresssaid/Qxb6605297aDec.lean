import Derived.Test.Qxb6605297aPlain
import Derived.Deep.DeepAppendRoom
import Derived.Lib.UnsafeStr
import Derived.OwnWalk
import Derived.Laws.NewBlocks
namespace Go.Proofs.Qxb6605297a
open Go.RowKit

theorem Try.info5 : (Try.prog.info? 5).map (fun i => (i.zero, i.size, i.bytes)) = some (some (.int .u8 0), 1, 1) := by kernel_rfl

/-- a row of bytes of our own, in block g, from block B on -/
def Own (w : World) (B g cap : Nat) (l : List UInt8) : Prop := w.ownsRow B 5 1 (.slice (some ⟨g, 0, none⟩) l.length cap) l.length (Lib.byteCells l)

theorem Own.keep {w w' : World} {B g cap : Nat} {l : List UInt8} (h : Own w B g cap l) (e : w'.heap[g]? = w.heap[g]?) : Own w' B g cap l := by
  refine ⟨h.1, ?_⟩
  rcases h.2 with ⟨h', _⟩ | ⟨g', cap', cur, h', h1, h2, h3⟩
  · simp at h'
  · simp only [Value.slice.injEq, Option.some.injEq, Addr.mk.injEq, and_true, true_and] at h'
    obtain ⟨rfl, rfl⟩ := h'
    exact Or.inr ⟨g, cap, cur, rfl, h1, by rw [e]; exact h2, h3⟩
theorem Own.lt {w : World} {B g cap : Nat} {l : List UInt8} (h : Own w B g cap l) : g < w.heap.size := by
  rcases h.2 with ⟨h', _⟩ | ⟨g', cap', cur, h', _, hg, _⟩
  · simp at h'
  · simp only [Value.slice.injEq, Option.some.injEq, Addr.mk.injEq, and_true, true_and] at h'
    obtain ⟨rfl, rfl⟩ := h'
    exact (Array.getElem?_eq_some_iff.1 hg).1

theorem digs_low {n : Nat} (h : n < 10) : digs n = [(48 + n).toUInt8] := by rw [digs, if_pos h]
theorem digs_high {n : Nat} (h : ¬ n < 10) : digs n = digs (n / 10) ++ [(48 + n % 10).toUInt8] := by
  conv => lhs; rw [digs]
  rw [if_neg h]

theorem bc_len (l : List UInt8) : (Lib.byteCells l).length = l.length := by simp [Lib.byteCells]
theorem bc_append (l r : List UInt8) : Lib.byteCells (l ++ r) = Lib.byteCells l ++ Lib.byteCells r := by simp [Lib.byteCells]
theorem bc_one (l : List UInt8) : ∀ u ∈ Lib.byteCells l, u.oneCell' = true := by
  intro u hu
  unfold Lib.byteCells at hu
  obtain ⟨x, _, rfl⟩ := List.mem_map.1 hu
  rfl
theorem bc_cells {w : World} {b k : Nat} {xs : List UInt8} (h : ∀ j x, xs[j]? = some x → w.cell? ⟨b, k + j, none⟩ = some (.int .u8 (x.toNat : Int))) :
    ∀ j u, (Lib.byteCells xs)[j]? = some u → w.cell? ((⟨b, k, none⟩ : Addr).add j) = some u := by
  intro j u hu
  unfold Lib.byteCells at hu
  rw [List.getElem?_map] at hu
  cases hx : xs[j]? with
  | none => rw [hx] at hu; cases hu
  | some x =>
    rw [hx] at hu
    injection hu with hu
    rw [Go.WideShapes.add_plain, ← hu]
    exact h j x hx

/-- the loop's state: the digits that stand from place k on -/
def DSt (num : Nat) (b : Nat) (w0 : World) (nv kv : Value) (wr : World) : Prop :=
  ∃ (m k : Nat) (ds : List UInt8), nv = .int .u64 m ∧ kv = .int .i64 k ∧ 1 ≤ k ∧ ds.length + k = 20 ∧ m < 10 ^ k ∧ m < 18446744073709551616 ∧ digs num = digs m ++ ds ∧
    (∀ j x, ds[j]? = some x → wr.cell? ⟨b, k + j, none⟩ = some (.int .u8 (x.toNat : Int))) ∧ (∀ j, j < 20 → ∃ v, wr.cell? ⟨b, j, none⟩ = some v) ∧ (∀ j, wr.frozen? ⟨b, j, none⟩ = false) ∧
    Below w0.heap.size w0 wr ∧ b < wr.heap.size

theorem len31 : Try.prog.arrayLen 31 = 20 := by unfold Program.arrayLen; rw [Try.underlying31]
theorem elem31 : Try.prog.elem 31 = 5 := by unfold Program.elem; rw [Try.underlying31]
theorem cut_arr (w : World) (b k : Nat) (hk : k < 20) : (Instr.sliceAt 31 (.pointer (some ⟨b, 0, none⟩)) (some (.int .i64 (k : Int))) none none).run Try.prog w = .ok (.slice (some ⟨b, k, none⟩) (20 - k) (20 - k)) w := by
  rw [run_sliceAt_array_l w 31 ⟨b, 0, none⟩ (by rw [len31, elem31]; exact Try.underlying31) .i64 (k : Int) (by omega) (by rw [len31]; omega), elem31, len31, Try.sizeOf5]
  simp only [Result.andThen_ok, slicedAt, Int.toNat_natCast]
  rw [if_neg (by omega)]
  simp [Go.WideShapes.add_plain]

theorem dig_val {d : Nat} (h : d < 10) : (((48 + d).toUInt8.toNat : Nat) : Int) = 48 + (d : Int) := by
  have : d = 0 ∨ d = 1 ∨ d = 2 ∨ d = 3 ∨ d = 4 ∨ d = 5 ∨ d = 6 ∨ d = 7 ∨ d = 8 ∨ d = 9 := by omega
  rcases this with rfl | rfl | rfl | rfl | rfl | rfl | rfl | rfl | rfl | rfl <;> decide

theorem cells_next {wr : World} {b k d : Nat} {ds : List UInt8} {v0 : Value} (hd : d < 10) (hv0 : wr.cell? ⟨b, k, none⟩ = some v0) (hc : ∀ j x, ds[j]? = some x → wr.cell? ⟨b, k + 1 + j, none⟩ = some (.int .u8 (x.toNat : Int))) :
    ∀ j x, ((48 + d).toUInt8 :: ds)[j]? = some x → (wr.setCell ⟨b, k, none⟩ (.int .u8 (48 + (d : Int)))).cell? ⟨b, k + j, none⟩ = some (.int .u8 (x.toNat : Int)) := by
  intro j x hx
  cases j with
  | zero =>
    injection hx with hx
    rw [← hx, dig_val hd]
    exact World.cell?_setCell_same _ _ _ hv0
  | succ j =>
    rw [World.cell?_setCell_other _ _ _ _ (by intro e; injection e with _ e _; omega), show k + (j + 1) = k + 1 + j by omega]
    exact hc j x hx

set_option maxRecDepth 100000 in
set_option maxHeartbeats 3200000 in
theorem dec_is (B g cap num : Nat) (l : List UInt8) (w : World) (hnum : num < 18446744073709551616) (ho : Own w B g cap l) (hroom : l.length + 20 ≤ cap) :
    Calls Try.prog 9 #[.slice (some ⟨g, 0, none⟩) l.length cap, .int .u64 num] w fun e w' => e = .returned (.slice (some ⟨g, 0, none⟩) (l ++ digs num).length cap) ∧ Own w' B g cap (l ++ digs num) ∧
      (∀ k, k < w.heap.size → k ≠ g → w'.heap[k]? = w.heap[k]?) ∧ Below B w w' := by
  obtain ⟨i0, hi, hz0, hz1, hz2⟩ := info_parts Try.info5
  have HO := hide ho
  clear ho
  go_enter Try.func9, Try.ntmps9
  go_wp2_with fail
  go_loopw [1, 6] (fun nv kv wr => DSt num w.heap.size w nv kv wr) (fun nv _ _ => (intOf nv).toNat)
  case atStart =>
    refine ⟨num, 20, [], rfl, rfl, by omega, rfl, by omega, hnum, by simp, fun j x hx => by simp at hx, fun j hj => ⟨_, (World.cell?_alloc_at _ _ _ _ rfl).trans (Array.getElem?_eq_getElem (by simpa using hj))⟩, fun j => World.frozen?_alloc_at _ _ _ _ rfl, (Below.refl _ _).alloc (Nat.le_refl _) _, by simp⟩
  case round =>
    obtain ⟨m, k, ds, rfl, rfl, hk1, hdk, hmk, hm64, hdig, hcell, hall, hfr, hbel, hbs⟩ := hrel
    obtain ⟨k, rfl⟩ : ∃ j, k = j + 1 := ⟨k - 1, by omega⟩
    obtain ⟨v0, hv0⟩ := hall k (by omega)
    have hf0 := hfr k
    have HD := hide hdig
    have HC := hide hcell
    have HA := hide hall
    have HF := hide hfr
    have HB := hide hbel
    have HMK := hide hmk
    clear hdig hcell hall hfr hbel hmk
    by_cases hlt : m < 10
    · have hsl := fun w' => cut_arr w' w.heap.size k (by omega)
      have hnb : w.heap.size ≠ g := by have := (unhide HO).lt; omega
      obtain ⟨xs, hxs⟩ : ∃ xs, xs = (48 + m).toUInt8 :: ds := ⟨_, rfl⟩
      have HN := hide (cells_next hlt hv0 (unhide HC))
      rw [← hxs] at HN
      have HO2 := hide (show Own (wr.setCell ⟨w.heap.size, k, none⟩ (.int .u8 (48 + (m : Int)))) B g cap l from (unhide HO).keep (by rw [Below.heap_setCell _ _ _ _ (Ne.symm hnb), (unhide HB).block g (unhide HO).lt]))
      have HD2 := hide (show digs num = xs by rw [unhide HD, digs_low hlt, hxs]; rfl)
      have hxl : xs.length = 20 - k := by rw [hxs]; simp; omega
      have HXL := hide hxl
      clear hxs hxl
      go_wp2_with (first
        | (at_builtin; refine wpList_append_own_spare _ rfl (.tmp 26) (.tmp 28) 29 rfl B 5 i0 1 Try.underlying29 hi hz1 g l.length cap _ rfl (unhide HO2) ⟨w.heap.size, k, none⟩ (20 - k) (20 - k) (Lib.byteCells xs) rfl (by rw [bc_len, unhide HXL, Nat.mul_one]) (bc_cells (unhide HN)) (bc_one xs) (by omega) ?_; intro w2 hown2 hgrow2)
        | fail)
      have HO3 := hide hown2
      have HG := hide hgrow2
      clear hown2 hgrow2
      go_ret
      have hl2 : (l ++ digs num).length = l.length + (20 - k) := by rw [List.length_append, unhide HD2, unhide HXL]
      have hg0 := unhide HG
      have hfr : ∀ q, q < w.heap.size → q ≠ g → w2.heap[q]? = w.heap[q]? := fun q hq hqg => by
        rw [hg0.block q (by rw [World.size_setCell]; omega) (by intro e; injection e with e; exact hqg e), Below.heap_setCell _ _ _ _ (by show q ≠ w.heap.size; omega), (unhide HB).block q hq]
      refine ⟨by rw [hl2]; rfl, ?_, hfr, ?_⟩
      · unfold Own
        rw [hl2, unhide HD2, bc_append]
        exact unhide HO3
      · have hgB : B ≤ g := by
          rcases (unhide HO).2 with ⟨h', _⟩ | ⟨g', cap', cur, h', hb', _⟩
          · simp at h'
          · simp only [Value.slice.injEq, Option.some.injEq, Addr.mk.injEq, and_true, true_and] at h'
            obtain ⟨rfl, rfl⟩ := h'
            exact hb'
        have hgl := (unhide HO).lt
        exact (((unhide HB).mono (by omega)).setCell (p := ⟨w.heap.size, k, none⟩) (by show B ≤ w.heap.size; omega) _).grown hg0 (by rw [World.size_setCell]; omega) (fun q hq => by injection hq with hq; omega)
    · have hk2 : 1 ≤ k := by
        rcases Nat.eq_zero_or_pos k with h | h
        · subst h
          have := unhide HMK
          simp at this
          omega
        · exact h
      go_wp2_with fail
      refine ⟨⟨m / 10, k, (48 + m % 10).toUInt8 :: ds, by simp, rfl, hk2, by simp; omega, ?_, by omega, ?_, ?_, ?_, ?_, (unhide HB).setCell (Nat.le_refl _) _, ?_⟩, ?_⟩
      · have := unhide HMK
        rw [Nat.pow_succ] at this
        omega
      · rw [unhide HD, digs_high hlt]; simp
      · have := cells_next (d := m % 10) (by omega) hv0 (unhide HC)
        simpa using this
      · intro j hj
        by_cases e : j = k
        · subst e; exact ⟨_, World.cell?_setCell_same _ _ _ hv0⟩
        · rw [World.cell?_setCell_other _ _ _ _ (by intro e'; injection e' with _ e' _; omega)]
          exact unhide HA j hj
      · intro j
        rw [World.frozen?_setCell]; exact unhide HF j
      · simpa [World.setCell] using hbs
      · simp [intOf]; omega
end Go.Proofs.Qxb6605297a
