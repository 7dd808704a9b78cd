import Derived.Test.Qxb6605297aMod
import Derived.Test.Qxb6605297aDec
import Derived.Test.Qxb6605297aCals
import Derived.Deep.QuietTactic
import Derived.BigQuiet
import Derived.Deep.CutBlock
import Derived.WalkSmall
import Derived.Laws.Cover3
import Derived.Laws.IdiomStrings
import Derived.Deep.RegionWith
import Derived.Room.AppendFits
namespace Go.Proofs.Qxb6605297a
open Go.RowKit

def wt (l : List Step) : Nat := (l.map fun c => c.name.size + c.key.size).sum
theorem nth_mem {cs : List Step} {k : Nat} (h : k < cs.length) : nth cs k ∈ cs := by
  unfold nth
  rw [List.getD, List.getElem?_eq_getElem h]
  exact List.getElem_mem _
theorem take_next {cs : List Step} {k : Nat} (h : k < cs.length) : cs.take (k + 1) = cs.take k ++ [nth cs k] := by
  rw [List.take_succ_eq_append_getElem h]
  unfold nth
  rw [List.getD, List.getElem?_eq_getElem h]
  rfl
theorem wt_snoc (l : List Step) (c : Step) : wt (l ++ [c]) = wt l + (c.name.size + c.key.size) := by simp [wt]
theorem wt_append (l r : List Step) : wt (l ++ r) = wt l + wt r := by simp [wt]
theorem wt_take (cs : List Step) (k : Nat) : wt (cs.take k) ≤ wt cs := by
  have := wt_append (cs.take k) (cs.drop k)
  rw [List.take_append_drop] at this
  omega

theorem name_le {cs : List Step} {k : Nat} (h : k < cs.length) : wt (cs.take k) + ((nth cs k).name.size + (nth cs k).key.size) ≤ wt cs := by
  rw [← wt_snoc, ← take_next h]; exact wt_take cs (k + 1)

def SumSt (w : World) (cs : List Step) (t i : Value) (wr : World) : Prop :=
  ∃ k : Nat, i = .int .i64 k ∧ k ≤ cs.length ∧ t = .int .i64 ((40 * cs.length + wt (cs.take k) : Nat) : Int) ∧ 40 * cs.length + wt (cs.take k) ≤ 1048576 ∧ Below w.heap.size w wr
def NamSt (cs : List Step) (i : Value) : Prop := ∃ k : Nat, i = .int .i64 k ∧ k ≤ cs.length ∧ ∀ c ∈ cs.take k, c.plain
def BytSt (nm : ByteArray) (j : Value) : Prop := ∃ m : Nat, j = .int .i64 m ∧ m ≤ nm.size ∧ ∀ x ∈ nm.data.toList.take m, x ≠ 46 ∧ x ≠ 91
theorem below_dn {B : Nat} {a w : World} (h : Below B a w) (n : Nat) : Below B a (w.drewN n) := ⟨h.os, h.tape, h.output, h.size, h.block⟩

theorem Try.info28 : (Try.prog.info? 28).map (fun i => (i.zero, i.size, i.bytes)) = some (some (.agg #[.string ⟨#[]⟩, .string ⟨#[]⟩, .int .u8 0, .int .u64 0]), 4, 48) := by kernel_rfl

/-- the copying loop's state -/
def FSt (wc : World) (cs : List Step) (i : Value) (wr : World) : Prop :=
  ∃ k : Nat, i = .int .i64 k ∧ k ≤ cs.length ∧ Cal wr wc.heap.size 0 (cs.take k) ∧ (∀ q, q < 4 * cs.length → ∃ v, wr.cell? ⟨wc.heap.size, q, none⟩ = some v) ∧ (∀ q, wr.frozen? ⟨wc.heap.size, q, none⟩ = false) ∧
    Below wc.heap.size wc wr ∧ wc.heap.size < wr.heap.size

theorem fst_start {wc w2 : World} {cs : List Step} {xs : List Value} (hown : w2.ownsRow wc.heap.size 28 4 (.slice (some ⟨wc.heap.size, 0, none⟩) cs.length cs.length) cs.length xs) (hgrow : wc.grownBy w2 none) :
    FSt wc cs (.int .i64 0) w2 := by
  refine ⟨0, rfl, Nat.zero_le _, fun i hi => by simp at hi, fun q hq => ?_, fun q => hown.frozenAt q, (Below.refl _ _).grown hgrow (Nat.le_refl _) (by simp), ?_⟩
  · rw [hown.cellAt q (by omega)]
    exact ⟨_, List.getElem?_eq_getElem (by rw [hown.1]; omega)⟩
  · rcases hown.2 with ⟨h', _⟩ | ⟨g', cap', cur, h', _, hg, _⟩
    · simp at h'
    · simp only [Value.slice.injEq, Option.some.injEq, Addr.mk.injEq, and_true, true_and] at h'
      obtain ⟨rfl, rfl⟩ := h'
      exact (Array.getElem?_eq_some_iff.1 hg).1

/-- four stores in a row -/
def set4 (w : World) (g p : Nat) (v0 v1 v2 v3 : Value) : World := (((w.setCell ⟨g, p, none⟩ v0).setCell ⟨g, p + 1, none⟩ v1).setCell ⟨g, p + 2, none⟩ v2).setCell ⟨g, p + 3, none⟩ v3
theorem ne_off {g i j : Nat} (h : i ≠ j) : (⟨g, i, none⟩ : Addr) ≠ ⟨g, j, none⟩ := by intro e; injection e with _ e _; exact h e
theorem set4_other (w : World) (g p q : Nat) (v0 v1 v2 v3 : Value) (h : q < p ∨ p + 3 < q) : (set4 w g p v0 v1 v2 v3).cell? ⟨g, q, none⟩ = w.cell? ⟨g, q, none⟩ := by
  unfold set4
  rw [World.cell?_setCell_other _ _ _ _ (ne_off (by omega)), World.cell?_setCell_other _ _ _ _ (ne_off (by omega)), World.cell?_setCell_other _ _ _ _ (ne_off (by omega)), World.cell?_setCell_other _ _ _ _ (ne_off (by omega))]
theorem set4_same (w : World) (g p : Nat) (v0 v1 v2 v3 : Value) (h : ∀ i, i < 4 → ∃ v, w.cell? ⟨g, p + i, none⟩ = some v) :
    (set4 w g p v0 v1 v2 v3).cell? ⟨g, p, none⟩ = some v0 ∧ (set4 w g p v0 v1 v2 v3).cell? ⟨g, p + 1, none⟩ = some v1 ∧ (set4 w g p v0 v1 v2 v3).cell? ⟨g, p + 2, none⟩ = some v2 ∧ (set4 w g p v0 v1 v2 v3).cell? ⟨g, p + 3, none⟩ = some v3 := by
  obtain ⟨a0, h0⟩ := h 0 (by omega)
  obtain ⟨a1, h1⟩ := h 1 (by omega)
  obtain ⟨a2, h2⟩ := h 2 (by omega)
  obtain ⟨a3, h3⟩ := h 3 (by omega)
  rw [Nat.add_zero] at h0
  unfold set4
  refine ⟨?_, ?_, ?_, ?_⟩
  · rw [World.cell?_setCell_other _ _ _ _ (ne_off (by omega)), World.cell?_setCell_other _ _ _ _ (ne_off (by omega)), World.cell?_setCell_other _ _ _ _ (ne_off (by omega))]
    exact World.cell?_setCell_same _ _ _ h0
  · rw [World.cell?_setCell_other _ _ _ _ (ne_off (by omega)), World.cell?_setCell_other _ _ _ _ (ne_off (by omega))]
    exact World.cell?_setCell_same _ _ _ (by rw [World.cell?_setCell_other _ _ _ _ (ne_off (by omega))]; exact h1)
  · rw [World.cell?_setCell_other _ _ _ _ (ne_off (by omega))]
    exact World.cell?_setCell_same _ _ _ (by rw [World.cell?_setCell_other _ _ _ _ (ne_off (by omega)), World.cell?_setCell_other _ _ _ _ (ne_off (by omega))]; exact h2)
  · exact World.cell?_setCell_same _ _ _ (by rw [World.cell?_setCell_other _ _ _ _ (ne_off (by omega)), World.cell?_setCell_other _ _ _ _ (ne_off (by omega)), World.cell?_setCell_other _ _ _ _ (ne_off (by omega))]; exact h3)

theorem nth_take {cs : List Step} {k i : Nat} (h : i < k) : nth (cs.take k) i = nth cs i := by
  unfold nth
  rw [List.getD, List.getD, List.getElem?_take_of_lt h]

theorem fst_next {wc wr : World} {cs : List Step} {k : Nat} (hlt : k < cs.length) (hcal : Cal wr wc.heap.size 0 (cs.take k)) (hall : ∀ q, q < 4 * cs.length → ∃ v, wr.cell? ⟨wc.heap.size, q, none⟩ = some v)
    (hfr : ∀ q, wr.frozen? ⟨wc.heap.size, q, none⟩ = false) (hb : Below wc.heap.size wc wr) (hsz : wc.heap.size < wr.heap.size) :
    FSt wc cs (.int .i64 ((k : Int) + 1)) (set4 wr wc.heap.size (k * 4) (.string (nth cs k).name) (.string (nth cs k).key) (.int .u8 (nth cs k).kind) (.int .u64 ((nth cs k).num : Int))) := by
  have hs := set4_same wr wc.heap.size (k * 4) (.string (nth cs k).name) (.string (nth cs k).key) (.int .u8 (nth cs k).kind) (.int .u64 ((nth cs k).num : Int)) (fun i hi => hall (k * 4 + i) (by omega))
  refine ⟨k + 1, by simp, hlt, fun i hi => ?_, fun q hq => ?_, fun q => ?_, ?_, ?_⟩
  · have hi' : i < k + 1 := by simp at hi; omega
    rw [nth_take hi']
    by_cases e : i = k
    · subst e
      simp only [Nat.zero_add]
      exact hs
    · have hik : i < k := by omega
      obtain ⟨h0, h1, h2, h3⟩ := hcal i (by simp; omega)
      rw [nth_take hik] at h0 h1 h2 h3
      rw [set4_other _ _ _ _ _ _ _ _ (by omega), set4_other _ _ _ _ _ _ _ _ (by omega), set4_other _ _ _ _ _ _ _ _ (by omega), set4_other _ _ _ _ _ _ _ _ (by omega)]
      exact ⟨h0, h1, h2, h3⟩
  · by_cases e : q < k * 4 ∨ k * 4 + 3 < q
    · rw [set4_other _ _ _ _ _ _ _ _ e]; exact hall q hq
    · have : q = k * 4 ∨ q = k * 4 + 1 ∨ q = k * 4 + 2 ∨ q = k * 4 + 3 := by omega
      rcases this with rfl | rfl | rfl | rfl
      · exact ⟨_, hs.1⟩
      · exact ⟨_, hs.2.1⟩
      · exact ⟨_, hs.2.2.1⟩
      · exact ⟨_, hs.2.2.2⟩
  · unfold set4
    rw [World.frozen?_setCell, World.frozen?_setCell, World.frozen?_setCell, World.frozen?_setCell]; exact hfr q
  · exact (((hb.setCell (Nat.le_refl _) _).setCell (Nat.le_refl _) _).setCell (Nat.le_refl _) _).setCell (Nat.le_refl _) _
  · unfold set4
    rw [World.size_setCell, World.size_setCell, World.size_setCell, World.size_setCell]; exact hsz

theorem digs_len (k : Nat) : ∀ n : Nat, n < 10 ^ (k + 1) → (digs n).length ≤ k + 1 := by
  induction k with
  | zero =>
    intro n h
    rw [digs_low (by simpa using h)]; exact Nat.le_refl _
  | succ k ih =>
    intro n h
    by_cases h10 : n < 10
    · rw [digs_low h10]; simp
    · rw [digs_high h10, List.length_append]
      have := ih (n / 10) (by rw [Nat.pow_succ] at h; omega)
      simp only [List.length_singleton]
      omega
theorem esc_len : ∀ l : List UInt8, (esc l).length ≤ 2 * l.length
  | [] => Nat.le_refl _
  | b :: l => by
    have := esc_len l
    unfold esc
    split <;> simp <;> omega
theorem key_len (c : Step) (h : c.num < 18446744073709551616) : c.keyText.length ≤ 22 + 2 * c.key.size := by
  have hd := digs_len 19 c.num (by omega)
  have he := esc_len c.key.data.toList
  rw [len_of] at he
  unfold Step.keyText
  split
  · simp; omega
  · split
    · simp
    · simp; omega
theorem txt_len (c : Step) (h : c.num < 18446744073709551616) : c.txt.length ≤ 29 + c.name.size + 2 * c.key.size := by
  have := key_len c h
  unfold Step.txt Step.nm
  rw [List.length_append, List.length_append, len_of]
  simp only [modl, List.length_cons, List.length_nil]
  omega
theorem comp_len (l : List Step) (h : ∀ c ∈ l, c.num < 18446744073709551616) : (comp l).length ≤ 30 * l.length + 2 * wt l ∧ (cont l).length ≤ 30 * l.length + 2 * wt l := by
  have hc : (cont l).length ≤ 30 * l.length + 2 * wt l := by
    induction l with
    | nil => simp [cont]
    | cons c l ih =>
      have h1 := txt_len c (h c (by simp))
      have h2 := ih (fun d hd => h d (by simp [hd]))
      have e : cont (c :: l) = 46 :: (c.txt ++ cont l) := by simp [cont]
      rw [e]
      simp only [List.length_cons, List.length_append]
      have e2 : wt (c :: l) = (c.name.size + c.key.size) + wt l := by simp [wt]
      omega
  exact ⟨Nat.le_trans (comp_le l) hc, hc⟩
theorem names_len (l : List Step) : (names l).length ≤ l.length + wt l := by
  induction l with
  | nil => simp [names]
  | cons c l ih =>
    have e : names (c :: l) = (c.nm ++ [46]) ++ names l := by simp [names]
    have e2 : wt (c :: l) = (c.name.size + c.key.size) + wt l := by simp [wt]
    rw [e, List.length_append, List.length_append]
    unfold Step.nm
    rw [len_of]
    simp only [List.length_cons, List.length_nil]
    omega

theorem own_lt {w : World} {base e size g n cap : Nat} {xs : List Value} (h : w.ownsRow base e size (.slice (some ⟨g, 0, none⟩) n cap) n xs) : g < w.heap.size := by
  rcases h.2 with ⟨h', _⟩ | ⟨g', cap', cur, h', _, hg, _⟩
  · simp at h'
  · simp only [Value.slice.injEq, Option.some.injEq, Addr.mk.injEq, and_true, true_and] at h'
    obtain ⟨rfl, rfl⟩ := h'
    exact (Array.getElem?_eq_some_iff.1 hg).1

/-- a row that took more bytes -/
theorem own_more {w : World} {B g cap n m : Nat} {l r : List UInt8} (h : w.ownsRow B 5 1 (.slice (some ⟨g, 0, none⟩) (n + m) cap) (n + m) (Lib.byteCells l ++ Lib.byteCells r)) (hn : l.length = n) (hm : r.length = m) : Own w B g cap (l ++ r) := by
  unfold Own
  rw [List.length_append, bc_append, hn, hm]
  exact h
/-- a literal's row -/
theorem lit_cells (w : World) (bs : List UInt8) : ∀ j u, (Lib.byteCells bs)[j]? = some u → (w.alloc (.cells (Lib.byteCells bs).toArray 5)).cell? ((⟨w.heap.size, 0, none⟩ : Addr).add j) = some u := by
  intro j u hu
  rw [Go.WideShapes.add_plain, Nat.zero_add, World.cell?_alloc_new]
  simpa using hu

/-- what the composing loop's round stands on besides the row that it writes: nothing but block ga and what is new turned -/
structure Env (w0 : World) (cs : List Step) (g gb capB n : Nat) (nmv : List UInt8) (c : Step) (wx : World) : Prop where
  own : Own wx w0.heap.size gb capB nmv
  cal : Cal wx g 0 cs
  hg : g < wx.heap.size
  x0 : wx.cell? ⟨n, 0, none⟩ = some (.string c.name)
  x1 : wx.cell? ⟨n, 1, none⟩ = some (.string c.key)
  x2 : wx.cell? ⟨n, 2, none⟩ = some (.int .u8 c.kind)
  x3 : wx.cell? ⟨n, 3, none⟩ = some (.int .u64 (c.num : Int))
  hn : n < wx.heap.size
  bel : Below w0.heap.size w0 wx

theorem Env.step {w0 : World} {cs : List Step} {g gb capB n ga : Nat} {nmv : List UInt8} {c : Step} {wx w' : World} (h : Env w0 cs g gb capB n nmv c wx) (hk : ∀ q, q < wx.heap.size → q ≠ ga → w'.heap[q]? = wx.heap[q]?) (hb : Below w0.heap.size wx w')
    (h1 : g ≠ ga) (h2 : gb ≠ ga) (h3 : n ≠ ga) : Env w0 cs g gb capB n nmv c w' := by
  have cell : ∀ q i, q < wx.heap.size → q ≠ ga → w'.cell? ⟨q, i, none⟩ = wx.cell? ⟨q, i, none⟩ := fun q i hq hqa => World.cell?_of_block (w := wx) (hk q hq hqa)
  refine ⟨h.own.keep (hk gb h.own.lt h2), fun i hi => ?_, Nat.lt_of_lt_of_le h.hg hb.size, (cell n 0 h.hn h3).trans h.x0, (cell n 1 h.hn h3).trans h.x1, (cell n 2 h.hn h3).trans h.x2, (cell n 3 h.hn h3).trans h.x3, Nat.lt_of_lt_of_le h.hn hb.size, h.bel.trans hb⟩
  obtain ⟨e0, e1, e2, e3⟩ := h.cal i hi
  exact ⟨(cell g _ h.hg h1).trans e0, (cell g _ h.hg h1).trans e1, (cell g _ h.hg h1).trans e2, (cell g _ h.hg h1).trans e3⟩

theorem grow_kept {w wx w' : World} {B ga : Nat} (hb : Below B w wx) (hk : ∀ q, q < w.heap.size → q ≠ ga → wx.heap[q]? = w.heap[q]?) (hg : wx.grownBy w' (some ga)) : ∀ q, q < w.heap.size → q ≠ ga → w'.heap[q]? = w.heap[q]? :=
  fun q hq hqa => (hg.block q (Nat.lt_of_lt_of_le hq hb.size) (by intro e; injection e with e; exact hqa e)).trans (hk q hq hqa)
/-- the composing loop's state -/
def PSt (w0 : World) (cs : List Step) (g ga gb capA capB : Nat) (va vb i : Value) (wr : World) : Prop :=
  ∃ k : Nat, i = .int .i64 k ∧ k ≤ cs.length ∧ va = .slice (some ⟨ga, 0, none⟩) (comp (cs.take k)).length capA ∧ vb = .slice (some ⟨gb, 0, none⟩) (names (cs.take k)).length capB ∧
    Own wr w0.heap.size ga capA (comp (cs.take k)) ∧ Own wr w0.heap.size gb capB (names (cs.take k)) ∧ Cal wr g 0 cs ∧ g < wr.heap.size ∧ Below w0.heap.size w0 wr

/-- the row that is written, and all else -/
def Row (w0 : World) (cs : List Step) (g ga gb capA capB n : Nat) (nmv : List UInt8) (c : Step) (l : List UInt8) (v : Value) (wx : World) : Prop :=
  v = .slice (some ⟨ga, 0, none⟩) l.length capA ∧ Own wx w0.heap.size ga capA l ∧ Env w0 cs g gb capB n nmv c wx
theorem kept_alloc (w : World) (x : Obj) (ga : Nat) : ∀ q, q < w.heap.size → q ≠ ga → (w.alloc x).heap[q]? = w.heap[q]? := fun q hq _ => Below.heap_alloc w x q hq
theorem comp_next {cs : List Step} {k : Nat} (h : k < cs.length) : comp (cs.take (k + 1)) = (if k = 0 then [] else comp (cs.take k) ++ [46]) ++ (nth cs k).txt := by
  rw [take_next h, comp_snoc]
  by_cases hk : k = 0
  · subst hk; simp
  · have : cs.take k ≠ [] := by
      intro e
      have := congrArg List.length e
      rw [List.length_take_of_le (Nat.le_of_lt h)] at this
      exact hk this
    rw [if_neg this, if_neg hk]
    simp
theorem env_start {w0 wr : World} {cs : List Step} {g gb capB : Nat} {nmv : List UInt8} (ho : Own wr w0.heap.size gb capB nmv) (hc : Cal wr g 0 cs) (hg : g < wr.heap.size) (hb : Below w0.heap.size w0 wr) (c : Step) :
    Env w0 cs g gb capB wr.heap.size nmv c (wr.alloc (.cells #[.string c.name, .string c.key, .int .u8 c.kind, .int .u64 (c.num : Int)] 28)) := by
  refine ⟨ho.keep (Below.heap_alloc wr _ gb ho.lt), fun i hi => ?_, by simp; omega, ?_, ?_, ?_, ?_, by simp, hb.alloc hb.size _⟩
  · obtain ⟨e0, e1, e2, e3⟩ := hc i hi
    rw [World.cell?_alloc_past _ _ _ hg, World.cell?_alloc_past _ _ _ hg, World.cell?_alloc_past _ _ _ hg, World.cell?_alloc_past _ _ _ hg]
    exact ⟨e0, e1, e2, e3⟩
  · rw [World.cell?_alloc_new]; rfl
  · rw [World.cell?_alloc_new]; rfl
  · rw [World.cell?_alloc_new]; rfl
  · rw [World.cell?_alloc_new]; rfl
theorem Own.row {w : World} {B g cap n : Nat} {l : List UInt8} (h : Own w B g cap l) (hn : l.length = n) : w.ownsRow B 5 1 (.slice (some ⟨g, 0, none⟩) n cap) n (Lib.byteCells l) := by
  rw [← hn]; exact h
theorem Own.base {w : World} {B g cap : Nat} {l : List UInt8} (h : Own w B g cap l) : B ≤ g := by
  rcases h.2 with ⟨h', _⟩ | ⟨g', cap', cur, h', hb', _⟩
  · simp at h'
  · simp only [Value.slice.injEq, Option.some.injEq, Addr.mk.injEq, and_true, true_and] at h'
    obtain ⟨rfl, rfl⟩ := h'
    exact hb'
theorem Own.alloc {w : World} {B g cap : Nat} {l : List UInt8} (h : Own w B g cap l) (x : Obj) : Own (w.alloc x) B g cap l := h.keep (Below.heap_alloc w x g h.lt)

/-- behind an append of a literal's bytes -/
theorem row_lit {w0 : World} {cs : List Step} {g ga gb capA capB n n0 m : Nat} {nmv l bs : List UInt8} {c : Step} {wx w5 : World} {x : Obj} (hr : Own wx w0.heap.size ga capA l) (he : Env w0 cs g gb capB n nmv c wx)
    (ho : w5.ownsRow w0.heap.size 5 1 (.slice (some ⟨ga, 0, none⟩) (n0 + m) capA) (n0 + m) (Lib.byteCells l ++ Lib.byteCells bs)) (hn0 : l.length = n0) (hm : bs.length = m) (hg : (wx.alloc x).grownBy w5 (some ga)) (h1 : g ≠ ga) (h2 : gb ≠ ga) (h3 : n ≠ ga) :
    Own w5 w0.heap.size ga capA (l ++ bs) ∧ Env w0 cs g gb capB n nmv c w5 := by
  have hsz := he.bel.size
  have hb : Below w0.heap.size wx (wx.alloc x) := (Below.refl _ _).alloc hsz x
  refine ⟨own_more ho hn0 hm, he.step (grow_kept hb (kept_alloc wx x ga) hg) (hb.grown hg (by simp; omega) (fun k hk => by injection hk with hk; rw [← hk]; exact hr.base)) h1 h2 h3⟩
theorem row_str {w0 : World} {cs : List Step} {g ga gb capA capB n n0 m : Nat} {nmv l bs : List UInt8} {c : Step} {wx w5 : World} (hr : Own wx w0.heap.size ga capA l) (he : Env w0 cs g gb capB n nmv c wx)
    (ho : w5.ownsRow w0.heap.size 5 1 (.slice (some ⟨ga, 0, none⟩) (n0 + m) capA) (n0 + m) (Lib.byteCells l ++ Lib.byteCells bs)) (hn0 : l.length = n0) (hm : bs.length = m) (hg : wx.grownBy w5 (some ga)) (h1 : g ≠ ga) (h2 : gb ≠ ga) (h3 : n ≠ ga) :
    Own w5 w0.heap.size ga capA (l ++ bs) ∧ Env w0 cs g gb capB n nmv c w5 := by
  have hsz := he.bel.size
  refine ⟨own_more ho hn0 hm, he.step (grow_kept (Below.refl w0.heap.size wx) (fun _ _ _ => rfl) hg) ((Below.refl _ _).grown hg hsz (fun k hk => by injection hk with hk; rw [← hk]; exact hr.base)) h1 h2 h3⟩
theorem dec_n (B g cap n n' num : Nat) (l : List UInt8) (w : World) (hn : l.length = n) (hn' : Hid ((l ++ digs num).length = n')) (hnum : num < 18446744073709551616) (ho : Own w B g cap l) (hroom : n + 20 ≤ cap) :
    Calls Try.prog 9 #[.slice (some ⟨g, 0, none⟩) n cap, .int .u64 num] w fun e w' => e = .returned (.slice (some ⟨g, 0, none⟩) n' cap) ∧ Own w' B g cap (l ++ digs num) ∧
      (∀ k, k < w.heap.size → k ≠ g → w'.heap[k]? = w.heap[k]?) ∧ Below B w w' := by
  subst hn; rw [← unhide hn']; exact dec_is B g cap num l w hnum ho hroom

theorem esc_append : ∀ l r : List UInt8, esc (l ++ r) = esc l ++ esc r
  | [], _ => rfl
  | b :: l, r => by
    rw [List.cons_append, esc, esc, esc_append l r]
    split <;> simp
theorem esc_next {key : ByteArray} {j : Nat} (h : j < key.size) : esc (key.data.toList.take (j + 1)) = esc (key.data.toList.take j) ++ esc [key[j]] := by
  rw [List.take_succ_eq_append_getElem (by rw [len_of]; exact h), esc_append]; rfl
theorem esc_two {b : UInt8} (h : b = 34 ∨ b = 92) : esc [b] = [92, b] := by rcases h with rfl | rfl <;> rfl
theorem esc_one {b : UInt8} (h1 : b ≠ 34) (h2 : b ≠ 92) : esc [b] = [b] := by simp [esc, h1, h2]

/-- the key loop's state -/
def KSt (w0 : World) (cs : List Step) (g ga gb capA capB n : Nat) (nmv : List UInt8) (c : Step) (l : List UInt8) (v j : Value) (wr : World) : Prop :=
  ∃ i : Nat, j = .int .i64 i ∧ i ≤ c.key.size ∧ Row w0 cs g ga gb capA capB n nmv c (l ++ esc (c.key.data.toList.take i)) v wr
/-- the bytes of a row of our own, as a string -/
theorem string_of {w : World} {B g cap : Nat} {l : List UInt8} (h : Own w B g cap l) : (convert 29 9 (.slice (some ⟨g, 0, none⟩) l.length cap)).run Try.prog w = .ok (.string ⟨l.toArray⟩) w := by
  refine run_convert_bytes_back w 29 9 5 ⟨g, 0, none⟩ cap l Try.underlying29 Try.underlying5 Try.underlying9 fun j hj => ?_
  rw [Go.WideShapes.add_plain, Nat.zero_add, h.cellAt j (by omega)]
  unfold Lib.byteCells
  rw [List.getElem?_map, List.getElem?_eq_getElem hj]
  rfl

theorem zz_is (s : ByteArray) (cs : List Step) (w : World) (hs : s.data.toList = comp cs) (hz : s.size ≤ 4194304) (hp : ∀ c ∈ cs, c.plain) (hn : (names cs).length ≤ 8388608) :
    Calls Try.prog 6 #[.string s] w fun e w' => e = .returned (.string ⟨(names cs).toArray⟩) ∧ Below w.heap.size w w' := by
  have HM := hide (mod_is s cs w hs hz hp hn)
  clear hs hp
  go_enter Try.func6, Try.ntmps6
  go_wp2_with (go_at_call 10; refine (unhide HM).mono ?_; rintro e w1 ⟨rfl, hb⟩)
  go_ret
  exact ⟨rfl, hb⟩
end Go.Proofs.Qxb6605297a
