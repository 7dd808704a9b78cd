import Derived.Test.Qxb6003688aLast
import Derived.Lib.SlBytesConst
namespace Go.Proofs.Qxb6003688a
open Go.RowKit Plain

/-- a slice that shows the bytes bs: nil and empty, or cells of a block below C -/
def Pas (C : Nat) (w : World) (a : Option Addr) (n c : Nat) (bs : List UInt8) : Prop :=
  bs.length = n ∧ n ≤ c ∧ n ≤ 65536 ∧ ((a = none ∧ n = 0 ∧ c = 0) ∨ ∃ b o, a = some ⟨b, o, none⟩ ∧ (b < C ∨ n = 0) ∧ Seg w b o bs)

theorem Pas.below {C : Nat} {w w' : World} {a : Option Addr} {n c : Nat} {bs : List UInt8} (h : Pas C w a n c bs) (hb : Below C w w') : Pas C w' a n c bs := by
  obtain ⟨h1, h2, h3, h4⟩ := h
  refine ⟨h1, h2, h3, ?_⟩
  rcases h4 with h4 | ⟨b, o, rfl, h5, h6⟩
  · exact Or.inl h4
  · refine Or.inr ⟨b, o, rfl, h5, fun i x hx => ?_⟩
    rcases h5 with h5 | h5
    · exact (hb.cell (p := ⟨b, o + i, none⟩) h5).trans (h6 i x hx)
    · obtain ⟨hlt, _⟩ := List.getElem?_eq_some_iff.1 hx
      omega

/-- the library's variable holds some number -/
def Max (w : World) (m : Int) : Prop := w.cell? ⟨0, 0, none⟩ = some (.int .i64 m)
theorem Max.below {C : Nat} {w w' : World} {m : Int} (h : Max w m) (hC : 0 < C) (hb : Below C w w') : Max w' m := (hb.cell (p := ⟨0, 0, none⟩) hC).trans h

theorem suffix_p (C : Nat) (a : Option Addr) (n c k d : Nat) (bs : List UInt8) (r : Bool) (w0 w : World) (hp : Hid (Pas C w0 a n c bs)) (hb : Below C w0 w) (hx : w.cell? ⟨k, 0, none⟩ = some (.int .u8 13)) (hr : Hid ((bs[n - 1]? == some 13) = r)) :
    Calls Try.prog 22 #[.slice a n c, .slice (some ⟨k, 0, none⟩) 1 d] w fun e w' => e = .returned (.bool r) ∧ w' = w := by
  obtain ⟨h1, h2, h3, h4⟩ := (unhide hp).below hb
  rcases h4 with ⟨rfl, rfl, rfl⟩ | ⟨b, o, rfl, h5, h6⟩
  · have hr := unhide hr
    obtain rfl : bs = [] := List.eq_nil_of_length_eq_zero h1
    obtain rfl : false = r := by simpa using hr
    exact suffix_zero none 0 k 0 d w hx
  · exact suffix_is b o n c k 0 d bs r w h1 h3 h2 (hide h6) hx hr

theorem count_p (C : Nat) (a : Option Addr) (n c k d : Nat) (bs : List UInt8) (x : UInt8) (X r : Int) (w0 w : World) (hX : (x.toNat : Int) = X) (hp : Hid (Pas C w0 a n c bs)) (hb : Below C w0 w) (hx : w.cell? ⟨k, 0, none⟩ = some (.int .u8 X)) (hr : Hid ((bs.count x : Int) = r)) :
    Calls Try.prog 23 #[.slice a n c, .slice (some ⟨k, 0, none⟩) 1 d] w fun e w' => e = .returned (.int .i64 r) ∧ w' = w := by
  subst hX
  obtain ⟨h1, h2, h3, h4⟩ := (unhide hp).below hb
  rcases h4 with ⟨rfl, rfl, rfl⟩ | ⟨b, o, rfl, h5, h6⟩
  · have hr := unhide hr
    obtain rfl : bs = [] := List.eq_nil_of_length_eq_zero h1
    obtain rfl : (0 : Int) = r := by simpa using hr
    exact count_one_nil k 0 d _ w hx
  · exact count_one b o n c k 0 d bs x r w h1 (hide h6) hx hr

theorem count_q (C : Nat) (a : Option Addr) (n c k d : Nat) (bs : List UInt8) (m r : Int) (w0 w : World) (hC : 0 < C) (hm : Hid (Max w0 m)) (hp : Hid (Pas C w0 a n c bs)) (hb : Below C w0 w) (hx : w.cell? ⟨k, 0, none⟩ = some (.int .u8 13)) (hy : w.cell? ⟨k, 1, none⟩ = some (.int .u8 10)) (hr : Hid ((cnt2 bs : Int) = r)) :
    Calls Try.prog 23 #[.slice a n c, .slice (some ⟨k, 0, none⟩) 2 d] w fun e w' => e = .returned (.int .i64 r) ∧ ∃ q, w' = w.drewN q := by
  obtain ⟨h1, h2, h3, h4⟩ := (unhide hp).below hb
  rcases h4 with ⟨rfl, rfl, rfl⟩ | ⟨b, o, rfl, h5, h6⟩
  · have hr := unhide hr
    obtain rfl : bs = [] := List.eq_nil_of_length_eq_zero h1
    obtain rfl : (0 : Int) = r := by simpa [cnt2] using hr
    exact (count_two_nil _ d w).mono fun e w' h => ⟨h.1, 0, by rw [h.2]; rfl⟩
  · refine count_two b o n c k 0 d bs m r w h1 h3 h2 (hide h6) (hide ?_) ((unhide hm).below hC hb) hr
    intro i x hi
    match i, hi with
    | 0, hi => injection hi with hi; subst hi; exact hx
    | 1, hi => injection hi with hi; subst hi; exact hy

theorem last_p (C : Nat) (a : Option Addr) (n c : Nat) (bs : List UInt8) (x : UInt8) (X r : Int) (w0 w : World) (hX : (x.toNat : Int) = X) (hp : Hid (Pas C w0 a n c bs)) (hb : Below C w0 w) (hr : Hid (LastAt bs x r)) :
    Calls Try.prog 24 #[.slice a n c, .int .u8 X] w fun e w' => e = .returned (.int .i64 r) ∧ w' = w := by
  obtain ⟨h1, h2, h3, h4⟩ := (unhide hp).below hb
  rcases h4 with ⟨rfl, rfl, rfl⟩ | ⟨b, o, rfl, h5, h6⟩
  · have hr := unhide hr
    obtain rfl : bs = [] := List.eq_nil_of_length_eq_zero h1
    obtain rfl : (-1 : Int) = r := by
      have := hr.bd
      simp at this
      omega
    exact last_zero none 0 X w
  · exact last_is b o n c bs x X r w hX h1 h3 (hide h6) hr

theorem rune_p (C : Nat) (a : Option Addr) (n c : Nat) (bs : List UInt8) (r : Int) (w0 w : World) (hp : Hid (Pas C w0 a n c bs)) (hb : Below C w0 w) (hr : Hid ((Lib.runeCount ⟨bs.toArray⟩ : Int) = r)) :
    Calls Try.prog 25 #[.slice a n c] w fun e w' => e = .returned (.int .i64 r) ∧ Below w.heap.size w w' := by
  obtain ⟨h1, h2, h3, h4⟩ := (unhide hp).below hb
  rcases h4 with ⟨rfl, rfl, rfl⟩ | ⟨b, o, rfl, h5, h6⟩
  · have hr := unhide hr
    obtain rfl : bs = [] := List.eq_nil_of_length_eq_zero h1
    obtain rfl : (0 : Int) = r := by rw [← hr]; rfl
    exact (rune_nil w).mono fun e w' h => ⟨h.1, by rw [h.2]; exact Below.refl _ _⟩
  · exact rune_is b o n c bs r w h1 h3 h2 (hide h6) hr

/-- the cells of a counter in block C -/
structure Cel (w : World) (C : Nat) (a : Option Addr) (n : Nat) (br : Int) (o L D : Nat) : Prop where
  hC : C < w.heap.size
  c0 : w.cell? ⟨C, 0, none⟩ = some (.slice a n n)
  c1 : w.cell? ⟨C, 1, none⟩ = some (.int .i64 br)
  c2 : w.cell? ⟨C, 2, none⟩ = some (.int .i64 o)
  c3 : w.cell? ⟨C, 3, none⟩ = some (.int .i64 L)
  c4 : w.cell? ⟨C, 4, none⟩ = some (.int .i64 D)
  f2 : w.frozen? ⟨C, 2, none⟩ = false
  f3 : w.frozen? ⟨C, 3, none⟩ = false
  f4 : w.frozen? ⟨C, 4, none⟩ = false

theorem Cel.below {w w' : World} {C : Nat} {a : Option Addr} {n : Nat} {br : Int} {o L D : Nat} (h : Cel w C a n br o L D) {k : Nat} (hb : Below k w w') (hk : C < k) : Cel w' C a n br o L D :=
  ⟨Nat.lt_of_lt_of_le h.hC hb.size, (hb.cell (p := ⟨C, 0, none⟩) hk).trans h.c0, (hb.cell (p := ⟨C, 1, none⟩) hk).trans h.c1, (hb.cell (p := ⟨C, 2, none⟩) hk).trans h.c2, (hb.cell (p := ⟨C, 3, none⟩) hk).trans h.c3, (hb.cell (p := ⟨C, 4, none⟩) hk).trans h.c4,
    (hb.frozen (p := ⟨C, 2, none⟩) hk).trans h.f2, (hb.frozen (p := ⟨C, 3, none⟩) hk).trans h.f3, (hb.frozen (p := ⟨C, 4, none⟩) hk).trans h.f4⟩
theorem Cel.alloc {w : World} {C : Nat} {a : Option Addr} {n : Nat} {br : Int} {o L D : Nat} (h : Cel w C a n br o L D) (x : Obj) : Cel (w.alloc x) C a n br o L D :=
  h.below ((Below.refl w.heap.size w).alloc (Nat.le_refl _) x) h.hC
theorem Cel.drewN {w : World} {C : Nat} {a : Option Addr} {n : Nat} {br : Int} {o L D : Nat} (h : Cel w C a n br o L D) (q : Nat) : Cel (w.drewN q) C a n br o L D :=
  ⟨h.hC, h.c0, h.c1, h.c2, h.c3, h.c4, h.f2, h.f3, h.f4⟩
theorem Cel.drew {w : World} {C : Nat} {a : Option Addr} {n : Nat} {br : Int} {o L D : Nat} (h : Cel w C a n br o L D) : Cel w.drew C a n br o L D :=
  ⟨h.hC, h.c0, h.c1, h.c2, h.c3, h.c4, h.f2, h.f3, h.f4⟩
theorem set_size (w : World) (p : Addr) (v : Value) : (w.setCell p v).heap.size = w.heap.size := by simp [World.setCell]
theorem ne_off {C i j : Nat} (h : i ≠ j) : (⟨C, i, none⟩ : Addr) ≠ ⟨C, j, none⟩ := by intro e; injection e with _ e _; exact h e
theorem Cel.set2 {w : World} {C : Nat} {a : Option Addr} {n : Nat} {br : Int} {o L D : Nat} (h : Cel w C a n br o L D) (k : Nat) : Cel (w.setCell ⟨C, 2, none⟩ (.int .i64 k)) C a n br k L D := by
  refine ⟨by rw [set_size]; exact h.hC, ?_, ?_, ?_, ?_, ?_, ?_, ?_, ?_⟩
  · rw [World.cell?_setCell_other _ _ _ _ (ne_off (by omega))]; exact h.c0
  · rw [World.cell?_setCell_other _ _ _ _ (ne_off (by omega))]; exact h.c1
  · exact World.cell?_setCell_same _ _ _ h.c2
  · rw [World.cell?_setCell_other _ _ _ _ (ne_off (by omega))]; exact h.c3
  · rw [World.cell?_setCell_other _ _ _ _ (ne_off (by omega))]; exact h.c4
  · rw [World.frozen?_setCell]; exact h.f2
  · rw [World.frozen?_setCell]; exact h.f3
  · rw [World.frozen?_setCell]; exact h.f4
theorem Cel.set3 {w : World} {C : Nat} {a : Option Addr} {n : Nat} {br : Int} {o L D : Nat} (h : Cel w C a n br o L D) (k : Nat) : Cel (w.setCell ⟨C, 3, none⟩ (.int .i64 k)) C a n br o k D := by
  refine ⟨by rw [set_size]; exact h.hC, ?_, ?_, ?_, ?_, ?_, ?_, ?_, ?_⟩
  · rw [World.cell?_setCell_other _ _ _ _ (ne_off (by omega))]; exact h.c0
  · rw [World.cell?_setCell_other _ _ _ _ (ne_off (by omega))]; exact h.c1
  · rw [World.cell?_setCell_other _ _ _ _ (ne_off (by omega))]; exact h.c2
  · exact World.cell?_setCell_same _ _ _ h.c3
  · rw [World.cell?_setCell_other _ _ _ _ (ne_off (by omega))]; exact h.c4
  · rw [World.frozen?_setCell]; exact h.f2
  · rw [World.frozen?_setCell]; exact h.f3
  · rw [World.frozen?_setCell]; exact h.f4
theorem Cel.set4 {w : World} {C : Nat} {a : Option Addr} {n : Nat} {br : Int} {o L D : Nat} (h : Cel w C a n br o L D) (k : Nat) : Cel (w.setCell ⟨C, 4, none⟩ (.int .i64 k)) C a n br o L k := by
  refine ⟨by rw [set_size]; exact h.hC, ?_, ?_, ?_, ?_, ?_, ?_, ?_, ?_⟩
  · rw [World.cell?_setCell_other _ _ _ _ (ne_off (by omega))]; exact h.c0
  · rw [World.cell?_setCell_other _ _ _ _ (ne_off (by omega))]; exact h.c1
  · rw [World.cell?_setCell_other _ _ _ _ (ne_off (by omega))]; exact h.c2
  · rw [World.cell?_setCell_other _ _ _ _ (ne_off (by omega))]; exact h.c3
  · exact World.cell?_setCell_same _ _ _ h.c4
  · rw [World.frozen?_setCell]; exact h.f2
  · rw [World.frozen?_setCell]; exact h.f3
  · rw [World.frozen?_setCell]; exact h.f4
theorem cell_new {w : World} {v : Value} {e : TypeId} {xs : Array Value} {fz : Nat × Nat} {k i : Nat} (h : k = w.heap.size) (hv : xs[i]? = some v) : (w.alloc (.cells xs e fz)).cell? ⟨k, i, none⟩ = some v := by
  subst h
  have : (w.alloc (.cells xs e fz)).heap[w.heap.size]? = some (.cells xs e fz) := by
    show (w.heap.push (.cells xs e fz))[w.heap.size]? = _
    simp
  simp only [World.cell?, this]
  exact hv
end Go.Proofs.Qxb6003688a
