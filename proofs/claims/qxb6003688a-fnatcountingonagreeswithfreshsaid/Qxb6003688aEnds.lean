import Derived.Test.Qxb6003688aPas
namespace Go.Proofs.Qxb6003688a
open Go.RowKit Plain

/-- the byte at a place, if there is one -/
def bt (s : ByteArray) (q : Nat) : Option UInt8 := s.data.toList[q]?

/-- how many characters are held apart -/
def Hel (s : ByteArray) (cr : Bool) (o off h : Nat) : Prop :=
  (h = 0 ∧ (cr = true → o < off → bt s (off - 1) = some 13 → bt s off ≠ some 10)) ∨ (h = 1 ∧ cr = true ∧ o < off ∧ bt s (off - 1) = some 13 ∧ bt s off = some 10)

/-- the last line end among the n places from o on, and how many there are -/
def Las (s : ByteArray) (cr : Bool) (o n : Nat) (e : Nat) (r : Int) : Prop :=
  (r = -1 ∧ ∀ j, j < n → ends s cr (o + j) = false) ∨
  ∃ t : Nat, r = t ∧ t < n ∧ ends s cr (o + t) = true ∧ (∀ j, t < j → j < n → ends s cr (o + j) = false) ∧ nL s cr o + e = nL s cr (o + n)

theorem ends_lf (s : ByteArray) (q : Nat) : ends s false q = (bt s q == some 10) := by unfold ends bt; simp
theorem ends_cr_no {s : ByteArray} {q : Nat} (h1 : bt s q ≠ some 10) (h2 : bt s q ≠ some 13) : ends s true q = false := by
  unfold ends; unfold bt at h1 h2
  rw [Bool.or_eq_false_iff]
  exact ⟨beq_eq_false_iff_ne.2 h1, by rw [beq_eq_false_iff_ne.2 h2]; rfl⟩
theorem ends_cr_10 {s : ByteArray} {cr : Bool} {q : Nat} (h1 : bt s q = some 10) : ends s cr q = true := by
  unfold ends; unfold bt at h1; rw [h1]; rfl
theorem ends_cr_13 {s : ByteArray} {q : Nat} (h1 : bt s q = some 13) (h2 : bt s (q + 1) ≠ some 10) : ends s true q = true := by
  unfold ends; unfold bt at h1 h2; rw [h1]; simpa using h2
theorem ends_cr_not {s : ByteArray} {q : Nat} (h1 : bt s q = some 13) (h2 : bt s (q + 1) = some 10) : ends s true q = false := by
  unfold ends; unfold bt at h1 h2; rw [h1, h2]; rfl

theorem las_lf {s : ByteArray} {o n e : Nat} {r : Int} (hk : o + n ≤ s.size) (hr : LastAt (seg s o n) 10 r) (he : ((seg s o n).count 10 : Int) = e) : Las s false o n e r := by
  have hl := nL_lf (s := s) n o hk
  rcases hr with ⟨rfl, hn⟩ | ⟨t, rfl, ht, hn⟩
  · refine Or.inl ⟨rfl, fun j hj => ?_⟩
    have := hn j
    rw [seg_at hj] at this
    rw [ends_lf]; simpa [bt] using this
  · obtain ⟨hlt, _⟩ := List.getElem?_eq_some_iff.1 ht
    rw [seg_len hk] at hlt
    rw [seg_at hlt] at ht
    refine Or.inr ⟨t, rfl, hlt, ends_cr_10 ht, fun j h1 h2 => ?_, by omega⟩
    have := hn j h1
    rw [seg_at h2] at this
    rw [ends_lf]; simpa [bt] using this

theorem las_cr {s : ByteArray} {o n n10 n13 n2 : Nat} {r1 r2 : Int} (hk : o + n ≤ s.size) (hb : n = 0 ∨ ¬ (bt s (o + n - 1) = some 13 ∧ bt s (o + n) = some 10))
    (h1 : LastAt (seg s o n) 10 r1) (h2 : LastAt (seg s o n) 13 r2) (e1 : ((seg s o n).count 10 : Int) = n10) (e2 : ((seg s o n).count 13 : Int) = n13) (e3 : (cnt2 (seg s o n) : Int) = n2) :
    Las s true o n (n10 + (n13 - n2)) (max r1 r2) := by
  have hl := nL_cr (s := s) n o hk hb
  have c2 := cnt2_le (seg s o n)
  have hlen := seg_len (s := s) (a := o) (k := n) hk
  have one : ∀ (x : UInt8) (r : Int), LastAt (seg s o n) x r → (r = -1 ∧ ∀ j, j < n → bt s (o + j) ≠ some x) ∨ ∃ t : Nat, r = t ∧ t < n ∧ bt s (o + t) = some x ∧ ∀ j, t < j → j < n → bt s (o + j) ≠ some x := by
    intro x r hx
    rcases hx with ⟨rfl, hn⟩ | ⟨t, rfl, ht, hn⟩
    · exact Or.inl ⟨rfl, fun j hj => by have := hn j; rw [seg_at hj] at this; exact this⟩
    · obtain ⟨hlt, _⟩ := List.getElem?_eq_some_iff.1 ht
      rw [hlen] at hlt
      rw [seg_at hlt] at ht
      exact Or.inr ⟨t, rfl, hlt, ht, fun j h1 h2 => by have := hn j h1; rw [seg_at h2] at this; exact this⟩
  rcases one 10 r1 h1 with ⟨rfl, a1⟩ | ⟨t1, rfl, l1, b1, a1⟩
  · rcases one 13 r2 h2 with ⟨rfl, a2⟩ | ⟨t2, rfl, l2, b2, a2⟩
    · exact Or.inl ⟨by omega, fun j hj => ends_cr_no (a1 j hj) (a2 j hj)⟩
    · refine Or.inr ⟨t2, by omega, l2, ends_cr_13 b2 ?_, fun j i1 i2 => ends_cr_no (a1 j i2) (a2 j i1 i2), by omega⟩
      by_cases hx : t2 + 1 < n
      · exact a1 (t2 + 1) hx
      · have : n = t2 + 1 := by omega
        subst this
        rcases hb with hb | hb
        · omega
        · exact fun h => hb ⟨b2, h⟩
  · rcases one 13 r2 h2 with ⟨rfl, a2⟩ | ⟨t2, rfl, l2, b2, a2⟩
    · exact Or.inr ⟨t1, by omega, l1, ends_cr_10 b1, fun j i1 i2 => ends_cr_no (a1 j i1 i2) (a2 j i2), by omega⟩
    · by_cases hle : t2 ≤ t1
      · exact Or.inr ⟨t1, by omega, l1, ends_cr_10 b1, fun j i1 i2 => ends_cr_no (a1 j i1 i2) (a2 j (by omega) i2), by omega⟩
      · refine Or.inr ⟨t2, by omega, l2, ends_cr_13 b2 ?_, fun j i1 i2 => ends_cr_no (a1 j (by omega) i2) (a2 j i1 i2), by omega⟩
        by_cases hx : t2 + 1 < n
        · exact a1 (t2 + 1) (by omega) hx
        · have : n = t2 + 1 := by omega
          subst this
          rcases hb with hb | hb
          · omega
          · exact fun h => hb ⟨b2, h⟩

theorem by_lt {s : ByteArray} {q : Nat} {x : UInt8} (h : bt s q = some x) : ∃ hq : q < s.size, s[q] = x := by
  unfold bt at h
  obtain ⟨hlt, e⟩ := List.getElem?_eq_some_iff.1 h
  have hq : q < s.size := by rw [← len_of]; exact hlt
  refine ⟨hq, ?_⟩
  have := at_of hq
  exact Option.some.inj (this.symm.trans h)

theorem hel_sk {s : ByteArray} {cr : Bool} {o off h : Nat} (hf : sk s off = 0) (hh : Hel s cr o off h) : sk s (off - h) = 0 := by
  rcases hh with ⟨rfl, _⟩ | ⟨rfl, _, _, h1, _⟩
  · exact hf
  · obtain ⟨hq, e⟩ := by_lt h1
    exact sk_ascii hq (by rw [e]; decide)

/-- the held character -/
theorem hel_end {s : ByteArray} {cr : Bool} {o off h : Nat} (hf : sk s off = 0) (hh : Hel s cr o off h) : nL s cr off = nL s cr (off - h) ∧ nC s cr off = nC s cr (off - h) + h := by
  have hs := hel_sk hf hh
  rcases hh with ⟨rfl, _⟩ | ⟨rfl, rfl, ho, h1, h2⟩
  · exact ⟨rfl, rfl⟩
  · obtain ⟨q, rfl⟩ : ∃ q, off = q + 1 := ⟨off - 1, by omega⟩
    have hn := ends_cr_not (s := s) (q := q) h1 h2
    simp only [Nat.add_sub_cancel] at hs ⊢
    rw [nL, nC, hn, if_pos hs]
    exact ⟨rfl, rfl⟩

theorem end_ascii {s : ByteArray} {cr : Bool} {q : Nat} (h : ends s cr q = true) : ∃ hq : q < s.size, (s[q]'hq).toNat < 128 := by
  have : bt s q = some 10 ∨ bt s q = some 13 := by
    unfold ends at h
    rw [Bool.or_eq_true, Bool.and_eq_true, Bool.and_eq_true] at h
    rcases h with h | h
    · exact Or.inl (by simpa [bt] using h)
    · exact Or.inr (by simpa [bt] using h.1.2)
  rcases this with h | h
  · obtain ⟨hq, e⟩ := by_lt h
    exact ⟨hq, by rw [e]; decide⟩
  · obtain ⟨hq, e⟩ := by_lt h
    exact ⟨hq, by rw [e]; decide⟩

/-- the count: no line ends -/
theorem fin_none {s : ByteArray} {cr : Bool} {o n : Nat} (hk : o + n ≤ s.size) (h0 : sk s o = 0) (h1 : sk s (o + n) = 0) (hn : ∀ j, j < n → ends s cr (o + j) = false) :
    nL s cr (o + n) = nL s cr o ∧ nC s cr (o + n) = nC s cr o + Lib.runeCount ⟨(seg s o n).toArray⟩ := by
  rw [runeCount_is (s := s) (a := o) (k := n) rfl hk h0 h1]
  exact run_over n hn

/-- the count: behind the last line end -/
theorem fin_some {s : ByteArray} {cr : Bool} {o n t : Nat} (hk : o + n ≤ s.size) (h1 : sk s (o + n) = 0) (ht : t < n) (he : ends s cr (o + t) = true) (hn : ∀ j, t < j → j < n → ends s cr (o + j) = false) :
    nC s cr (o + n) = Lib.runeCount ⟨(seg s (o + (t + 1)) (n - (t + 1))).toArray⟩ := by
  obtain ⟨hq, ha⟩ := end_ascii he
  have hs := sk_next (sk_ascii hq ha) hq
  rw [wd_ascii hq ha] at hs
  have e : o + n = o + (t + 1) + (n - (t + 1)) := by omega
  rw [runeCount_is (s := s) (a := o + (t + 1)) (k := n - (t + 1)) rfl (by omega) hs (by rw [← e]; exact h1)]
  have := (run_over (s := s) (cr := cr) (a := o + (t + 1)) (n - (t + 1)) (fun j hj => by have := hn (t + 1 + j) (by omega) (by omega); rw [← this]; congr 1; omega)).2
  rw [← e] at this
  rw [this, show o + (t + 1) = (o + t) + 1 by omega, (stepEnd he).2]
  omega
end Go.Proofs.Qxb6003688a
