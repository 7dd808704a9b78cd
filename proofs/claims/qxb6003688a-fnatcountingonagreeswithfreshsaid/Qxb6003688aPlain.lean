/-
  PLAIN: no Go in sight. Characters, line ends and columns of a text of bytes.
-/
import Derived.Lib.RuneCount
import Derived.Laws.RangeAny
import Derived.Lib.CountLaws
import Derived.Lib.Bytealg
namespace Go.Proofs.Qxb6003688a.Plain

/-- the width of the character at place i -/
def wd (s : ByteArray) (i : Nat) : Nat := (Utf8.decode s i).2

theorem get_of (s : ByteArray) (j : Nat) (h : j < s.size) : s.get! j = s[j]'h := by
  simp [ByteArray.get!, getElem!_pos, h]
  rfl
theorem at_of {s : ByteArray} {k : Nat} (h : k < s.size) : s.data.toList[k]? = some s[k] := by
  rw [List.getElem?_eq_getElem (by simpa using h)]; rfl
theorem at_past {s : ByteArray} {k : Nat} (h : s.size ≤ k) : s.data.toList[k]? = none := by
  rw [List.getElem?_eq_none]; simpa using h
theorem len_of (s : ByteArray) : s.data.toList.length = s.size := by simp

/-- what a step of the decoder passes over -/
theorem decode_pass (s : ByteArray) (pos : Nat) (h : pos < s.size) :
    1 ≤ wd s pos ∧ pos + wd s pos ≤ s.size ∧ ∀ j (hj : j < s.size), pos < j → j < pos + wd s pos → 128 ≤ (s[j]'hj).toNat := by
  unfold wd
  by_cases ha : (s[pos]'h).toNat < 128
  · rw [decode_ascii s pos h ha]
    exact ⟨Nat.le_refl _, h, fun j _ h1 h2 => by simp at h2; omega⟩
  · have hw1 : (1 ≤ 1 ∧ pos + 1 ≤ s.size ∧ ∀ j (hj : j < s.size), pos < j → j < pos + 1 → 128 ≤ (s[j]'hj).toNat) :=
      ⟨Nat.le_refl _, by omega, fun j hj h1 h2 => by omega⟩
    have hcont : ∀ k, (decide (pos + k < s.size) && (s.get! (pos + k)).toNat / 64 == 2) = true → ∃ hk : pos + k < s.size, 128 ≤ (s[pos + k]'hk).toNat := by
      intro k hk
      rw [Bool.and_eq_true, decide_eq_true_iff] at hk
      obtain ⟨h1, h2⟩ := hk
      rw [get_of _ _ h1] at h2
      refine ⟨h1, ?_⟩
      have := beq_iff_eq.1 h2
      omega
    have e0 : s.get! (pos + 0) = s[pos]'h := get_of s pos h
    simp only [Utf8.decode, e0, ha, if_false]
    split
    · rename_i h2
      rw [Bool.and_eq_true] at h2
      obtain ⟨_, h2⟩ := h2
      obtain ⟨k1, c1⟩ := hcont 1 h2
      split
      · refine ⟨by show 1 ≤ 2; omega, by show pos + 2 ≤ s.size; omega, fun j hj g1 g2 => ?_⟩
        have g2' : j < pos + 2 := g2
        obtain rfl : j = pos + 1 := by omega
        exact c1
      · exact hw1
    · split
      · rename_i h2
        rw [Bool.and_eq_true, Bool.and_eq_true] at h2
        obtain ⟨⟨_, h2⟩, h3⟩ := h2
        obtain ⟨k1, c1⟩ := hcont 1 h2
        obtain ⟨k2, c2⟩ := hcont 2 h3
        split
        · refine ⟨by show 1 ≤ 3; omega, by show pos + 3 ≤ s.size; omega, fun j hj g1 g2 => ?_⟩
          have g2' : j < pos + 3 := g2
          have hor : j = pos + 1 ∨ j = pos + 2 := by omega
          rcases hor with rfl | rfl
          · exact c1
          · exact c2
        · exact hw1
      · split
        · rename_i h2
          rw [Bool.and_eq_true, Bool.and_eq_true, Bool.and_eq_true] at h2
          obtain ⟨⟨⟨_, h2⟩, h3⟩, h4⟩ := h2
          obtain ⟨k1, c1⟩ := hcont 1 h2
          obtain ⟨k2, c2⟩ := hcont 2 h3
          obtain ⟨k3, c3⟩ := hcont 3 h4
          split
          · refine ⟨by show 1 ≤ 4; omega, by show pos + 4 ≤ s.size; omega, fun j hj g1 g2 => ?_⟩
            have g2' : j < pos + 4 := g2
            have hor : j = pos + 1 ∨ j = pos + 2 ∨ j = pos + 3 := by omega
            rcases hor with rfl | rfl | rfl
            · exact c1
            · exact c2
            · exact c3
          · exact hw1
        · exact hw1

theorem wd_ascii {s : ByteArray} {i : Nat} (h : i < s.size) (ha : (s[i]'h).toNat < 128) : wd s i = 1 := by
  unfold wd; rw [decode_ascii s i h ha]

/-- how many bytes at place q still belong to the character that began before -/
def sk (s : ByteArray) : Nat → Nat
  | 0 => 0
  | q + 1 => if sk s q = 0 then wd s q - 1 else sk s q - 1

theorem sk_low (s : ByteArray) : ∀ (q : Nat) (_ : q ≤ s.size), q + sk s q ≤ s.size ∧ ∀ j (hj : j < s.size), q ≤ j → j < q + sk s q → 128 ≤ (s[j]'hj).toNat
  | 0, _ => ⟨by simp [sk], fun j _ _ h2 => by simp [sk] at h2⟩
  | q + 1, h => by
    have ih := sk_low s q (by omega)
    rw [sk]
    by_cases h0 : sk s q = 0
    · rw [if_pos h0]
      have hp := decode_pass s q (by omega)
      exact ⟨by omega, fun j hj h1 h2 => hp.2.2 j hj (by omega) (by omega)⟩
    · rw [if_neg h0]
      exact ⟨by omega, fun j hj h1 h2 => ih.2 j hj (by omega) (by omega)⟩

/-- a byte of ASCII begins a character -/
theorem sk_ascii {s : ByteArray} {q : Nat} (h : q < s.size) (ha : (s[q]'h).toNat < 128) : sk s q = 0 := by
  have := sk_low s q (by omega)
  by_cases h0 : sk s q = 0
  · exact h0
  · have := this.2 q h (Nat.le_refl _) (by omega)
    omega

/-- from a character's start over its bytes -/
theorem sk_in {s : ByteArray} {q : Nat} (h0 : sk s q = 0) : ∀ j, 1 ≤ j → j ≤ wd s q → sk s (q + j) = wd s q - j
  | 0, h1, _ => by omega
  | 1, _, _ => by rw [sk, if_pos h0]
  | j + 2, _, h2 => by
    have ih := sk_in h0 (j + 1) (by omega) (by omega)
    rw [show q + (j + 2) = (q + (j + 1)) + 1 from by omega, sk, ih, if_neg (by omega)]
    omega

theorem sk_next {s : ByteArray} {q : Nat} (h0 : sk s q = 0) (h : q < s.size) : sk s (q + wd s q) = 0 := by
  have hp := decode_pass s q h
  rw [sk_in h0 (wd s q) hp.1 (Nat.le_refl _)]; omega

/-- a later start lies behind the whole character -/
theorem sk_fits {s : ByteArray} {q e : Nat} (h0 : sk s q = 0) (_h : q < s.size) (he : sk s e = 0) (hlt : q < e) : q + wd s q ≤ e := by
  by_cases hc : q + wd s q ≤ e
  · exact hc
  · have := sk_in h0 (e - q) (by omega) (by omega)
    rw [show q + (e - q) = e from by omega, he] at this
    omega

/-- does a line end at place q? -/
def ends (s : ByteArray) (cr : Bool) (q : Nat) : Bool := s.data.toList[q]? == some 10 || (cr && s.data.toList[q]? == some 13 && !(s.data.toList[q + 1]? == some 10))

theorem ends_high {s : ByteArray} {cr : Bool} {q : Nat} (h : q < s.size) (ha : (s[q]'h) ≠ 10) (hb : (s[q]'h) ≠ 13) : ends s cr q = false := by
  unfold ends; rw [at_of h]; simp [ha, hb]
theorem high_ne {b : UInt8} (h : 128 ≤ b.toNat) : b ≠ 10 ∧ b ≠ 13 :=
  ⟨fun e => by rw [e] at h; exact absurd h (by decide), fun e => by rw [e] at h; exact absurd h (by decide)⟩

/-- how many lines end ahead of place p; how many characters stand between there and its line's start -/
def nL (s : ByteArray) (cr : Bool) : Nat → Nat
  | 0 => 0
  | p + 1 => nL s cr p + (if ends s cr p then 1 else 0)
def nC (s : ByteArray) (cr : Bool) : Nat → Nat
  | 0 => 0
  | p + 1 => if ends s cr p then 0 else nC s cr p + (if sk s p = 0 then 1 else 0)
/-- how many characters begin at the k places from a on -/
def nB (s : ByteArray) (a : Nat) : Nat → Nat
  | 0 => 0
  | k + 1 => nB s a k + (if sk s (a + k) = 0 then 1 else 0)

theorem nL_le (s : ByteArray) (cr : Bool) : ∀ p, nL s cr p ≤ p
  | 0 => Nat.le_refl _
  | p + 1 => by rw [nL]; have := nL_le s cr p; split <;> omega
theorem nC_le (s : ByteArray) (cr : Bool) : ∀ p, nC s cr p ≤ p
  | 0 => Nat.le_refl _
  | p + 1 => by
    rw [nC]; have := nC_le s cr p
    split
    · omega
    · split <;> omega
theorem nB_le (s : ByteArray) (a : Nat) : ∀ k, nB s a k ≤ k
  | 0 => Nat.le_refl _
  | k + 1 => by rw [nB]; have := nB_le s a k; split <;> omega

theorem nB_add (s : ByteArray) (a k : Nat) : ∀ m, nB s a (k + m) = nB s a k + nB s (a + k) m
  | 0 => by simp [nB]
  | m + 1 => by
    rw [← Nat.add_assoc, nB, nB_add s a k m, nB, Nat.add_assoc a k m]; omega

/-- one character -/
theorem nB_char {s : ByteArray} {q : Nat} (h0 : sk s q = 0) (h : q < s.size) : nB s q (wd s q) = 1 := by
  have hp := decode_pass s q h
  have key : ∀ j, 1 ≤ j → j ≤ wd s q → nB s q j = 1 := by
    intro j
    induction j with
    | zero => intro h1; omega
    | succ j ih =>
      intro _ h2
      by_cases hj : j = 0
      · subst hj; simp [nB, h0]
      · rw [nB, ih (by omega) (by omega), sk_in h0 j (by omega) (by omega), if_neg (by omega)]
  exact key _ hp.1 (Nat.le_refl _)

/-- over places where no line ends -/
theorem run_over {s : ByteArray} {cr : Bool} {a : Nat} : ∀ (k : Nat), (∀ j, j < k → ends s cr (a + j) = false) → nL s cr (a + k) = nL s cr a ∧ nC s cr (a + k) = nC s cr a + nB s a k
  | 0, _ => ⟨rfl, by simp [nB]⟩
  | k + 1, h => by
    have ih := run_over k (fun j hj => h j (by omega))
    have hk := h k (by omega)
    refine ⟨?_, ?_⟩
    · rw [← Nat.add_assoc, nL, ih.1, hk]; rfl
    · rw [← Nat.add_assoc, nC, ih.2, hk, nB]; simp; omega

/-- the walk's step over a plain character -/
theorem step_char {s : ByteArray} {cr : Bool} {q : Nat} (h0 : sk s q = 0) (h : q < s.size) (hn : ends s cr q = false) :
    nL s cr (q + wd s q) = nL s cr q ∧ nC s cr (q + wd s q) = nC s cr q + 1 := by
  have hp := decode_pass s q h
  have := run_over (s := s) (cr := cr) (a := q) (wd s q) (fun j hj => by
    by_cases e : j = 0
    · subst e; exact hn
    · have hj2 : q + j < s.size := by omega
      have hh := high_ne (hp.2.2 (q + j) hj2 (by omega) (by omega))
      exact ends_high hj2 hh.1 hh.2)
  rw [nB_char h0 h] at this
  exact this
theorem stepEnd {s : ByteArray} {cr : Bool} {q : Nat} (hn : ends s cr q = true) : nL s cr (q + 1) = nL s cr q + 1 ∧ nC s cr (q + 1) = 0 := by
  rw [nL, nC, hn]; exact ⟨rfl, rfl⟩

/-! ### what the searches of the Go text count -/
def seg (s : ByteArray) (a k : Nat) : List UInt8 := (s.data.toList.drop a).take k

theorem seg_at {s : ByteArray} {a k j : Nat} (h : j < k) : (seg s a k)[j]? = s.data.toList[a + j]? := by
  unfold seg; rw [List.getElem?_take_of_lt h, List.getElem?_drop]
theorem seg_len {s : ByteArray} {a k : Nat} (h : a + k ≤ s.size) : (seg s a k).length = k := by
  unfold seg; rw [List.length_take, List.length_drop, len_of]; omega
theorem seg_cons {s : ByteArray} {a k : Nat} (h : a < s.size) : seg s a (k + 1) = s[a] :: seg s (a + 1) k := by
  unfold seg; rw [List.drop_eq_getElem_cons (by rw [len_of]; exact h), List.take_succ_cons]; rfl
theorem seg_zero (s : ByteArray) (a : Nat) : seg s a 0 = [] := by simp [seg]

/-- pairs of a return and a line feed -/
def cnt2 : List UInt8 → Nat
  | [] => 0
  | x :: l => (if x = 13 ∧ l.head? = some 10 then 1 else 0) + cnt2 l

theorem pre_pair (x : UInt8) (l : List UInt8) : ([13, 10] : List UInt8).isPrefixOf (x :: l) = true ↔ (x = 13 ∧ l.head? = some 10) := by
  cases l with
  | nil => simp [List.isPrefixOf]
  | cons y l => simp [List.isPrefixOf]; constructor <;> (rintro ⟨h1, h2⟩; exact ⟨h1.symm, h2.symm⟩)

theorem count_pair : ∀ (n : Nat) (l : List UInt8), l.length ≤ n → Lib.count l [13, 10] = cnt2 l
  | 0, l, h => by
    have : l = [] := List.length_eq_zero_iff.1 (by omega)
    subst this; rfl
  | n + 1, [], _ => rfl
  | n + 1, x :: l, h => by
    have hl : l.length ≤ n := by simpa using h
    have ih := count_pair n l hl
    by_cases hp : x = 13 ∧ l.head? = some 10
    · have hi : Lib.index (x :: l) [13, 10] = (0 : Nat) := by unfold Lib.index; rw [if_pos ((pre_pair x l).2 hp)]; rfl
      rw [Lib.count_hit (by decide) hi, cnt2, if_pos hp]
      obtain ⟨y, r, rfl⟩ : ∃ y r, l = y :: r := by
        cases l with
        | nil => simp at hp
        | cons y r => exact ⟨y, r, rfl⟩
      have hy : y = 10 := by simpa using hp.2
      subst hy
      have ihr := count_pair n r (by simp at hl; omega)
      show 1 + Lib.count r [13, 10] = 1 + cnt2 (10 :: r)
      rw [ihr, cnt2]; simp
    · have hi : Lib.index (x :: l) [13, 10] = if Lib.index l [13, 10] == -1 then -1 else Lib.index l [13, 10] + 1 := by
        rw [Lib.index, if_neg (fun e => hp ((pre_pair x l).1 e))]
      rw [cnt2, if_neg hp, ← ih, Nat.zero_add]
      have hge := Lib.index_ge l [13, 10]
      by_cases hm : Lib.index l [13, 10] = -1
      · rw [hm] at hi
        rw [Lib.count_miss hm, Lib.count_miss hi]
      · obtain ⟨i, hi2⟩ : ∃ i : Nat, Lib.index l [13, 10] = i := ⟨(Lib.index l [13, 10]).toNat, by omega⟩
        rw [hi2, if_neg (by simp)] at hi
        have hi3 : Lib.index (x :: l) [13, 10] = (i + 1 : Nat) := by rw [hi]; rfl
        rw [Lib.count_hit (by decide) hi2, Lib.count_hit (by decide) hi3]
        rfl

theorem cnt2_le : ∀ l : List UInt8, cnt2 l ≤ l.count 13
  | [] => Nat.le_refl _
  | x :: l => by
    rw [cnt2, List.count_cons]
    have := cnt2_le l
    by_cases hx : x = 13
    · subst hx; simp; split <;> omega
    · have : ¬ (x = 13 ∧ l.head? = some 10) := fun h => hx h.1
      rw [if_neg this]; omega

/-- line ends over a segment, mode LF -/
theorem nL_lf {s : ByteArray} : ∀ (k a : Nat), a + k ≤ s.size → nL s false (a + k) = nL s false a + (seg s a k).count 10
  | 0, a, _ => by simp [seg_zero]
  | k + 1, a, h => by
    have ih := nL_lf (s := s) k (a + 1) (by omega)
    have e : a + (k + 1) = a + 1 + k := by omega
    rw [e, ih, nL, seg_cons (show a < s.size by omega), List.count_cons]
    have he : ends s false a = (s[a]'(by omega) == 10) := by unfold ends; rw [at_of (show a < s.size by omega)]; simp
    rw [he]
    omega

/-- line ends over a segment, mode CR or LF: the last byte is no return that a line feed follows -/
theorem nL_cr {s : ByteArray} : ∀ (k a : Nat), a + k ≤ s.size → (k = 0 ∨ ¬ (s.data.toList[a + k - 1]? = some 13 ∧ s.data.toList[a + k]? = some 10)) →
    nL s true (a + k) = nL s true a + ((seg s a k).count 10 + ((seg s a k).count 13 - cnt2 (seg s a k)))
  | 0, a, _, _ => by simp [seg_zero, cnt2]
  | k + 1, a, h, hl => by
    have hl' : k = 0 ∨ ¬ (s.data.toList[a + 1 + k - 1]? = some 13 ∧ s.data.toList[a + 1 + k]? = some 10) := by
      by_cases hk : k = 0
      · exact Or.inl hk
      · rcases hl with hl | hl
        · omega
        · refine Or.inr ?_
          rw [show a + 1 + k = a + (k + 1) from by omega]; exact hl
    have ih := nL_cr (s := s) k (a + 1) (by omega) hl'
    have e : a + (k + 1) = a + 1 + k := by omega
    rw [e, ih, nL, seg_cons (show a < s.size by omega), List.count_cons, List.count_cons, cnt2]
    have hle := cnt2_le (seg s (a + 1) k)
    have hc0 : s.data.toList[a]? = some s[a] := at_of (by omega)
    have hhead : (seg s (a + 1) k).head? = if k = 0 then none else s.data.toList[a + 1]? := by
      by_cases hk : k = 0
      · subst hk; simp [seg_zero]
      · rw [if_neg hk, List.head?_eq_getElem?, seg_at (by omega)]
    by_cases h10 : s[a]'(by omega) = 10
    · have he : ends s true a = true := by unfold ends; rw [hc0, h10]; rfl
      rw [he, h10]
      simp
      omega
    · by_cases h13 : s[a]'(by omega) = 13
      · by_cases hn : s.data.toList[a + 1]? = some 10
        · have he : ends s true a = false := by unfold ends; rw [hc0, h13, hn]; rfl
          have hk : k ≠ 0 := by
            intro hk; subst hk
            rcases hl with hl | hl
            · omega
            · exact hl ⟨by rw [show a + (0 + 1) - 1 = a from by omega, hc0, h13], by rw [show a + (0 + 1) = a + 1 from by omega]; exact hn⟩
          rw [he, h13, hhead, if_neg hk, hn]
          simp
          omega
        · have he : ends s true a = true := by
            have hn' : (s.data.toList[a + 1]? == some 10) = false := by rw [Bool.eq_false_iff]; intro h; exact hn (beq_iff_eq.1 h)
            unfold ends; rw [hc0, h13, hn']; rfl
          have hpp : ¬ (s[a]'(by omega) = 13 ∧ (seg s (a + 1) k).head? = some 10) := by
            rw [hhead]
            rintro ⟨_, h2⟩
            by_cases hk : k = 0
            · rw [if_pos hk] at h2; simp at h2
            · rw [if_neg hk] at h2; exact hn h2
          rw [he, if_neg hpp, h13]
          simp
          omega
      · have he : ends s true a = false := by unfold ends; rw [hc0]; simp [h10, h13]
        have hpp : ¬ (s[a]'(by omega) = 13 ∧ (seg s (a + 1) k).head? = some 10) := fun h => h13 h.1
        rw [he, if_neg hpp]
        simp [h10, h13]

/-- the decoder's width, by the bytes and by which of the next three are continuations -/
def W (b0 b1 b2 b3 : Nat) (c1 c2 c3 : Bool) : Nat :=
  if b0 < 128 then 1
  else if (b0 / 32 == 6 && c1) = true then (if (b0 % 32) * 64 + b1 % 64 ≥ 128 then 2 else 1)
  else if (b0 / 16 == 14 && c1 && c2) = true then
    (if (decide ((b0 % 16) * 4096 + (b1 % 64) * 64 + b2 % 64 ≥ 2048) && Utf8.valid (((b0 % 16) * 4096 + (b1 % 64) * 64 + b2 % 64 : Nat) : Int)) = true then 3 else 1)
  else if (b0 / 8 == 30 && c1 && c2 && c3) = true then
    (if (decide ((b0 % 8) * 262144 + (b1 % 64) * 4096 + (b2 % 64) * 64 + b3 % 64 ≥ 65536) && Utf8.valid (((b0 % 8) * 262144 + (b1 % 64) * 4096 + (b2 % 64) * 64 + b3 % 64 : Nat) : Int)) = true then 4 else 1)
  else 1

def ct (s : ByteArray) (i k : Nat) : Bool := decide (i + k < s.size) && (s.get! (i + k)).toNat / 64 == 2

theorem wd_W (s : ByteArray) (i : Nat) : wd s i = W (s.get! i).toNat (s.get! (i + 1)).toNat (s.get! (i + 2)).toNat (s.get! (i + 3)).toNat (ct s i 1) (ct s i 2) (ct s i 3) := by
  unfold wd W ct Utf8.decode
  simp only [Nat.add_zero, apply_ite Prod.snd]

/-- fewer continuations in sight, but as many as the width wants: the same width -/
theorem W_less {b0 b1 b2 b3 d1 d2 d3 : Nat} {c1 c2 c3 e1 e2 e3 : Bool} (h1 : e1 = true → c1 = true ∧ d1 = b1) (h2 : e2 = true → c2 = true ∧ d2 = b2) (h3 : e3 = true → c3 = true ∧ d3 = b3)
    (w1 : c1 = true → 2 ≤ W b0 b1 b2 b3 c1 c2 c3 → e1 = true) (w2 : c2 = true → 3 ≤ W b0 b1 b2 b3 c1 c2 c3 → e2 = true) (w3 : c3 = true → 4 ≤ W b0 b1 b2 b3 c1 c2 c3 → e3 = true) :
    W b0 d1 d2 d3 e1 e2 e3 = W b0 b1 b2 b3 c1 c2 c3 := by
  unfold W at *
  by_cases hb : b0 < 128
  · simp [hb]
  · simp only [hb, if_false] at *
    by_cases k2 : b0 / 32 = 6
    · have n3 : (b0 / 16 == 14) = false := by simp; omega
      have n4 : (b0 / 8 == 30) = false := by simp; omega
      simp only [k2, beq_self_eq_true, Bool.true_and, n3, n4, Bool.false_and, Bool.false_eq_true, if_false] at *
      cases e1
      · cases c1
        · rfl
        · simp only [if_true, forall_const] at w1
          simp only [Bool.false_eq_true, if_false, if_true]
          split
          · rename_i hge; rw [if_pos hge] at w1; simp at w1
          · rfl
      · obtain ⟨g1, g2⟩ := h1 rfl
        subst g1; subst g2; rfl
    · by_cases k3 : b0 / 16 = 14
      · have n2 : (b0 / 32 == 6) = false := by simp; omega
        have n4 : (b0 / 8 == 30) = false := by simp; omega
        simp only [k3, beq_self_eq_true, Bool.true_and, n2, n4, Bool.false_and, Bool.false_eq_true, if_false] at *
        by_cases hc : (c1 && c2) = true
        · rw [Bool.and_eq_true] at hc
          obtain ⟨g1, g2⟩ := hc
          subst g1; subst g2
          simp only [Bool.and_self, if_true, forall_const] at w1 w2 ⊢
          split at w1
          · rename_i hv
            rw [if_pos hv] at w2 ⊢
            have q1 := w1 (by omega)
            have q2 := w2 (by omega)
            obtain ⟨_, r1⟩ := h1 q1
            obtain ⟨_, r2⟩ := h2 q2
            subst q1; subst q2; subst r1; subst r2
            simp only [Bool.and_self, if_true]
            rw [if_pos hv]
          · rename_i hv
            rw [if_neg hv]
            split
            · rename_i he
              rw [Bool.and_eq_true] at he
              obtain ⟨_, r1⟩ := h1 he.1
              obtain ⟨_, r2⟩ := h2 he.2
              subst r1; subst r2
              rw [if_neg hv]
            · rfl
        · rw [if_neg hc]
          have : ¬ (e1 && e2) = true := fun h => hc (by
            rw [Bool.and_eq_true] at h ⊢
            exact ⟨(h1 h.1).1, (h2 h.2).1⟩)
          rw [if_neg this]
      · by_cases k4 : b0 / 8 = 30
        · have n2 : (b0 / 32 == 6) = false := by simp; omega
          have n3 : (b0 / 16 == 14) = false := by simp; omega
          simp only [k4, beq_self_eq_true, Bool.true_and, n2, n3, Bool.false_and, Bool.false_eq_true, if_false] at *
          by_cases hc : (c1 && c2 && c3) = true
          · rw [Bool.and_eq_true, Bool.and_eq_true] at hc
            obtain ⟨⟨g1, g2⟩, g3⟩ := hc
            subst g1; subst g2; subst g3
            simp only [Bool.and_self, if_true, forall_const] at w1 w2 w3 ⊢
            split at w1
            · rename_i hv
              rw [if_pos hv] at w2 w3 ⊢
              have q1 := w1 (by omega)
              have q2 := w2 (by omega)
              have q3 := w3 (by omega)
              obtain ⟨_, r1⟩ := h1 q1
              obtain ⟨_, r2⟩ := h2 q2
              obtain ⟨_, r3⟩ := h3 q3
              subst q1; subst q2; subst q3; subst r1; subst r2; subst r3
              simp only [Bool.and_self, if_true]
              rw [if_pos hv]
            · rename_i hv
              rw [if_neg hv]
              split
              · rename_i he
                rw [Bool.and_eq_true, Bool.and_eq_true] at he
                obtain ⟨_, r1⟩ := h1 he.1.1
                obtain ⟨_, r2⟩ := h2 he.1.2
                obtain ⟨_, r3⟩ := h3 he.2
                subst r1; subst r2; subst r3
                rw [if_neg hv]
              · rfl
          · rw [if_neg hc]
            have : ¬ (e1 && e2 && e3) = true := fun h => hc (by
              rw [Bool.and_eq_true, Bool.and_eq_true] at h ⊢
              exact ⟨⟨(h1 h.1.1).1, (h2 h.1.2).1⟩, (h3 h.2).1⟩)
            rw [if_neg this]
        · have n2 : (b0 / 32 == 6) = false := by simp [k2]
          have n3 : (b0 / 16 == 14) = false := by simp [k3]
          have n4 : (b0 / 8 == 30) = false := by simp [k4]
          simp [n2, n3, n4]

/-- the characters of a segment, as RuneCount counts them -/
theorem wd_seg {s t : ByteArray} {a k i : Nat} (ht : t.data.toList = seg s a k) (hk : a + k ≤ s.size) (hi : i < k) (hw : i + wd s (a + i) ≤ k) : wd t i = wd s (a + i) := by
  have hts : t.size = k := by rw [← len_of, ht, seg_len hk]
  have hb : ∀ j (_ : j < k), t.get! j = s.get! (a + j) := by
    intro j hj
    rw [get_of t j (by omega), get_of s (a + j) (by omega)]
    have h1 : t.data.toList[j]? = s.data.toList[a + j]? := by rw [ht, seg_at hj]
    rw [at_of (by omega), at_of (by omega)] at h1
    injection h1
  have hct : ∀ m, ct t i m = true → ct s (a + i) m = true ∧ (t.get! (i + m)).toNat = (s.get! (a + i + m)).toNat := by
    intro m hm
    unfold ct at hm ⊢
    rw [Bool.and_eq_true, decide_eq_true_iff] at hm
    have e := hb (i + m) (by omega)
    rw [e, ← Nat.add_assoc] at hm
    exact ⟨by rw [Bool.and_eq_true, decide_eq_true_iff]; exact ⟨by omega, hm.2⟩, by rw [e, ← Nat.add_assoc]⟩
  have hcs : ∀ m, ct s (a + i) m = true → m + 1 ≤ wd s (a + i) → ct t i m = true := by
    intro m hm hmw
    unfold ct at hm ⊢
    rw [Bool.and_eq_true, decide_eq_true_iff] at hm ⊢
    have hlt : i + m < k := by omega
    exact ⟨by omega, by rw [hb _ hlt, ← Nat.add_assoc]; exact hm.2⟩
  have hw0 := wd_W s (a + i)
  rw [wd_W t i, hb i hi]
  rw [hw0] at hcs ⊢
  exact W_less (hct 1) (hct 2) (hct 3) (hcs 1) (hcs 2) (hcs 3)

theorem runeCount_seg {s t : ByteArray} {a k : Nat} (ht : t.data.toList = seg s a k) (hk : a + k ≤ s.size) (hB : sk s (a + k) = 0) :
    ∀ (fuel i : Nat), i ≤ k → k ≤ i + fuel → sk s (a + i) = 0 → Lib.runeCountFrom t fuel i = nB s (a + i) (k - i)
  | 0, i, h1, h2, _ => by
    have : k - i = 0 := by omega
    rw [this]; rfl
  | fuel + 1, i, h1, h2, h0 => by
    have hts : t.size = k := by rw [← len_of, ht, seg_len hk]
    rw [Lib.runeCountFrom]
    by_cases hi : i < k
    · rw [if_pos (by omega)]
      have hp := decode_pass s (a + i) (by omega)
      have hf := sk_fits h0 (by omega) hB (by omega)
      have hw : wd t i = wd s (a + i) := wd_seg ht hk hi (by omega)
      have hn := sk_next h0 (show a + i < s.size by omega)
      have e1 : (Utf8.decode t i).2 = wd s (a + i) := hw
      rw [e1, runeCount_seg ht hk hB fuel (i + wd s (a + i)) (by omega) (by omega) (by rw [← Nat.add_assoc]; exact hn)]
      have e2 : k - i = wd s (a + i) + (k - (i + wd s (a + i))) := by omega
      rw [e2, nB_add, nB_char h0 (by omega), ← Nat.add_assoc]
    · have : k - i = 0 := by omega
      rw [if_neg (by omega), this]; rfl

theorem runeCount_is {s t : ByteArray} {a k : Nat} (ht : t.data.toList = seg s a k) (hk : a + k ≤ s.size) (hA : sk s a = 0) (hB : sk s (a + k) = 0) : Lib.runeCount t = nB s a k := by
  have hts : t.size = k := by rw [← len_of, ht, seg_len hk]
  have := runeCount_seg ht hk hB t.size 0 (by omega) (by omega) hA
  rw [Lib.runeCount, this]; rfl

end Go.Proofs.Qxb6003688a.Plain
