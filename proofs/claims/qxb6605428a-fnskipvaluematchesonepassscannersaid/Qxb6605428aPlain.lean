/-
  PLAIN: no Go in sight. The one-pass scanners over a list of bytes, and what the two Go functions' loops lean on.
-/
namespace Go.Proofs.Qxb6605428a.Plain

/-- the index-relative scanner: how many bytes to just past the first unescaped quote; 'e': is the next byte escaped? -/
def scan : Bool → List UInt8 → Option Nat
  | _, [] => none
  | true, _ :: l => (scan false l).map (· + 1)
  | false, c :: l => if c = 92 then (scan true l).map (· + 1) else if c = 34 then some 1 else (scan false l).map (· + 1)

/-- the same as an absolute index, from place j on: -1 where there is none -/
def fin (l : List UInt8) (e : Bool) (j : Nat) : Int := match scan e (l.drop j) with | none => -1 | some k => (j + k : Nat)

theorem drop_at {l : List UInt8} {j : Nat} {c : UInt8} (h : l[j]? = some c) : l.drop j = c :: l.drop (j + 1) := by
  obtain ⟨hlt, rfl⟩ := List.getElem?_eq_some_iff.1 h
  exact List.drop_eq_getElem_cons hlt

theorem fin_past {l : List UInt8} {e : Bool} {j : Nat} (h : l.length ≤ j) : fin l e j = -1 := by
  unfold fin; rw [List.drop_of_length_le h]; cases e <;> rfl

theorem fin_map {l : List UInt8} {e e' : Bool} {j : Nat} (h : scan e (l.drop j) = (scan e' (l.drop (j + 1))).map (· + 1)) : fin l e j = fin l e' (j + 1) := by
  unfold fin; rw [h]
  cases scan e' (l.drop (j + 1)) with
  | none => rfl
  | some k => simp; omega

theorem fin_true (l : List UInt8) (j : Nat) : fin l true j = fin l false (j + 1) := by
  by_cases h : j < l.length
  · apply fin_map; rw [List.drop_eq_getElem_cons h]; rfl
  · rw [fin_past (by omega), fin_past (by omega)]

theorem fin_bs {l : List UInt8} {j : Nat} (h : l[j]? = some 92) : fin l false j = fin l true (j + 1) := by
  apply fin_map; rw [drop_at h]; simp [scan]

theorem fin_bs2 {l : List UInt8} {j : Nat} (h : l[j]? = some 92) : fin l false j = fin l false (j + 2) := by
  rw [fin_bs h, fin_true]

theorem fin_q {l : List UInt8} {j : Nat} (h : l[j]? = some 34) : fin l false j = (j + 1 : Nat) := by
  unfold fin; rw [drop_at h]; simp [scan]

theorem fin_other {l : List UInt8} {j : Nat} {c : UInt8} (h : l[j]? = some c) (h1 : c ≠ 92) (h2 : c ≠ 34) : fin l false j = fin l false (j + 1) := by
  apply fin_map; rw [drop_at h]; simp [scan, h1, h2]

theorem scan_noq : ∀ (l : List UInt8) (e : Bool), (∀ k : Nat, l[k]? ≠ some 34) → scan e l = none
  | [], e, _ => by cases e <;> rfl
  | c :: l, e, h => by
    have ht : ∀ k : Nat, l[k]? ≠ some 34 := fun k => by have := h (k + 1); simpa using this
    have h0 : c ≠ 34 := by have := h 0; simpa using this
    cases e
    · simp [scan, h0, scan_noq l _ ht]
    · simp [scan, scan_noq l _ ht]

theorem fin_noq {l : List UInt8} {e : Bool} {j : Nat} (h : ∀ k : Nat, (l.drop j)[k]? ≠ some 34) : fin l e j = -1 := by
  unfold fin; rw [scan_noq _ _ h]

/-- the run of backslashes that ends ahead of place p, no further back than place a -/
def tb (l : List UInt8) (a : Nat) : Nat → Nat
  | 0 => 0
  | p + 1 => if a ≤ p ∧ l[p]? = some 92 then tb l a p + 1 else 0

theorem tb_yes {l : List UInt8} {a p : Nat} (h1 : a ≤ p) (h2 : l[p]? = some 92) : tb l a (p + 1) = tb l a p + 1 := by
  simp [tb, h1, h2]
theorem tb_no {l : List UInt8} {a p : Nat} (h2 : l[p]? ≠ some 92) : tb l a (p + 1) = 0 := by
  simp [tb, h2]
theorem tb_start {l : List UInt8} {a p : Nat} (h : p ≤ a) : tb l a p = 0 := by
  cases p with
  | zero => rfl
  | succ p => simp [tb]; omega
theorem tb_le (l : List UInt8) (a : Nat) : ∀ p, tb l a p ≤ p - a
  | 0 => by simp [tb]
  | p + 1 => by
    have := tb_le l a p
    unfold tb; split <;> omega

def odd (n : Nat) : Bool := n % 2 == 1

/-- one plain byte further, the run's parity tells the scanner's state -/
theorem fin_step {l : List UInt8} {a p : Nat} {c : UInt8} (ha : a ≤ p) (hc : l[p]? = some c) (hq : c ≠ 34) :
    fin l (odd (tb l a p)) p = fin l (odd (tb l a (p + 1))) (p + 1) := by
  by_cases hb : c = 92
  · subst hb
    rw [tb_yes ha hc]
    rcases Nat.mod_two_eq_zero_or_one (tb l a p) with h | h
    · have e1 : odd (tb l a p) = false := by simp [odd, h]
      have e2 : odd (tb l a p + 1) = true := by simp [odd]; omega
      rw [e1, e2, fin_bs hc]
    · have e1 : odd (tb l a p) = true := by simp [odd, h]
      have e2 : odd (tb l a p + 1) = false := by simp [odd]; omega
      rw [e1, e2, fin_true]
  · have e0 : tb l a (p + 1) = 0 := tb_no (by rw [hc]; simpa using hb)
    rw [e0]
    show _ = fin l false (p + 1)
    cases odd (tb l a p)
    · exact fin_other hc hb hq
    · exact fin_true l p

theorem fin_run {l : List UInt8} {a j : Nat} (ha : a ≤ j) : ∀ (o : Nat), (∀ k : Nat, k < o → (l.drop j)[k]? ≠ some 34) → j + o ≤ l.length →
    fin l (odd (tb l a j)) j = fin l (odd (tb l a (j + o))) (j + o)
  | 0, _, _ => rfl
  | o + 1, h, hl => by
    rw [fin_run ha o (fun k hk => h k (by omega)) (by omega)]
    have hlt : j + o < l.length := by omega
    have hc : l[j + o]? = some l[j + o] := List.getElem?_eq_getElem hlt
    have hq := h o (by omega)
    rw [List.getElem?_drop, hc] at hq
    exact fin_step (by omega) hc (by simpa using hq)

/-- at the quote that 'IndexByte' finds: the answer by the run's parity -/
theorem fin_quote_even {l : List UInt8} {a j o : Nat} (ha : a ≤ j) (h0 : tb l a j = 0) (hq : (l.drop j)[o]? = some 34) (hn : ∀ k : Nat, k < o → (l.drop j)[k]? ≠ some 34)
    (hp : tb l a (j + o) % 2 = 0) : fin l false j = (j + o + 1 : Nat) := by
  rw [List.getElem?_drop] at hq
  obtain ⟨hlt, _⟩ := List.getElem?_eq_some_iff.1 hq
  have := fin_run ha o hn (by omega)
  rw [h0] at this
  have e : odd (tb l a (j + o)) = false := by simp [odd, hp]
  rw [e, fin_q hq] at this
  exact this

theorem fin_quote_odd {l : List UInt8} {a j o : Nat} (ha : a ≤ j) (h0 : tb l a j = 0) (hq : (l.drop j)[o]? = some 34) (hn : ∀ k : Nat, k < o → (l.drop j)[k]? ≠ some 34)
    (hp : tb l a (j + o) % 2 = 1) : fin l false j = fin l false (j + o + 1) ∧ tb l a (j + o + 1) = 0 := by
  rw [List.getElem?_drop] at hq
  obtain ⟨hlt, _⟩ := List.getElem?_eq_some_iff.1 hq
  have := fin_run ha o hn (by omega)
  rw [h0] at this
  have e : odd (tb l a (j + o)) = true := by simp [odd, hp]
  rw [e, fin_true] at this
  exact ⟨this, tb_no (by rw [hq]; decide)⟩

/-! ### the one-pass scanner of a value -/

/-- 'q': inside a string; 'e': the next byte is escaped; 'd': the depth -/
def sv : Bool → Bool → Nat → List UInt8 → Option Nat
  | _, _, _, [] => none
  | true, true, d, _ :: l => (sv true false d l).map (· + 1)
  | true, false, d, c :: l => if c = 92 then (sv true true d l).map (· + 1) else if c = 34 then (if d = 0 then some 1 else (sv false false d l).map (· + 1)) else (sv true false d l).map (· + 1)
  | false, _, d, c :: l => if c = 34 then (sv true false d l).map (· + 1) else if c = 123 ∨ c = 91 then (sv false false (d + 1) l).map (· + 1)
      else if c = 125 ∨ c = 93 then (if d = 1 then some 1 else (sv false false (d - 1) l).map (· + 1)) else (sv false false d l).map (· + 1)

def val (l : List UInt8) (q e : Bool) (d j : Nat) : Int := match sv q e d (l.drop j) with | none => -1 | some k => (j + k : Nat)

theorem val_past {l : List UInt8} {q e : Bool} {d j : Nat} (h : l.length ≤ j) : val l q e d j = -1 := by
  unfold val; rw [List.drop_of_length_le h]; cases q <;> cases e <;> rfl

theorem val_map {l : List UInt8} {q e q' e' : Bool} {d d' j : Nat} (h : sv q e d (l.drop j) = (sv q' e' d' (l.drop (j + 1))).map (· + 1)) : val l q e d j = val l q' e' d' (j + 1) := by
  unfold val; rw [h]
  cases sv q' e' d' (l.drop (j + 1)) with
  | none => rfl
  | some k => simp; omega

theorem val_esc {l : List UInt8} {d j : Nat} {c : UInt8} (h : l[j]? = some c) : val l true true d j = val l true false d (j + 1) := by
  apply val_map; rw [drop_at h]; rfl
theorem val_bs {l : List UInt8} {d j : Nat} (h : l[j]? = some 92) : val l true false d j = val l true true d (j + 1) := by
  apply val_map; rw [drop_at h]; simp [sv]
theorem val_q0 {l : List UInt8} {j : Nat} (h : l[j]? = some 34) : val l true false 0 j = (j + 1 : Nat) := by
  unfold val; rw [drop_at h]; simp [sv]
theorem val_qd {l : List UInt8} {d j : Nat} (h : l[j]? = some 34) (hd : d ≠ 0) : val l true false d j = val l false false d (j + 1) := by
  apply val_map; rw [drop_at h]; simp [sv, hd]
theorem val_in {l : List UInt8} {d j : Nat} {c : UInt8} (h : l[j]? = some c) (h1 : c ≠ 92) (h2 : c ≠ 34) : val l true false d j = val l true false d (j + 1) := by
  apply val_map; rw [drop_at h]; simp [sv, h1, h2]
theorem val_quote {l : List UInt8} {d j : Nat} (h : l[j]? = some 34) : val l false false d j = val l true false d (j + 1) := by
  apply val_map; rw [drop_at h]; simp [sv]
theorem val_up {l : List UInt8} {d j : Nat} {c : UInt8} (h : l[j]? = some c) (hc : c = 123 ∨ c = 91) : val l false false d j = val l false false (d + 1) (j + 1) := by
  apply val_map; rw [drop_at h]
  have : c ≠ 34 := by rcases hc with rfl | rfl <;> decide
  simp [sv, this, hc]
theorem val_dn {l : List UInt8} {d j : Nat} {c : UInt8} (h : l[j]? = some c) (hc : c = 125 ∨ c = 93) (hd : d ≠ 1) : val l false false d j = val l false false (d - 1) (j + 1) := by
  apply val_map; rw [drop_at h]
  rcases hc with rfl | rfl <;> simp [sv, hd]
theorem val_end {l : List UInt8} {j : Nat} {c : UInt8} (h : l[j]? = some c) (hc : c = 125 ∨ c = 93) : val l false false 1 j = (j + 1 : Nat) := by
  unfold val; rw [drop_at h]
  rcases hc with rfl | rfl <;> simp [sv]
theorem val_out {l : List UInt8} {d j : Nat} {c : UInt8} (h : l[j]? = some c) (h1 : c ≠ 34) (h2 : ¬ (c = 123 ∨ c = 91)) (h3 : ¬ (c = 125 ∨ c = 93)) : val l false false d j = val l false false d (j + 1) := by
  apply val_map; rw [drop_at h]; simp [sv, h1, h2, h3]

/-- inside a string at depth 0 the one-pass scanner is the string's scanner -/
theorem sv_str0 : ∀ (l : List UInt8) (e : Bool), sv true e 0 l = scan e l
  | [], e => by cases e <;> rfl
  | c :: l, true => by simp [sv, scan, sv_str0 l]
  | c :: l, false => by simp [sv, scan, sv_str0 l]

theorem val_str0 (l : List UInt8) (e : Bool) (j : Nat) : val l true e 0 j = fin l e j := by
  unfold val fin; rw [sv_str0]

/-- inside a string at a depth: to the string's end, and on from there -/
theorem sv_str {d : Nat} (hd : d ≠ 0) : ∀ (l : List UInt8) (e : Bool), sv true e d l = match scan e l with | none => none | some k => (sv false false d (l.drop k)).map (· + k)
  | [], e => by cases e <;> rfl
  | c :: l, true => by
    simp only [sv, scan, sv_str hd l]
    cases scan false l with
    | none => rfl
    | some k => simp [Option.map_map]; congr 1
  | c :: l, false => by
    simp only [sv, scan]
    by_cases h1 : c = 92
    · simp only [h1, if_true, sv_str hd l]
      cases scan true l with
      | none => rfl
      | some k => simp [Option.map_map]; congr 1
    · by_cases h2 : c = 34
      · simp [h2, hd]
      · simp only [h1, h2, if_false, sv_str hd l]
        cases scan false l with
        | none => rfl
        | some k => simp [Option.map_map]; congr 1

theorem val_str_none {l : List UInt8} {e : Bool} {d j : Nat} (hd : d ≠ 0) (h : fin l e j = -1) : val l true e d j = -1 := by
  unfold val; unfold fin at h
  rw [sv_str hd]
  cases hs : scan e (l.drop j) with
  | none => rfl
  | some k => rw [hs] at h; simp at h; omega

theorem val_str_some {l : List UInt8} {e : Bool} {d j n : Nat} (hd : d ≠ 0) (h : fin l e j = n) : val l true e d j = val l false false d n := by
  unfold val; unfold fin at h
  rw [sv_str hd]
  cases hs : scan e (l.drop j) with
  | none => rw [hs] at h; simp at h
  | some k =>
    rw [hs] at h
    have : n = j + k := by simp at h; omega
    subst this
    simp only [List.drop_drop]
    cases sv false false d (l.drop (j + k)) with
    | none => rfl
    | some m => simp; omega

theorem scan_le : ∀ (l : List UInt8) (e : Bool) (k : Nat), scan e l = some k → 1 ≤ k ∧ k ≤ l.length
  | [], e, k, h => by cases e <;> simp [scan] at h
  | c :: l, true, k, h => by
    simp only [scan, Option.map_eq_some_iff] at h
    obtain ⟨m, hm, rfl⟩ := h
    have := scan_le l _ _ hm
    simp; omega
  | c :: l, false, k, h => by
    simp only [scan] at h
    split at h
    · simp only [Option.map_eq_some_iff] at h
      obtain ⟨m, hm, rfl⟩ := h
      have := scan_le l _ _ hm
      simp; omega
    · split at h
      · simp at h; subst h; simp
      · simp only [Option.map_eq_some_iff] at h
        obtain ⟨m, hm, rfl⟩ := h
        have := scan_le l _ _ hm
        simp; omega

/-- the scanner's answer: none, or a place behind j and within the text -/
theorem fin_or (l : List UInt8) (e : Bool) (j : Nat) : fin l e j = -1 ∨ ∃ n : Nat, fin l e j = n ∧ j < n ∧ n ≤ l.length := by
  unfold fin
  cases hs : scan e (l.drop j) with
  | none => exact Or.inl rfl
  | some k =>
    have := scan_le _ _ _ hs
    simp at this
    exact Or.inr ⟨j + k, rfl, by omega, by omega⟩

theorem fin_bd (l : List UInt8) (e : Bool) (j : Nat) : -1 ≤ fin l e j ∧ fin l e j ≤ l.length := by
  rcases fin_or l e j with h | ⟨n, h, _, h2⟩ <;> rw [h] <;> omega

/-- what SkipString and the model both answer -/
def skipS (l : List UInt8) (i : Nat) : Int := if l[i]? = some 34 then fin l false (i + 1) else -1

theorem skipS_bd (l : List UInt8) (i : Nat) : -1 ≤ skipS l i ∧ skipS l i ≤ l.length := by
  unfold skipS; split
  · exact fin_bd _ _ _
  · omega

/-- the run of bytes that are no delimiters -/
def isDel (c : UInt8) : Bool := c == 44 || c == 125 || c == 93 || c == 32 || c == 9 || c == 10 || c == 13

def plainEnd (l : List UInt8) (j : Nat) : Nat := j + ((l.drop j).takeWhile (fun c => !isDel c)).length

theorem plainEnd_past {l : List UInt8} {j : Nat} (h : l.length ≤ j) : plainEnd l j = j := by
  unfold plainEnd; rw [List.drop_of_length_le h]; rfl
theorem plainEnd_stop {l : List UInt8} {j : Nat} {c : UInt8} (h : l[j]? = some c) (hd : isDel c = true) : plainEnd l j = j := by
  unfold plainEnd; rw [drop_at h]; simp [hd]
theorem plainEnd_go {l : List UInt8} {j : Nat} {c : UInt8} (h : l[j]? = some c) (hd : isDel c = false) : plainEnd l j = plainEnd l (j + 1) := by
  unfold plainEnd; rw [drop_at h]; simp [hd]; omega

/-- what SkipValue and the model both answer -/
def skipV (l : List UInt8) (i : Nat) : Int :=
  match l[i]? with
  | none => -1
  | some c => if c = 44 ∨ c = 58 ∨ c = 125 ∨ c = 93 then -1 else if c = 34 ∨ c = 123 ∨ c = 91 then val l false false 0 i else plainEnd l i

end Go.Proofs.Qxb6605428a.Plain
