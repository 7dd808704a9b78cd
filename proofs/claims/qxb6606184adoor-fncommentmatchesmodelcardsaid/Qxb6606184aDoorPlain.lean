/-
  PLAIN: no Go in sight. The depth-counting scan over a list of bytes, and what the searches of the Go text find.
-/
import Derived.Lib.Index
import Derived.Lib.IndexLaws
import Derived.Lib.Atoi
namespace Go.Proofs.Qxb6606184aDoor.Plain

/-- 'sk': the next byte is the second of a pair that has been read -/
def ds (lim : Nat) : Bool → Nat → List UInt8 → Option Nat
  | _, _, [] => none
  | true, d, _ :: l => (ds lim false d l).map (· + 1)
  | false, d, c :: l =>
    if c = 42 ∧ l.head? = some 47 then (if d = 1 then some 2 else (ds lim true (d - 1) l).map (· + 1))
    else if (c = 47 ∧ l.head? = some 42) ∧ (lim = 0 ∨ d < lim) then (ds lim true (d + 1) l).map (· + 1)
    else (ds lim false d l).map (· + 1)

def scan (l : List UInt8) (lim d i : Nat) : Int := match ds lim false d (l.drop i) with | none => -1 | some k => (i + k : Nat)

/-- a close at place i; an opening at place i -/
def ClAt (l : List UInt8) (i : Nat) : Prop := l[i]? = some 42 ∧ l[i + 1]? = some 47
def OpAt (l : List UInt8) (i : Nat) : Prop := l[i]? = some 47 ∧ l[i + 1]? = some 42

theorem head_drop (l : List UInt8) (i : Nat) : (l.drop i).head? = l[i]? := by
  rw [List.head?_drop]

theorem drop_lt {l : List UInt8} {i : Nat} (h : i < l.length) : l.drop i = l[i] :: l.drop (i + 1) := List.drop_eq_getElem_cons h

theorem ds_true {l : List UInt8} {lim d i : Nat} (h : i < l.length) : ds lim true d (l.drop i) = (ds lim false d (l.drop (i + 1))).map (· + 1) := by
  rw [drop_lt h]; rfl

theorem scan_of {l : List UInt8} {lim d d' i n : Nat} (h : ds lim false d (l.drop i) = (ds lim false d' (l.drop (i + n))).map (· + n)) : scan l lim d i = scan l lim d' (i + n) := by
  unfold scan; rw [h]
  cases ds lim false d' (l.drop (i + n)) with
  | none => rfl
  | some k => simp; omega

theorem scan_end {l : List UInt8} {lim i : Nat} (h : ClAt l i) : scan l lim 1 i = (i + 2 : Nat) := by
  obtain ⟨h1, h2⟩ := h
  obtain ⟨hlt, e⟩ := List.getElem?_eq_some_iff.1 h1
  unfold scan; rw [drop_lt hlt, ds, head_drop, e, h2]; simp

theorem scan_close {l : List UInt8} {lim d i : Nat} (h : ClAt l i) (hd : d ≠ 1) : scan l lim d i = scan l lim (d - 1) (i + 2) := by
  obtain ⟨h1, h2⟩ := h
  obtain ⟨hlt, e⟩ := List.getElem?_eq_some_iff.1 h1
  obtain ⟨hlt2, _⟩ := List.getElem?_eq_some_iff.1 h2
  apply scan_of
  rw [drop_lt hlt, ds, head_drop, e, h2, ds_true hlt2]
  simp [hd, Option.map_map]; rfl

theorem scan_open {l : List UInt8} {lim d i : Nat} (h : OpAt l i) (hl : lim = 0 ∨ d < lim) : scan l lim d i = scan l lim (d + 1) (i + 2) := by
  obtain ⟨h1, h2⟩ := h
  obtain ⟨hlt, e⟩ := List.getElem?_eq_some_iff.1 h1
  obtain ⟨hlt2, _⟩ := List.getElem?_eq_some_iff.1 h2
  apply scan_of
  rw [drop_lt hlt, ds, head_drop, e, h2, if_neg (by decide), if_pos ⟨⟨rfl, rfl⟩, hl⟩, ds_true hlt2]
  simp [Option.map_map]; rfl

theorem scan_step {l : List UInt8} {lim d i : Nat} (h : i < l.length) (h1 : ¬ ClAt l i) (h2 : ¬ (OpAt l i ∧ (lim = 0 ∨ d < lim))) : scan l lim d i = scan l lim d (i + 1) := by
  apply scan_of
  have e0 : l[i]? = some l[i] := List.getElem?_eq_getElem h
  have n1 : ¬ (l[i] = 42 ∧ l[i + 1]? = some 47) := fun ⟨a, b⟩ => h1 ⟨by rw [e0, a], b⟩
  have n2 : ¬ ((l[i] = 47 ∧ l[i + 1]? = some 42) ∧ (lim = 0 ∨ d < lim)) := fun ⟨⟨a, b⟩, c⟩ => h2 ⟨⟨by rw [e0, a], b⟩, c⟩
  rw [drop_lt h, ds, head_drop, if_neg n1, if_neg n2]

theorem scan_past {l : List UInt8} {lim d i : Nat} (h : l.length ≤ i + 1) : scan l lim d i = -1 := by
  by_cases hi : i < l.length
  · have hn : l[i + 1]? = none := List.getElem?_eq_none h
    rw [scan_step hi (fun c => by rw [c.2] at hn; simp at hn) (fun c => by rw [c.1.2] at hn; simp at hn)]
    unfold scan; rw [List.drop_of_length_le h]; rfl
  · unfold scan; rw [List.drop_of_length_le (by omega)]; rfl

/-- no close anywhere behind: no end -/
theorem ds_none (lim : Nat) : ∀ (l : List UInt8) (sk : Bool) (d : Nat), (∀ j : Nat, ¬ ClAt l j) → ds lim sk d l = none
  | [], sk, d, _ => by cases sk <;> rfl
  | c :: l, sk, d, h => by
    have ht : ∀ j : Nat, ¬ ClAt l j := fun j hj => h (j + 1) ⟨by simpa using hj.1, by simpa using hj.2⟩
    have h0 : ¬ (c = 42 ∧ l.head? = some 47) := fun ⟨a, b⟩ => h 0 ⟨by simp [a], by rw [List.head?_eq_getElem?] at b; simpa using b⟩
    cases sk
    · rw [ds, if_neg h0]
      split
      · rw [ds_none lim l _ _ ht]; rfl
      · rw [ds_none lim l _ _ ht]; rfl
    · rw [ds, ds_none lim l _ _ ht]; rfl

theorem cl_drop {l : List UInt8} {i j : Nat} : ClAt (l.drop i) j ↔ ClAt l (i + j) := by
  unfold ClAt; rw [List.getElem?_drop, List.getElem?_drop, Nat.add_assoc]
theorem op_drop {l : List UInt8} {i j : Nat} : OpAt (l.drop i) j ↔ OpAt l (i + j) := by
  unfold OpAt; rw [List.getElem?_drop, List.getElem?_drop, Nat.add_assoc]

theorem scan_none {l : List UInt8} {lim d i : Nat} (h : ∀ j : Nat, ¬ ClAt l (i + j)) : scan l lim d i = -1 := by
  unfold scan; rw [ds_none lim _ _ _ (fun j hj => h j (cl_drop.1 hj))]

/-- over bytes that neither close nor (where it counts) open -/
theorem scan_run {l : List UInt8} {lim d i : Nat} : ∀ (k : Nat), (∀ j : Nat, j < k → ¬ ClAt l (i + j) ∧ ¬ (OpAt l (i + j) ∧ (lim = 0 ∨ d < lim))) → i + k ≤ l.length → scan l lim d i = scan l lim d (i + k)
  | 0, _, _ => rfl
  | k + 1, h, hl => by
    rw [scan_run k (fun j hj => h j (by omega)) (by omega)]
    exact scan_step (by omega) (h k (by omega)).1 (h k (by omega)).2

/-! ### what strings.Index finds -/
theorem occ_pair {s : List UInt8} {a b : UInt8} {i : Nat} : Go.Lib.occAt s [a, b] i = true ↔ (s[i]? = some a ∧ s[i + 1]? = some b) := by
  unfold Go.Lib.occAt
  constructor
  · intro h
    rw [List.isPrefixOf_iff_prefix] at h
    obtain ⟨t, ht⟩ := h
    have h0 : (s.drop i)[0]? = some a := by rw [← ht]; rfl
    have h1 : (s.drop i)[1]? = some b := by rw [← ht]; rfl
    rw [List.getElem?_drop] at h0 h1
    exact ⟨h0, h1⟩
  · rintro ⟨h0, h1⟩
    obtain ⟨l0, e0⟩ := List.getElem?_eq_some_iff.1 h0
    obtain ⟨l1, e1⟩ := List.getElem?_eq_some_iff.1 h1
    rw [drop_lt l0, drop_lt l1, e0, e1]
    simp [List.isPrefixOf]

theorem index_pair (s : List UInt8) (a b : UInt8) :
    (Go.Lib.index s [a, b] = -1 ∧ ∀ j : Nat, ¬ (s[j]? = some a ∧ s[j + 1]? = some b)) ∨
    ∃ k : Nat, Go.Lib.index s [a, b] = k ∧ k + 2 ≤ s.length ∧ (s[k]? = some a ∧ s[k + 1]? = some b) ∧ ∀ j : Nat, j < k → ¬ (s[j]? = some a ∧ s[j + 1]? = some b) := by
  by_cases h : ∃ k : Nat, s[k]? = some a ∧ s[k + 1]? = some b
  · obtain ⟨k0, hk0⟩ := h
    have hex : ∀ n : Nat, (∃ k : Nat, k ≤ n ∧ (s[k]? = some a ∧ s[k + 1]? = some b)) → ∃ k : Nat, (s[k]? = some a ∧ s[k + 1]? = some b) ∧ ∀ j : Nat, j < k → ¬ (s[j]? = some a ∧ s[j + 1]? = some b) := by
      intro n
      induction n with
      | zero => rintro ⟨k, hk, hh⟩; exact ⟨k, hh, fun j hj => by omega⟩
      | succ n ih =>
        rintro ⟨k, hk, hh⟩
        by_cases hs : ∃ k' : Nat, k' ≤ n ∧ (s[k']? = some a ∧ s[k' + 1]? = some b)
        · exact ih hs
        · exact ⟨k, hh, fun j hj hj2 => hs ⟨j, by omega, hj2⟩⟩
    obtain ⟨k, hk, hm⟩ := hex k0 ⟨k0, Nat.le_refl _, hk0⟩
    obtain ⟨l1, _⟩ := List.getElem?_eq_some_iff.1 hk.2
    refine Or.inr ⟨k, ?_, by omega, hk, hm⟩
    refine Go.Lib.index_first (by omega) (occ_pair.2 hk) (fun j hj => ?_)
    cases ho : Go.Lib.occAt s [a, b] j with
    | false => rfl
    | true => exact absurd (occ_pair.1 ho) (hm j hj)
  · refine Or.inl ⟨?_, fun j hj => h ⟨j, hj⟩⟩
    refine Go.Lib.index_none (fun j _ => ?_)
    cases ho : Go.Lib.occAt s [a, b] j with
    | false => rfl
    | true => exact absurd ⟨j, occ_pair.1 ho⟩ h

/-- 'strings.Index(text[i:], the close)' -/
theorem index_close (l : List UInt8) (i : Nat) :
    (Go.Lib.index (l.drop i) [42, 47] = -1 ∧ ∀ j : Nat, ¬ ClAt l (i + j)) ∨
    ∃ k : Nat, Go.Lib.index (l.drop i) [42, 47] = k ∧ i + k + 2 ≤ l.length ∧ ClAt l (i + k) ∧ ∀ j : Nat, j < k → ¬ ClAt l (i + j) := by
  rcases index_pair (l.drop i) 42 47 with ⟨e, h⟩ | ⟨k, e, hl, h, hm⟩
  · exact Or.inl ⟨e, fun j hj => h j (cl_drop.2 hj)⟩
  · rw [List.length_drop] at hl
    exact Or.inr ⟨k, e, by omega, cl_drop.1 h, fun j hj hc => hm j hj (cl_drop.2 hc)⟩

/-- 'strings.Index(text[i:i+end+1], the opening)' -/
theorem index_open (l : List UInt8) (i n : Nat) (_hn : i + n + 2 ≤ l.length) :
    (Go.Lib.index ((l.drop i).take (n + 1)) [47, 42] = -1 ∧ ∀ j : Nat, j < n → ¬ OpAt l (i + j)) ∨
    ∃ k : Nat, Go.Lib.index ((l.drop i).take (n + 1)) [47, 42] = k ∧ k < n ∧ OpAt l (i + k) ∧ ∀ j : Nat, j < k → ¬ OpAt l (i + j) := by
  have htk : ∀ j : Nat, j < n → ((((l.drop i).take (n + 1))[j]? = some 47 ∧ ((l.drop i).take (n + 1))[j + 1]? = some 42) ↔ OpAt l (i + j)) := by
    intro j hj
    rw [List.getElem?_take_of_lt (by omega), List.getElem?_take_of_lt (by omega)]
    exact op_drop
  rcases index_pair ((l.drop i).take (n + 1)) 47 42 with ⟨e, h⟩ | ⟨k, e, hl, h, hm⟩
  · exact Or.inl ⟨e, fun j hj hc => h j ((htk j hj).2 hc)⟩
  · rw [List.length_take, List.length_drop] at hl
    exact Or.inr ⟨k, e, by omega, (htk k (by omega)).1 h, fun j hj hc => hm j hj ((htk j (by omega)).2 hc)⟩

theorem cl_not_op {l : List UInt8} {i : Nat} (h : ClAt l i) : ¬ OpAt l i := fun ho => by have := h.1.symm.trans ho.1; exact absurd this (by decide)

/-- the version comment's round: first close at i + n, no opening ahead of it -/
theorem ver_done {l : List UInt8} {i n : Nat} (hl : i + n + 2 ≤ l.length) (hc : ClAt l (i + n)) (hn : ∀ j : Nat, j < n → ¬ ClAt l (i + j)) (ho : ∀ j : Nat, j < n → ¬ OpAt l (i + j)) :
    scan l 2 1 i = (i + n + 2 : Nat) := by
  rw [scan_run n (fun j hj => ⟨hn j hj, fun h => ho j hj h.1⟩) (by omega), scan_end hc]
/-- an opening at i + k ahead of the first close: on at depth 2 -/
theorem ver_in {l : List UInt8} {i k n : Nat} (hk : k < n) (hl : i + n + 2 ≤ l.length) (hn : ∀ j : Nat, j < n → ¬ ClAt l (i + j)) (ho : OpAt l (i + k)) (hm : ∀ j : Nat, j < k → ¬ OpAt l (i + j)) :
    scan l 2 1 i = scan l 2 2 (i + k + 2) := by
  rw [scan_run k (fun j hj => ⟨hn j (by omega), fun h => hm j hj h.1⟩) (by omega), scan_open ho (Or.inr (by omega))]
/-- at depth 2: to the next close, and on at depth 1 -/
theorem ver_out {l : List UInt8} {i n : Nat} (hl : i + n + 2 ≤ l.length) (hc : ClAt l (i + n)) (hn : ∀ j : Nat, j < n → ¬ ClAt l (i + j)) :
    scan l 2 2 i = scan l 2 1 (i + n + 2) := by
  rw [scan_run n (fun j hj => ⟨hn j hj, fun h => by omega⟩) (by omega), scan_close hc (by omega)]
/-- the flat comment -/
theorem flat_some {l : List UInt8} {i n : Nat} (hl : i + n + 2 ≤ l.length) (hc : ClAt l (i + n)) (hn : ∀ j : Nat, j < n → ¬ ClAt l (i + j)) :
    scan l 1 1 i = (i + n + 2 : Nat) := by
  rw [scan_run n (fun j hj => ⟨hn j hj, fun h => by omega⟩) (by omega), scan_end hc]

theorem scan_bd (l : List UInt8) (lim d i : Nat) (hi : i ≤ l.length) : -1 ≤ scan l lim d i ∧ scan l lim d i ≤ l.length := by
  have hb : ∀ (m : List UInt8) (sk : Bool) (d k : Nat), ds lim sk d m = some k → k ≤ m.length := by
    intro m
    induction m with
    | nil => intro sk d k h; cases sk <;> simp [ds] at h
    | cons c m ih =>
      intro sk d k h
      have hmap : ∀ (sk' : Bool) (d' : Nat), (ds lim sk' d' m).map (· + 1) = some k → k ≤ m.length + 1 := by
        intro sk' d' h'
        rw [Option.map_eq_some_iff] at h'
        obtain ⟨a, ha, rfl⟩ := h'
        have := ih _ _ _ ha
        omega
      cases sk
      · rw [ds] at h
        split at h
        · rename_i hc
          split at h
          · simp at h; subst h
            have h2 := hc.2
            cases m with
            | nil => simp at h2
            | cons a m => simp
          · exact hmap _ _ h
        · split at h
          · exact hmap _ _ h
          · exact hmap _ _ h
      · exact hmap _ _ h
  unfold scan
  cases h : ds lim false d (l.drop i) with
  | none => simp
  | some k =>
    have := hb _ _ _ _ h
    rw [List.length_drop] at this
    simp; omega

/-! ### the opening of a version comment -/
def dig (c : UInt8) : Bool := 48 ≤ c && c ≤ 57

/-- how many digits stand from place o on, six at most: m counts down -/
def digs (l : List UInt8) (o : Nat) : Nat → Nat → Nat
  | 0, d => d
  | m + 1, d => match l[o + d]? with
    | none => d
    | some c => if dig c then digs l o m (d + 1) else d

def nd (l : List UInt8) (o : Nat) : Nat := digs l o 6 0

theorem digs_le (l : List UInt8) (o : Nat) : ∀ m d, d ≤ digs l o m d ∧ digs l o m d ≤ d + m
  | 0, d => by simp [digs]
  | m + 1, d => by
    rw [digs]
    split
    · omega
    · split
      · have := digs_le l o m (d + 1); omega
      · omega

theorem digs_all (l : List UInt8) (o : Nat) : ∀ m d j, d ≤ j → j < digs l o m d → ∃ c, l[o + j]? = some c ∧ dig c = true
  | 0, d, j, h1, h2 => by simp [digs] at h2; omega
  | m + 1, d, j, h1, h2 => by
    rw [digs] at h2
    split at h2
    · omega
    · rename_i c hc
      split at h2
      · by_cases e : j = d
        · subst e; exact ⟨c, hc, by assumption⟩
        · exact digs_all l o m (d + 1) j (by omega) h2
      · omega

theorem nd_le (l : List UInt8) (o : Nat) : nd l o ≤ 6 := by have := digs_le l o 6 0; unfold nd; omega

theorem nd_room (l : List UInt8) (o : Nat) (ho : o ≤ l.length) : o + nd l o ≤ l.length := by
  by_cases h : nd l o = 0
  · omega
  · obtain ⟨c, hc, _⟩ := digs_all l o 6 0 (nd l o - 1) (by omega) (by unfold nd at *; omega)
    obtain ⟨hlt, _⟩ := List.getElem?_eq_some_iff.1 hc
    omega

/-- digits make a number -/
theorem decFrom_digs : ∀ (l : List UInt8) (acc : Nat), (∀ c ∈ l, dig c = true) → ∃ n, Go.Lib.decFrom acc l = some n
  | [], acc, _ => ⟨acc, rfl⟩
  | c :: l, acc, h => by
    have hc := h c (List.mem_cons_self ..)
    have hd : Go.Lib.digitVal c = some (c.toNat - 48) := by
      unfold dig at hc
      simp [UInt8.le_iff_toNat_le] at hc
      unfold Go.Lib.digitVal
      rw [if_pos hc]
    rw [Go.Lib.decFrom, hd]
    exact decFrom_digs l _ (fun x hx => h x (List.mem_cons_of_mem _ hx))

theorem atoi_digs (l : List UInt8) (hne : l ≠ []) (h : ∀ c ∈ l, dig c = true) : ∃ n : Nat, Go.Lib.atoi l = some (n : Int) := by
  cases l with
  | nil => exact absurd rfl hne
  | cons c l =>
    obtain ⟨n, hn⟩ := decFrom_digs (c :: l) 0 h
    have hc := h c (List.mem_cons_self ..)
    have h1 : (c == 45) = false := by
      cases e : c == 45 with
      | false => rfl
      | true => rw [beq_iff_eq.1 e] at hc; exact absurd hc (by decide)
    have h2 : (c == 43) = false := by
      cases e : c == 43 with
      | false => rfl
      | true => rw [beq_iff_eq.1 e] at hc; exact absurd hc (by decide)
    exact ⟨n, by simp [Go.Lib.atoi, h1, h2, Go.Lib.decNat, hn]⟩

/-- the number that the digits behind the opening spell -/
theorem atoi_nd (l : List UInt8) (o : Nat) (h5 : 5 ≤ nd l o) : ∃ n : Nat, Go.Lib.atoi ((l.drop o).take (nd l o)) = some (n : Int) := by
  have hall : ∀ c ∈ (l.drop o).take (nd l o), dig c = true := by
    intro c hc
    obtain ⟨j, hj⟩ := List.mem_iff_getElem?.1 hc
    by_cases hjn : j < nd l o
    · rw [List.getElem?_take_of_lt hjn, List.getElem?_drop] at hj
      obtain ⟨c', hc', hd⟩ := digs_all l o 6 0 j (by omega) hjn
      rw [hj] at hc'
      injection hc' with hc'
      rw [hc']; exact hd
    · rw [List.getElem?_eq_none (by rw [List.length_take]; omega)] at hj
      exact absurd hj (by simp)
  refine atoi_digs _ ?_ hall
  intro e
  obtain ⟨c', hc', _⟩ := digs_all l o 6 0 0 (by omega) (by unfold nd at h5; omega)
  obtain ⟨hlt, _⟩ := List.getElem?_eq_some_iff.1 hc'
  have : ((l.drop o).take (nd l o)).length = 0 := by rw [e]; rfl
  rw [List.length_take, List.length_drop] at this
  omega

/-- the opening's length: 3, 4, or none -/
def opn (l : List UInt8) : Nat :=
  if l[0]? = some 47 ∧ l[1]? = some 42 ∧ l[2]? = some 33 then 3
  else if l[0]? = some 47 ∧ l[1]? = some 42 ∧ l[2]? = some 77 ∧ l[3]? = some 33 then 4 else 0

/-- where the text of a version comment begins; -1: none -/
def body (l : List UInt8) : Int := if opn l = 0 then -1 else if nd l (opn l) < 5 then -1 else (opn l + nd l (opn l) : Nat)

/-- what blockComment and the model both answer -/
def block (runs nest : Bool) (l : List UInt8) : Int :=
  if runs = true ∧ 0 ≤ body l then scan l 2 1 (body l).toNat
  else if nest then scan l 0 1 2 else scan l 1 1 2

end Go.Proofs.Qxb6606184aDoor.Plain
