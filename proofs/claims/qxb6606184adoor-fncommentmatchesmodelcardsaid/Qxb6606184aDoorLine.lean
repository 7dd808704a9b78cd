import Derived.Test.Qxb6606184aDoorAny
import Derived.Test.Qxb6606184aDoorFnBlock
namespace Go.Proofs.Qxb6606184aDoor
open Go.RowKit Plain

/-- the length of a comment that opened with o bytes and ends with its line; -1: left open -/
def LE (cr : Bool) (l : List UInt8) (o : Nat) : Int := if lineEnd cr (l.drop o) = -1 then -1 else o + lineEnd cr (l.drop o) + 1

theorem lineEnd_or (cr : Bool) : ∀ l : List UInt8, lineEnd cr l = -1 ∨ ∃ k : Nat, lineEnd cr l = k ∧ k < l.length
  | [] => Or.inl rfl
  | b :: l => by
    rw [lineEnd]
    split
    · exact Or.inr ⟨0, rfl, by simp⟩
    · rcases lineEnd_or cr l with h | ⟨k, h, hk⟩
      · rw [h]; exact Or.inl rfl
      · rw [h]
        refine Or.inr ⟨k + 1, ?_, by simp; omega⟩
        rw [if_neg (by simp)]; omega

theorem LE_past {cr : Bool} {l : List UInt8} {o : Nat} (h : l.length ≤ o) : LE cr l o = -1 := by
  unfold LE; rw [List.drop_of_length_le h]; rfl
theorem LE_hit {cr : Bool} {l : List UInt8} {o : Nat} {b : UInt8} (h : l[o]? = some b) (hb : (b == 10 || (b == 13 && cr)) = true) : LE cr l o = o + 1 := by
  obtain ⟨hlt, e⟩ := List.getElem?_eq_some_iff.1 h
  unfold LE; rw [drop_lt hlt, e, lineEnd, hb]; simp
theorem LE_miss {cr : Bool} {l : List UInt8} {o : Nat} {b : UInt8} (h : l[o]? = some b) (hb : (b == 10 || (b == 13 && cr)) = false) : LE cr l o = LE cr l (o + 1) := by
  obtain ⟨hlt, e⟩ := List.getElem?_eq_some_iff.1 h
  unfold LE; rw [drop_lt hlt, e, lineEnd, hb]
  rcases lineEnd_or cr (l.drop (o + 1)) with h | ⟨k, h, hk⟩
  · rw [h]; simp
  · rw [h]
    have n1 : ¬ ((k : Int) = -1) := by omega
    have n2 : ((k : Int) == -1) = false := by simp
    simp only [n2, Bool.false_eq_true, if_false]
    rw [if_neg (by omega), if_neg n1]; push_cast; omega

/-- a byte's way in the model's round -/
theorem end_cases (b : UInt8) (cr : Bool) :
    ((b == 10 || (b == 13 && cr)) = true ∧ (((b.toNat : Int) == 10) = true ∨ (((b.toNat : Int) == 10) = false ∧ ((b.toNat : Int) == 13) = true ∧ cr = true))) ∨
    ((b == 10 || (b == 13 && cr)) = false ∧ ((((b.toNat : Int) == 10) = false ∧ ((b.toNat : Int) == 13) = false) ∨ (((b.toNat : Int) == 10) = false ∧ ((b.toNat : Int) == 13) = true ∧ cr = false))) := by
  by_cases h1 : b = 10
  · exact Or.inl ⟨by simp [h1], Or.inl (u8_yes h1 rfl).1⟩
  · by_cases h2 : b = 13
    · cases cr
      · exact Or.inr ⟨by simp [h1], Or.inr ⟨(u8_no h1 rfl).1, (u8_yes h2 rfl).1, rfl⟩⟩
      · exact Or.inl ⟨by simp [h2], Or.inr ⟨(u8_no h1 rfl).1, (u8_yes h2 rfl).1, rfl⟩⟩
    · exact Or.inr ⟨by simp [h1, h2], Or.inl ⟨(u8_no h1 rfl).1, (u8_no h2 rfl).1⟩⟩

/-- no blank byte behind the dashes -/
def ink (c : UInt8) : Bool := !(c ≤ 32 || c == 127)

theorem ink_yes {c : UInt8} (h : ink c = true) : (32 : Int) < (c.toNat : Int) ∧ ((c.toNat : Int) == 127) = false ∧ ((c.toNat : Int) != 127) = true := by
  unfold ink at h
  simp at h
  obtain ⟨h1, h2⟩ := h
  refine ⟨by rw [UInt8.lt_iff_toNat_lt] at h1; have : (32 : UInt8).toNat = 32 := rfl; omega, (u8_no h2 rfl).1, (u8_no h2 rfl).2⟩
theorem ink_no {c : UInt8} (h : ink c = false) : (c.toNat : Int) ≤ 32 ∨ ((32 : Int) < (c.toNat : Int) ∧ ((c.toNat : Int) == 127) = true ∧ ((c.toNat : Int) != 127) = false) := by
  unfold ink at h
  simp at h
  by_cases hc : (c.toNat : Int) ≤ 32
  · exact Or.inl hc
  · have h2 : c = 127 := h (by rw [UInt8.lt_iff_toNat_lt]; have : (32 : UInt8).toNat = 32 := rfl; omega)
    exact Or.inr ⟨by omega, (u8_yes h2 rfl).1, (u8_yes h2 rfl).2⟩

set_option maxHeartbeats 400000 in
theorem blank_yes (c : UInt8) (w : World) (h : Hid (ink c = false)) :
    Calls Tryd.prog 17 #[.int .u8 (c.toNat : Int)] w fun e w' => e = .returned (.bool true) ∧ w' = w := by
  rcases ink_no (unhide h) with h1 | ⟨h1, h2, _⟩
  · go_enter Tryd.func17, Tryd.ntmps17
    go_wp2
    go_ret
    exact ⟨rfl, rfl⟩
  · have h1' : ¬ (c.toNat : Int) ≤ 32 := by omega
    go_enter Tryd.func17, Tryd.ntmps17
    go_wp2
    go_ret
    exact ⟨rfl, rfl⟩
set_option maxHeartbeats 400000 in
theorem blank_no (c : UInt8) (w : World) (h : Hid (ink c = true)) :
    Calls Tryd.prog 17 #[.int .u8 (c.toNat : Int)] w fun e w' => e = .returned (.bool false) ∧ w' = w := by
  obtain ⟨h1, h2, _⟩ := ink_yes (unhide h)
  have h1' : ¬ (c.toNat : Int) ≤ 32 := by omega
  go_enter Tryd.func17, Tryd.ntmps17
  go_wp2
  go_ret
  exact ⟨rfl, rfl⟩

theorem pre2 (l : List UInt8) (a b : UInt8) : Lib.hasPrefix l [a, b] = true ↔ (l[0]? = some a ∧ l[1]? = some b) := by
  unfold Lib.hasPrefix
  match l with
  | [] => simp
  | [x] => simp
  | x :: y :: r => simp [List.isPrefixOf]; constructor <;> (rintro ⟨h1, h2⟩; exact ⟨h1.symm, h2.symm⟩)
theorem pre1 (l : List UInt8) (a : UInt8) : Lib.hasPrefix l [a] = true ↔ l[0]? = some a := by
  unfold Lib.hasPrefix
  match l with
  | [] => simp
  | x :: r => simp [List.isPrefixOf]; exact ⟨fun h => h.symm, fun h => h.symm⟩

theorem opens_pre (s : ByteArray) : Lib.hasPrefix s.data.toList [47, 42] = true ↔ Opens s := by
  rw [pre2]
  constructor
  · rintro ⟨h0, h1⟩
    obtain ⟨l1, _⟩ := List.getElem?_eq_some_iff.1 h1
    rw [len_of] at l1
    rw [at_of (k := 0) (by omega)] at h0
    rw [at_of l1] at h1
    exact ⟨by omega, by simpa using h0, by simpa using h1⟩
  · rintro ⟨h2, a, b⟩
    rw [at_of (k := 0) (by omega), at_of (k := 1) (by omega), a, b]
    exact ⟨rfl, rfl⟩
/-- does the text begin with two dashes? -/
def Dash (s : ByteArray) : Prop := ∃ h : 2 ≤ s.size, s[0] = 45 ∧ s[1] = 45
theorem dash_pre (s : ByteArray) : Lib.hasPrefix s.data.toList [45, 45] = true ↔ Dash s := by
  rw [pre2]
  constructor
  · rintro ⟨h0, h1⟩
    obtain ⟨l1, _⟩ := List.getElem?_eq_some_iff.1 h1
    rw [len_of] at l1
    rw [at_of (k := 0) (by omega)] at h0
    rw [at_of l1] at h1
    exact ⟨by omega, by simpa using h0, by simpa using h1⟩
  · rintro ⟨h2, a, b⟩
    rw [at_of (k := 0) (by omega), at_of (k := 1) (by omega), a, b]
    exact ⟨rfl, rfl⟩
theorem hash_pre (s : ByteArray) : Lib.hasPrefix s.data.toList [35] = true ↔ ∃ h : 1 ≤ s.size, s[0] = 35 := by
  rw [pre1]
  constructor
  · intro h0
    obtain ⟨l1, _⟩ := List.getElem?_eq_some_iff.1 h0
    rw [len_of] at l1
    rw [at_of l1] at h0
    exact ⟨by omega, by simpa using h0⟩
  · rintro ⟨h1, a⟩
    rw [at_of (k := 0) (by omega), a]

theorem not_dash (s : ByteArray) (h : ¬ Dash s) : ¬ 2 ≤ s.size ∨ (∃ h : 2 ≤ s.size, s[0] ≠ 45) ∨ (∃ h : 2 ≤ s.size, s[0] = 45 ∧ s[1] ≠ 45) := by
  by_cases h2 : 2 ≤ s.size
  · by_cases a : s[0] = 45
    · exact Or.inr (Or.inr ⟨h2, a, fun b => h ⟨h2, a, b⟩⟩)
    · exact Or.inr (Or.inl ⟨h2, a⟩)
  · exact Or.inl h2

theorem any_is (s : ByteArray) (o : Nat) (cr : Bool) (t : ByteArray) (r : Int) (w : World) (hs : s.size ≤ 524288) (ht : t = if cr then ⟨#[10, 13]⟩ else ⟨#[10]⟩) (h : Hid (lineEnd cr (s.data.toList.drop o) = r)) :
    Calls Tryd.prog 23 #[.string (s.extract o s.size), .string t] w fun e w' => e = .returned (.int .i64 r) ∧ Below w.heap.size w w' := by
  rw [← unhide h, ← ext_end]
  subst ht
  cases cr
  · exact (any_lf _ _).mono fun e w' ⟨h1, h2⟩ => ⟨h1, h2 ▸ Below.refl _ _⟩
  · exact any_crlf _ _ (by simp; omega)
end Go.Proofs.Qxb6606184aDoor
