import Derived.Test.Qxb6605297aKey
import Derived.Lib.IndexAny
namespace Go.Proofs.Qxb6605297a
open Go.RowKit

/-- one step of an address -/
structure Step where
  name : ByteArray
  key : ByteArray
  kind : Int
  num : Nat

def Step.nm (c : Step) : List UInt8 := c.name.data.toList
/-- the decimal digits -/
def digs (n : Nat) : List UInt8 := if n < 10 then [(48 + n).toUInt8] else digs (n / 10) ++ [(48 + n % 10).toUInt8]
termination_by n
decreasing_by omega

theorem dig_ne {n : Nat} (h : n < 10) : (48 + n).toUInt8 ≠ 93 ∧ (48 + n).toUInt8 ≠ 34 := by
  have : n = 0 ∨ n = 1 ∨ n = 2 ∨ n = 3 ∨ n = 4 ∨ n = 5 ∨ n = 6 ∨ n = 7 ∨ n = 8 ∨ n = 9 := by omega
  rcases this with rfl | rfl | rfl | rfl | rfl | rfl | rfl | rfl | rfl | rfl <;> decide
theorem digs_ne (n : Nat) : ∀ x ∈ digs n, x ≠ 93 ∧ x ≠ 34 := by
  induction n using Nat.strongRecOn with
  | ind n ih =>
    intro x hx
    rw [digs] at hx
    by_cases h : n < 10
    · rw [if_pos h, List.mem_singleton] at hx
      rw [hx]; exact dig_ne h
    · rw [if_neg h, List.mem_append, List.mem_singleton] at hx
      rcases hx with hx | hx
      · exact ih (n / 10) (by omega) x hx
      · rw [hx]; exact dig_ne (by omega)

def Step.keyText (c : Step) : List UInt8 :=
  if c.kind = 1 then 91 :: 34 :: (esc c.key.data.toList ++ [34, 93]) else if c.kind = 0 then [] else 91 :: (digs c.num ++ [93])
def modl : List UInt8 := [109, 111, 100, 117, 108, 101, 46]
def Step.txt (c : Step) : List UInt8 := modl ++ (c.nm ++ c.keyText)
/-- what follows a step -/
def cont (l : List Step) : List UInt8 := l.flatMap fun c => 46 :: c.txt
/-- the composed address -/
def comp : List Step → List UInt8
  | [] => []
  | c :: l => c.txt ++ cont l
/-- the names, each followed by a dot -/
def names (l : List Step) : List UInt8 := l.flatMap fun c => c.nm ++ [46]

theorem comp_snoc (l : List Step) (c : Step) : comp (l ++ [c]) = if l = [] then c.txt else comp l ++ 46 :: c.txt := by
  cases l with
  | nil => simp [comp, cont]
  | cons d l => simp [comp, cont]
theorem names_snoc (l : List Step) (c : Step) : names (l ++ [c]) = names l ++ (c.nm ++ [46]) := by simp [names]

/-- a name without dot and bracket -/
def Step.plain (c : Step) : Prop := ∀ x ∈ c.nm, x ≠ 46 ∧ x ≠ 91

theorem trim_mod (l : List UInt8) : Lib.trimPrefix (modl ++ l) modl = l := by
  unfold Lib.trimPrefix Lib.hasPrefix modl
  rfl
theorem trim_dot (l : List Step) : Lib.trimPrefix (cont l) [46] = comp l := by
  cases l with
  | nil => rfl
  | cons c l => simp [cont, comp, Lib.trimPrefix, Lib.hasPrefix]

theorem any_no : ∀ l : List UInt8, (∀ x ∈ l, x ≠ 46 ∧ x ≠ 91) → Lib.indexAny l [46, 91] = -1
  | [], _ => rfl
  | b :: l, h => by
    have hb := h b (by simp)
    have hc : ([46, 91] : List UInt8).contains b = false := by simp [hb.1, hb.2]
    rw [Lib.indexAny, hc, any_no l (fun x hx => h x (by simp [hx]))]
    rfl
theorem any_hit (x : UInt8) (t : List UInt8) (hx : x = 46 ∨ x = 91) : ∀ l : List UInt8, (∀ x ∈ l, x ≠ 46 ∧ x ≠ 91) → Lib.indexAny (l ++ x :: t) [46, 91] = l.length
  | [], _ => by
    have : ([46, 91] : List UInt8).contains x = true := by rcases hx with rfl | rfl <;> rfl
    simp only [List.nil_append, Lib.indexAny, this, if_true]
    rfl
  | b :: l, h => by
    have hb := h b (by simp)
    have hc : ([46, 91] : List UInt8).contains b = false := by simp [hb.1, hb.2]
    rw [List.cons_append, Lib.indexAny, hc, any_hit x t hx l (fun x hx => h x (by simp [hx]))]
    have hne : (((l.length : Int)) == -1) = false := beq_eq_false_iff_ne.2 (by omega)
    rw [hne]
    simp

/-- what follows a name -/
theorem after_name (c : Step) (l : List Step) : (c.keyText ++ cont l = []) ∨ ∃ x t, c.keyText ++ cont l = x :: t ∧ (x = 46 ∨ x = 91) := by
  unfold Step.keyText
  split
  · exact Or.inr ⟨_, _, rfl, Or.inr rfl⟩
  · split
    · cases l with
      | nil => exact Or.inl rfl
      | cons d l => exact Or.inr ⟨46, _, rfl, Or.inl rfl⟩
    · exact Or.inr ⟨_, _, rfl, Or.inr rfl⟩

/-- a step's key: none, or a bracket -/
theorem key_cases (c : Step) : (c.keyText = []) ∨ (c.keyText = 91 :: 34 :: (esc c.key.data.toList ++ [34, 93])) ∨ (c.keyText = 91 :: (digs c.num ++ [93])) := by
  unfold Step.keyText
  split
  · exact Or.inr (Or.inl rfl)
  · split
    · exact Or.inl rfl
    · exact Or.inr (Or.inr rfl)
theorem cont_head (l : List Step) : Lib.hasPrefix (cont l) [91] = false := by
  cases l <;> rfl
theorem comp_le (l : List Step) : (comp l).length ≤ (cont l).length := by
  cases l with
  | nil => exact Nat.le_refl _
  | cons c l => simp [comp, cont]
end Go.Proofs.Qxb6605297a
