import Derived.Test.Qxb6606184aDoorProg
import Derived.Test.Qxb6606184aDoorPlain
import Derived.WalkKit
import Derived.WalkSpells
namespace Go.Proofs.Qxb6606184aDoor
open Go.RowKit Plain

theorem hide {p : Prop} (h : p) : Hid p := h
theorem unhide {p : Prop} (h : Hid p) : p := h
theorem ret_int {k : IntKind} {a b : Int} (h : a = b) : Ending.returned (.int k a) = .returned (.int k b) := by rw [h]
theorem ret_bool {a b : Bool} (h : a = b) : Ending.returned (.bool a) = .returned (.bool b) := by rw [h]
theorem at_of {s : ByteArray} {k : Nat} (h : k < s.size) : s.data.toList[k]? = some s[k] := by
  rw [List.getElem?_eq_getElem (by simpa using h)]; rfl
theorem at_past {s : ByteArray} {k : Nat} (h : s.size ≤ k) : s.data.toList[k]? = none := by
  rw [List.getElem?_eq_none]; simpa using h
theorem len_of (s : ByteArray) : s.data.toList.length = s.size := by simp
theorem u8_yes {c d : UInt8} {n : Int} (h : c = d) (hn : (d.toNat : Int) = n) : ((c.toNat : Int) == n) = true ∧ ((c.toNat : Int) != n) = false := by
  subst h; subst hn; simp
theorem u8_no {c d : UInt8} {n : Int} (h : c ≠ d) (hn : (d.toNat : Int) = n) : ((c.toNat : Int) == n) = false ∧ ((c.toNat : Int) != n) = true := by
  have : c.toNat ≠ d.toNat := fun e => h (UInt8.toNat_inj.1 e)
  subst hn; simp; omega

/-- the four tests on a pair of bytes, decided -/
theorem pair_cases (c0 c1 : UInt8) :
    (c0 = 42 ∧ c1 = 47 ∧ ((c0.toNat : Int) == 42) = true ∧ ((c1.toNat : Int) == 47) = true) ∨
    (c0 = 47 ∧ c1 = 42 ∧ ((c0.toNat : Int) == 42) = false ∧ ((c0.toNat : Int) == 47) = true ∧ ((c1.toNat : Int) == 42) = true) ∨
    ((¬ (c0 = 42 ∧ c1 = 47) ∧ ¬ (c0 = 47 ∧ c1 = 42)) ∧
      ((((c0.toNat : Int) == 42) = true ∧ ((c1.toNat : Int) == 47) = false ∧ ((c0.toNat : Int) == 47) = false) ∨
       (((c0.toNat : Int) == 42) = false ∧ ((c0.toNat : Int) == 47) = true ∧ ((c1.toNat : Int) == 42) = false) ∨
       (((c0.toNat : Int) == 42) = false ∧ ((c0.toNat : Int) == 47) = false))) := by
  by_cases a : c0 = 42
  · by_cases b : c1 = 47
    · exact Or.inl ⟨a, b, (u8_yes a rfl).1, (u8_yes b rfl).1⟩
    · exact Or.inr (Or.inr ⟨⟨fun h => b h.2, fun h => by rw [a] at h; exact absurd h.1 (by decide)⟩, Or.inl ⟨(u8_yes a rfl).1, (u8_no b rfl).1, (u8_no (d := 47) (by rw [a]; decide) rfl).1⟩⟩)
  · by_cases e : c0 = 47
    · by_cases b : c1 = 42
      · exact Or.inr (Or.inl ⟨e, b, (u8_no a rfl).1, (u8_yes e rfl).1, (u8_yes b rfl).1⟩)
      · exact Or.inr (Or.inr ⟨⟨fun h => a h.1, fun h => b h.2⟩, Or.inr (Or.inl ⟨(u8_no a rfl).1, (u8_yes e rfl).1, (u8_no b rfl).1⟩)⟩)
    · exact Or.inr (Or.inr ⟨⟨fun h => a h.1, fun h => e h.1⟩, Or.inr (Or.inr ⟨(u8_no a rfl).1, (u8_no e rfl).1⟩)⟩)

theorem cl_of {s : ByteArray} {k : Nat} (h0 : k < s.size) (h : k + 1 < s.size) : ClAt s.data.toList k ↔ (s[k] = 42 ∧ s[k + 1] = 47) := by
  unfold ClAt; rw [at_of h0, at_of h]; simp
theorem op_of {s : ByteArray} {k : Nat} (h0 : k < s.size) (h : k + 1 < s.size) : OpAt s.data.toList k ↔ (s[k] = 47 ∧ s[k + 1] = 42) := by
  unfold OpAt; rw [at_of h0, at_of h]; simp

set_option maxHeartbeats 1600000 in
theorem depth_any (s : ByteArray) (st lim : Nat) (w : World) (hs : s.size ≤ 524288) (hst : st ≤ s.size) (hlm : lim ≤ 2) :
    Calls Tryd.prog 20 #[.string s, .int .i64 st, .int .i64 lim] w fun e w' => e = .returned (.int .i64 (scan s.data.toList lim 1 st)) ∧ w' = w := by
  go_enter Tryd.func20, Tryd.ntmps20
  go_wp2
  go_loop [7, 8] (fun dd j => ∃ d k : Nat, 1 ≤ d ∧ d ≤ k + 1 ∧ k ≤ s.size ∧ dd = .int .i64 d ∧ j = .int .i64 k ∧ scan s.data.toList lim 1 st = scan s.data.toList lim d k) (fun _ j => s.size - (intOf j).toNat)
  case atStart => exact ⟨1, st, by omega, by omega, hst, rfl, rfl, rfl⟩
  case round =>
    obtain ⟨d, k, hd1, hdk, hk, rfl, rfl, hf⟩ := hrel
    have HF := hide hf
    clear hf
    by_cases hkl : k + 1 < s.size
    · have hk0 : k < s.size := by omega
      rcases pair_cases s[k] s[k + 1] with ⟨a, b, p1, p2⟩ | ⟨a, b, p1, p2, p3⟩ | ⟨⟨a, b⟩, hp⟩
      · have hc := (cl_of hk0 hkl).2 ⟨a, b⟩
        clear a b
        by_cases hd : d = 1
        · subst hd
          have H2 := hide (scan_end (lim := lim) hc)
          clear hc
          go_wp2
          go_ret
          exact ⟨ret_int (by rw [unhide HF, unhide H2]; omega), rfl⟩
        · have H2 := hide (scan_close (lim := lim) hc hd)
          clear hc
          go_wp2
          go_round
          case rel => exact ⟨d - 1, k + 2, by omega, by omega, by omega, by go_num, by go_num, (unhide HF).trans (unhide H2)⟩
          case measure => simp [intOf]; omega
      · have ho := (op_of hk0 hkl).2 ⟨a, b⟩
        clear a b
        by_cases hl0 : lim = 0
        · have q0 : ((lim : Int) == 0) = true := beq_iff_eq.2 (by omega)
          have H2 := hide (scan_open (lim := lim) (d := d) ho (Or.inl hl0))
          clear ho hl0
          go_wp2
          go_round
          case rel => exact ⟨d + 1, k + 2, by omega, by omega, by omega, by go_num, by go_num, (unhide HF).trans (unhide H2)⟩
          case measure => simp [intOf]; omega
        · have q0 : ((lim : Int) == 0) = false := beq_eq_false_iff_ne.2 (by omega)
          by_cases hdl : d < lim
          · have H2 := hide (scan_open (lim := lim) (d := d) ho (Or.inr hdl))
            clear ho hl0
            go_wp2
            go_round
            case rel => exact ⟨d + 1, k + 2, by omega, by omega, by omega, by go_num, by go_num, (unhide HF).trans (unhide H2)⟩
            case measure => simp [intOf]; omega
          · have H2 := hide (scan_step (lim := lim) (d := d) (by rw [len_of]; exact hk0) (fun hc => cl_not_op hc ho) (fun h => by omega))
            clear ho hl0
            go_wp2
            go_round
            case rel => exact ⟨d, k + 1, by omega, by omega, by omega, by go_num, by go_num, (unhide HF).trans (unhide H2)⟩
            case measure => simp [intOf]; omega
      · have H2 := hide (scan_step (lim := lim) (d := d) (by rw [len_of]; exact hk0) (fun hc => a ((cl_of hk0 hkl).1 hc)) (fun h => b ((op_of hk0 hkl).1 h.1)))
        clear a b
        rcases hp with ⟨p1, p2, p3⟩ | ⟨p1, p2, p3⟩ | ⟨p1, p2⟩
        all_goals
          go_wp2
          go_round
          case rel => exact ⟨d, k + 1, by omega, by omega, by omega, by go_num, by go_num, (unhide HF).trans (unhide H2)⟩
          case measure => simp [intOf]; omega
    · have H2 := hide (scan_past (l := s.data.toList) (lim := lim) (d := d) (i := k) (by rw [len_of]; omega))
      go_wp2
      go_ret
      exact ⟨ret_int (by rw [unhide HF, unhide H2]), rfl⟩
end Go.Proofs.Qxb6606184aDoor
