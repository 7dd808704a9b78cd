import Derived.Test.Qxb6003688aEnds
import Derived.Deep.QuietTactic
import Derived.BigQuiet
import Derived.Deep.RegionWith
import Derived.Deep.Cut
import Derived.WalkSmall
namespace Go.Proofs.Qxb6003688a
open Go.RowKit Plain

/-- the counter's text -/
def Txt (C : Nat) (w : World) (a : Option Addr) (s : ByteArray) : Prop := (a = none ∧ s.size = 0) ∨ ∃ B, a = some ⟨B, 0, none⟩ ∧ B < C ∧ Src w B s

def brOf (cr : Bool) : Int := if cr then 1 else 0

/-- where the counter stands: behind w, at place o -/
def Std (w : World) (C : Nat) (a : Option Addr) (s : ByteArray) (cr : Bool) (off : Nat) (wx : World) : Prop :=
  ∃ o, o ≤ off ∧ sk s o = 0 ∧ Cel wx C a s.size (brOf cr) o (nL s cr o) (nC s cr o) ∧ Below C w wx

theorem bel_drewN {B : Nat} {a w : World} (h : Below B a w) (n : Nat) : Below B a (w.drewN n) := ⟨h.os, h.tape, h.output, h.size, h.block⟩

/-- the test: is a return held apart? -/
def Tst (s : ByteArray) (cr : Bool) (o off : Nat) (v : Value) : Prop := ∃ b : Bool, v = .bool b ∧ Hel s cr o off (if b then 1 else 0)

theorem sfx_is {s : ByteArray} {o off : Nat} (hf : off ≤ s.size) (ho : o ≤ off) : ((seg s o (off - o))[off - o - 1]? == some 13) = (decide (o < off) && (bt s (off - 1) == some 13)) := by
  by_cases h : o < off
  · rw [seg_at (by omega), show o + (off - o - 1) = off - 1 by omega]
    simp [h, bt]
  · obtain rfl : o = off := by omega
    simp [seg_zero]

/-- the counter's cells, and nothing below it turned -/
def Wd (w : World) (C : Nat) (a : Option Addr) (s : ByteArray) (cr : Bool) (o L D : Nat) (wx : World) : Prop := Cel wx C a s.size (brOf cr) o L D ∧ Below C w wx

/-- the slice that is still to pass: n places from o on -/
def Ps (C : Nat) (w : World) (s : ByteArray) (o n : Nat) (v : Value) : Prop := ∃ a c, v = .slice a n c ∧ Pas C w a n c (seg s o n)

theorem pas_some {C : Nat} {w : World} {s : ByteArray} {B o n c : Nat} (hs : s.size ≤ 65536) (hB : B < C) (hsrc : Src w B s) (hk : o + n ≤ s.size) (hc : n ≤ c) : Pas C w (some ⟨B, o, none⟩) n c (seg s o n) :=
  ⟨seg_len hk, hc, by omega, Or.inr ⟨B, o, rfl, Or.inl hB, src_seg hsrc o n⟩⟩
theorem pas_zero {C : Nat} {w : World} {s : ByteArray} {B o k c : Nat} : Pas C w (some ⟨B, k, none⟩) 0 c (seg s o 0) :=
  ⟨by rw [seg_zero]; rfl, Nat.zero_le _, by omega, Or.inr ⟨B, k, rfl, Or.inr rfl, by rw [seg_zero]; intro i x hx; simp at hx⟩⟩
theorem pas_nil {C : Nat} {w : World} {s : ByteArray} {o : Nat} : Pas C w none 0 0 (seg s o 0) :=
  ⟨by rw [seg_zero]; rfl, Nat.zero_le _, by omega, Or.inl ⟨rfl, rfl, rfl⟩⟩

theorem pas_take {C : Nat} {w : World} {s : ByteArray} {b p o n c k : Nat} (h : Pas C w (some ⟨b, p, none⟩) n c (seg s o n)) (hn : o + n ≤ s.size) (hk : k ≤ n) : Pas C w (some ⟨b, p, none⟩) k c (seg s o k) := by
  obtain ⟨h1, h2, h3, h4⟩ := h
  rcases h4 with ⟨h4, _⟩ | ⟨b', p', h4, h5, h6⟩
  · cases h4
  · simp only [Option.some.injEq, Addr.mk.injEq, and_true] at h4
    obtain ⟨rfl, rfl⟩ := h4
    refine ⟨seg_len (by omega), by omega, by omega, Or.inr ⟨b, p, rfl, by omega, fun i x hx => ?_⟩⟩
    obtain ⟨hlt, _⟩ := List.getElem?_eq_some_iff.1 hx
    rw [seg_len (by omega)] at hlt
    rw [seg_at hlt] at hx
    exact h6 i x (by rw [seg_at (by omega)]; exact hx)
theorem pas_drop {C : Nat} {w : World} {s : ByteArray} {b p o n c t : Nat} (h : Pas C w (some ⟨b, p, none⟩) n c (seg s o n)) (hn : o + n ≤ s.size) (hk : t ≤ n) : Pas C w (some ⟨b, p + t, none⟩) (n - t) (c - t) (seg s (o + t) (n - t)) := by
  obtain ⟨h1, h2, h3, h4⟩ := h
  rcases h4 with ⟨h4, _⟩ | ⟨b', p', h4, h5, h6⟩
  · cases h4
  · simp only [Option.some.injEq, Addr.mk.injEq, and_true] at h4
    obtain ⟨rfl, rfl⟩ := h4
    refine ⟨seg_len (by omega), by omega, by omega, Or.inr ⟨b, p + t, rfl, by omega, fun i x hx => ?_⟩⟩
    obtain ⟨hlt, _⟩ := List.getElem?_eq_some_iff.1 hx
    rw [seg_len (by omega)] at hlt
    rw [seg_at hlt] at hx
    have := h6 (t + i) x (by rw [seg_at (by omega), ← Nat.add_assoc]; exact hx)
    rw [Nat.add_assoc]; exact this

/-- what is left behind the test: the slice and the held character -/
def Hd (C : Nat) (w : World) (s : ByteArray) (cr : Bool) (o off : Nat) (v h : Value) : Prop := ∃ k : Nat, h = .int .i64 k ∧ Hel s cr o off k ∧ k ≤ off - o ∧ Ps C w s o (off - o - k) v

/-- the last line end and their number -/
def Ls (s : ByteArray) (cr : Bool) (o n : Nat) (e r : Value) : Prop := ∃ (x : Nat) (y : Int), e = .int .i64 x ∧ r = .int .i64 y ∧ Las s cr o n x y

theorem wrap_sum {D R h X : Nat} (e : D + R + h = X) (hX : X ≤ 131072) : IntKind.i64.wrap ((D : Int) + IntKind.i64.wrap ((R : Int) + (h : Int))) = (X : Int) := by
  rw [IntWalk.i64_in ((R : Int) + (h : Int)) ⟨by omega, by omega⟩, IntWalk.i64_in _ ⟨by omega, by omega⟩]
  omega

theorem hel_bound {s : ByteArray} {cr : Bool} {o off h k : Nat} (hk : off - o - h = k) (ho : o ≤ off) (hh : Hel s cr o off h) : cr = true → k = 0 ∨ ¬ (bt s (o + k - 1) = some 13 ∧ bt s (o + k) = some 10) := by
  intro hcr
  by_cases hk0 : k = 0
  · exact Or.inl hk0
  · refine Or.inr fun ⟨h1, h2⟩ => ?_
    rcases hh with ⟨rfl, hn⟩ | ⟨rfl, _, _, h3, _⟩
    · rw [show o + k = off by omega] at h1 h2
      exact hn hcr (by omega) h1 h2
    · rw [show o + k = off - 1 by omega, h3] at h2
      exact absurd h2 (by decide)

/-- what is left behind the line ends -/
def Fin (C : Nat) (w : World) (a : Option Addr) (s : ByteArray) (cr : Bool) (o k : Nat) (v : Value) (wx : World) : Prop :=
  ∃ (x : Option Addr) (n c D : Nat) (bs : List UInt8), v = .slice x n c ∧ Pas C w x n c bs ∧ Cel wx C a s.size (brOf cr) o (nL s cr (o + k)) D ∧ D + Lib.runeCount ⟨bs.toArray⟩ = nC s cr (o + k) ∧ Below C w wx

set_option maxRecDepth 100000 in
set_option maxHeartbeats 3200000 in
theorem at_is (C : Nat) (a : Option Addr) (s : ByteArray) (cr : Bool) (o off : Nat) (m : Int) (w : World) (hs : s.size ≤ 65536) (hf : off ≤ s.size) (hfs : sk s off = 0) (hos : sk s o = 0) (hC0 : 0 < C) (hm : Max w m) (ht : Txt C w a s)
    (hc : Cel w C a s.size (brOf cr) o (nL s cr o) (nC s cr o)) :
    Calls Try.prog 12 #[.pointer (some ⟨C, 0, none⟩), .int .i64 off] w fun e w' => e = .returned (.tuple #[.int .i64 ((nL s cr off : Nat) + 1), .int .i64 ((nC s cr off : Nat) + 1)]) ∧ Below C w w' ∧
      Cel w' C a s.size (brOf cr) off (nL s cr off) (nC s cr off) := by
  have HM := hide hm
  have HT := hide ht
  have HC := hide hc
  have HF := hide hfs
  have HO := hide hos
  have c2 := hc.c2
  have f2 := hc.f2
  have c3 := hc.c3
  have f3 := hc.f3
  have c4 := hc.c4
  have f4 := hc.f4
  have hCs := hc.hC
  clear hm ht hc hfs hos
  go_enter Try.func12, Try.ntmps12
  go_upto_if 15 with fail
  go_cut [] from 10 (fun wx => Std w C a s cr off wx)
  case first =>
    by_cases hlt : off < o
    · have hd : decide (off < o) = true := decide_eq_true hlt
      go_wp2_with fail
      go_meet
      case rel =>
        refine ⟨0, Nat.zero_le _, rfl, ?_, ?_⟩
        · exact (((unhide HC).set2 0).set3 0).set4 0
        · exact ((((Below.refl C w).setCell (Nat.le_refl _) _).setCell (Nat.le_refl _) _).setCell (Nat.le_refl _) _)
    · have hd : decide (off < o) = false := decide_eq_false hlt
      go_wp2_with fail
      go_meet
      case rel => exact ⟨o, by omega, unhide HO, unhide HC, Below.refl _ _⟩
  case rest =>
    clear c2 f2 c3 f3 c4 f4 hCs HC HO
    obtain ⟨o1, ho1, hos, hcel, hbel⟩ := hcut
    have HO := hide hos
    have HC := hide hcel
    have HB := hide hbel
    have c0 := hcel.c0
    have c2 := hcel.c2
    clear hos hcel hbel
    go_upto_region 3 with fail
    go_cut [6] from 10 (fun v wx => Ps C w s o1 (off - o1) v ∧ Wd w C a s cr o1 (nL s cr o1) (nC s cr o1) wx)
    case first =>
      rcases unhide HT with ⟨rfl, hz⟩ | ⟨B, rfl, hB, hsrc⟩
      · obtain rfl : off = 0 := by omega
        obtain rfl : o1 = 0 := by omega
        rw [hz] at c0
        go_quiet (fail)
        go_wp2_with fail
        go_meet
        case rel => exact ⟨⟨none, 0, rfl, pas_nil⟩, (unhide HC).drewN _, bel_drewN (unhide HB) _⟩
      · have HS := hide hsrc
        clear hsrc
        by_cases hlt : o1 < s.size
        · go_quiet (fail)
          go_wp2_with fail
          go_meet
          case rel => exact ⟨⟨_, _, rfl, pas_some hs hB (unhide HS) (by omega) (by omega)⟩, (unhide HC).drewN _, bel_drewN (unhide HB) _⟩
        · obtain rfl : off = s.size := by omega
          obtain rfl : o1 = s.size := by omega
          go_quiet (fail)
          go_wp2_with fail
          go_meet
          case rel => exact ⟨by rw [Nat.sub_self]; exact ⟨_, _, rfl, pas_zero⟩, (unhide HC).drewN _, bel_drewN (unhide HB) _⟩
    case rest =>
      clear HC HB c0 c2
      obtain ⟨⟨a1, k1, rfl, hpas⟩, hcel, hbel⟩ := hcut
      have HP := hide hpas
      have HC := hide hcel
      have HB := hide hbel
      have c0 := hcel.c0
      have c1 := hcel.c1
      have hCs := hcel.hC
      clear hpas hcel hbel
      go_upto_region 5 with fail
      go_cut [63] from 10 (fun v wx => Tst s cr o1 off v ∧ Wd w C a s cr o1 (nL s cr o1) (nC s cr o1) wx)
      case first =>
        cases cr with
        | false =>
          have hbr : ((brOf false : Int) == 1) = false := rfl
          go_wp2_with fail
          go_meet
          case rel => exact ⟨⟨false, rfl, Or.inl ⟨rfl, fun h => by cases h⟩⟩, unhide HC, unhide HB⟩
        | true =>
          have hbr : ((brOf true : Int) == 1) = true := rfl
          have hsf := sfx_is (s := s) hf ho1
          by_cases h1 : o1 < off ∧ bt s (off - 1) = some 13
          · have HSF := hide (show ((seg s o1 (off - o1))[off - o1 - 1]? == some 13) = true by rw [hsf, h1.2, decide_eq_true h1.1]; rfl)
            have HE := hide h1
            clear hsf h1
            rcases unhide HT with ⟨rfl, hz⟩ | ⟨B, rfl, hB, hsrc⟩
            · have := (unhide HE).1
              omega
            · have HS := hide hsrc
              clear hsrc
              have hBs : B < wc.heap.size := by omega
              by_cases hlt : off < s.size
              · have hdl : decide (off < s.size) = true := decide_eq_true hlt
                have hcb : wc.cell? ⟨B, off, none⟩ = some (.int .u8 ((s[off]'hlt).toNat : Int)) := ((unhide HB).cell (p := ⟨B, off, none⟩) hB).trans (unhide HS off hlt)
                by_cases h10 : s[off]'hlt = 10
                · have hu := u8_yes (n := 10) h10 rfl
                  go_wp2_with fail
                  refine (suffix_p C _ _ _ _ _ _ true w _ HP (by (repeat (first | exact unhide HB | refine bel_drewN ?_ _ | refine Below.drew ?_ | refine Below.alloc ?_ ?_ _ | exact Nat.le_of_lt hCs | (simp; omega)))) (by exact cell_new rfl rfl) HSF).mono ?_
                  rintro e w1 ⟨rfl, rfl⟩
                  go_wp2_with fail
                  go_meet
                  case rel => exact ⟨⟨true, rfl, Or.inr ⟨rfl, rfl, (unhide HE).1, (unhide HE).2, by unfold bt; rw [at_of hlt, h10]⟩⟩, (unhide HC).alloc _, by (repeat (first | exact unhide HB | refine bel_drewN ?_ _ | refine Below.drew ?_ | refine Below.alloc ?_ ?_ _ | exact Nat.le_of_lt hCs | (simp; omega)))⟩
                · have hu := u8_no (n := 10) h10 rfl
                  go_wp2_with fail
                  refine (suffix_p C _ _ _ _ _ _ true w _ HP (by (repeat (first | exact unhide HB | refine bel_drewN ?_ _ | refine Below.drew ?_ | refine Below.alloc ?_ ?_ _ | exact Nat.le_of_lt hCs | (simp; omega)))) (by exact cell_new rfl rfl) HSF).mono ?_
                  rintro e w1 ⟨rfl, rfl⟩
                  go_wp2_with fail
                  go_meet
                  case rel => exact ⟨⟨false, rfl, Or.inl ⟨rfl, fun _ _ _ h => by unfold bt at h; rw [at_of hlt] at h; injection h with h; exact h10 h⟩⟩, (unhide HC).alloc _, by (repeat (first | exact unhide HB | refine bel_drewN ?_ _ | refine Below.drew ?_ | refine Below.alloc ?_ ?_ _ | exact Nat.le_of_lt hCs | (simp; omega)))⟩
              · have hdl : decide (off < s.size) = false := decide_eq_false hlt
                go_wp2_with fail
                refine (suffix_p C _ _ _ _ _ _ true w _ HP (by (repeat (first | exact unhide HB | refine bel_drewN ?_ _ | refine Below.drew ?_ | refine Below.alloc ?_ ?_ _ | exact Nat.le_of_lt hCs | (simp; omega)))) (by exact cell_new rfl rfl) HSF).mono ?_
                rintro e w1 ⟨rfl, rfl⟩
                go_wp2_with fail
                go_meet
                case rel => exact ⟨⟨false, rfl, Or.inl ⟨rfl, fun _ _ _ h => by unfold bt at h; rw [at_past (by omega)] at h; cases h⟩⟩, (unhide HC).alloc _, by (repeat (first | exact unhide HB | refine bel_drewN ?_ _ | refine Below.drew ?_ | refine Below.alloc ?_ ?_ _ | exact Nat.le_of_lt hCs | (simp; omega)))⟩
          · have HSF := hide (show ((seg s o1 (off - o1))[off - o1 - 1]? == some 13) = false by
              rw [hsf, Bool.and_eq_false_iff]
              by_cases h2 : o1 < off
              · exact Or.inr (beq_eq_false_iff_ne.2 fun h3 => h1 ⟨h2, h3⟩)
              · exact Or.inl (decide_eq_false h2))
            have HE := hide h1
            clear hsf h1
            go_wp2_with fail
            refine (suffix_p C _ _ _ _ _ _ false w _ HP (by (repeat (first | exact unhide HB | refine bel_drewN ?_ _ | refine Below.drew ?_ | refine Below.alloc ?_ ?_ _ | exact Nat.le_of_lt hCs | (simp; omega)))) (by exact cell_new rfl rfl) HSF).mono ?_
            rintro e w1 ⟨rfl, rfl⟩
            go_wp2_with fail
            go_meet
            case rel => exact ⟨⟨false, rfl, Or.inl ⟨rfl, fun _ h2 h3 => absurd ⟨h2, h3⟩ (unhide HE)⟩⟩, (unhide HC).alloc _, by (repeat (first | exact unhide HB | refine bel_drewN ?_ _ | refine Below.drew ?_ | refine Below.alloc ?_ ?_ _ | exact Nat.le_of_lt hCs | (simp; omega)))⟩
      case rest =>
        clear HC HB c0 c1 hCs
        obtain ⟨⟨tb, rfl, hhel⟩, hcel, hbel⟩ := hcut
        have HC := hide hcel
        have HB := hide hbel
        have HH := hide hhel
        have hCs := hcel.hC
        clear hhel hcel hbel
        go_upto_if 63 with fail
        go_cut [6, 7] from 10 (fun v h wx => Hd C w s cr o1 off v h ∧ Wd w C a s cr o1 (nL s cr o1) (nC s cr o1) wx)
        case first =>
          cases tb with
          | false =>
            go_wp2_with fail
            go_meet
            case rel => exact ⟨⟨0, rfl, unhide HH, Nat.zero_le _, ⟨_, _, rfl, unhide HP⟩⟩, unhide HC, unhide HB⟩
          | true =>
            have hlt : o1 < off := by
              rcases unhide HH with ⟨h, _⟩ | ⟨_, _, h, _⟩
              · cases h
              · exact h
            have hk1 := (unhide HP).2.1
            have hcase : ∃ b p, a1 = some ⟨b, p, none⟩ := by
              rcases (unhide HP).2.2.2 with ⟨_, h, _⟩ | ⟨b, p, h, _⟩
              · omega
              · exact ⟨b, p, h⟩
            obtain ⟨b, p, rfl⟩ := hcase
            go_wp2_with fail
            go_meet
            case rel => exact ⟨⟨1, rfl, by simpa using unhide HH, by omega, ⟨_, _, rfl, pas_take (unhide HP) (by omega) (by omega)⟩⟩, unhide HC, unhide HB⟩
        case rest =>
          clear HC HB hCs HP HH
          obtain ⟨⟨hd, rfl, hhel, hdle, a2, k2, rfl, hpas⟩, hcel, hbel⟩ := hcut
          have HP := hide hpas
          have HC := hide hcel
          have HB := hide hbel
          have HH := hide hhel
          have hCs := hcel.hC
          have c1 := hcel.c1
          have hd1 : hd ≤ 1 := by rcases hhel with ⟨rfl, _⟩ | ⟨rfl, _⟩ <;> omega
          have hlen := hpas.1
          have y10 : (seg s o1 (off - o1 - hd)).count 10 ≤ 65536 := Nat.le_trans List.count_le_length (by omega)
          have y13 : (seg s o1 (off - o1 - hd)).count 13 ≤ 65536 := Nat.le_trans List.count_le_length (by omega)
          have y2 := cnt2_le (seg s o1 (off - o1 - hd))
          clear hpas hcel hbel hhel hlen
          generalize hk : off - o1 - hd = k at *
          obtain ⟨n10, h10⟩ : ∃ n : Nat, ((seg s o1 k).count 10 : Int) = n := ⟨_, rfl⟩
          obtain ⟨n13, h13⟩ : ∃ n : Nat, ((seg s o1 k).count 13 : Int) = n := ⟨_, rfl⟩
          obtain ⟨n2, h2⟩ : ∃ n : Nat, (cnt2 (seg s o1 k) : Int) = n := ⟨_, rfl⟩
          obtain ⟨r1, hr1⟩ := lastAt_ex 10 (seg s o1 k)
          obtain ⟨r2, hr2⟩ := lastAt_ex 13 (seg s o1 k)
          have x1 := hr1.bd
          have x2 := hr2.bd
          rw [seg_len (by omega)] at x1 x2
          have b10 : n10 ≤ 65536 := by omega
          have b13 : n13 ≤ 65536 := by omega
          have b2 : n2 ≤ n13 := by omega
          have H10 := hide h10
          have H13 := hide h13
          have H2 := hide h2
          have L10 := hide hr1
          have L13 := hide hr2
          clear h10 h13 h2 hr1 hr2 y10 y13 y2
          go_wp2_with fail
          refine (count_p C _ _ _ _ _ _ 10 _ n10 w _ rfl HP (by (repeat (first | exact unhide HB | refine bel_drewN ?_ _ | refine Below.drew ?_ | refine Below.alloc ?_ ?_ _ | exact Nat.le_of_lt hCs | (simp; omega)))) (by exact cell_new rfl rfl) H10).mono ?_
          rintro e w1 ⟨rfl, rfl⟩
          go_wp2_with fail
          refine (last_p C _ _ _ _ 10 _ r1 w _ rfl HP (by (repeat (first | exact unhide HB | refine bel_drewN ?_ _ | refine Below.drew ?_ | refine Below.alloc ?_ ?_ _ | exact Nat.le_of_lt hCs | (simp; omega)))) L10).mono ?_
          rintro e w1 ⟨rfl, rfl⟩
          have c1' := ((unhide HC).alloc (.cells #[.int .u8 10] 5)).c1
          go_upto_if 78 with fail
          go_cut [8, 9] from 10 (fun e r wx => Ls s cr o1 k e r ∧ Wd w C a s cr o1 (nL s cr o1) (nC s cr o1) wx)
          case first =>
            cases cr with
            | false =>
              have hbr : ((brOf false : Int) == 1) = false := rfl
              go_wp2_with fail
              go_meet
              case rel => exact ⟨⟨n10, r1, rfl, rfl, las_lf (by omega) (unhide L10) (unhide H10)⟩, (unhide HC).alloc _, by (repeat (first | exact unhide HB | refine bel_drewN ?_ _ | refine Below.drew ?_ | refine Below.alloc ?_ ?_ _ | exact Nat.le_of_lt hCs | (simp; omega)))⟩
            | true =>
              have hbr : ((brOf true : Int) == 1) = true := rfl
              go_wp2_with fail
              refine (count_p C _ _ _ _ _ _ 13 _ n13 w _ rfl HP (by (repeat (first | exact unhide HB | refine bel_drewN ?_ _ | refine Below.drew ?_ | refine Below.alloc ?_ ?_ _ | exact Nat.le_of_lt hCs | (simp; omega)))) (by exact cell_new (by simp) rfl) H13).mono ?_
              rintro e w1 ⟨rfl, rfl⟩
              have HC2 := hide (((unhide HC).alloc (.cells #[.int .u8 10] 5)).alloc (.cells #[.int .u8 13] 5))
              have HB2 := hide (show Below C w ((wc.alloc (.cells #[.int .u8 10] 5)).alloc (.cells #[.int .u8 13] 5)) by (repeat (first | exact unhide HB | refine bel_drewN ?_ _ | refine Below.drew ?_ | refine Below.alloc ?_ ?_ _ | exact Nat.le_of_lt hCs | (simp; omega))))
              clear c1' c1 HC HB hCs
              generalize (wc.alloc (.cells #[.int .u8 10] 5)).alloc (.cells #[.int .u8 13] 5) = w2 at *
              have HC := HC2
              have HB := HB2
              clear HC2 HB2
              have hCs := (unhide HC).hC
              have kc := fun (w : World) (C : Array Value) (n c : Nat) => Lib.run_convert_bytes_const (P := Try.prog) w 22 5 C n c Try.underlying22 Try.underlying5
              go_wp2_with fail
              refine (count_q C _ _ _ _ _ _ m n2 w _ hC0 HM HP (by (repeat (first | exact unhide HB | refine bel_drewN ?_ _ | refine Below.drew ?_ | refine Below.alloc ?_ ?_ _ | exact Nat.le_of_lt hCs | (simp; omega)))) (by exact cell_new rfl rfl) (by exact cell_new rfl rfl) H2).mono ?_
              rintro e w1 ⟨rfl, q, rfl⟩
              go_wp2_with fail
              refine (last_p C _ _ _ _ 13 _ r2 w _ rfl HP (by (repeat (first | exact unhide HB | refine bel_drewN ?_ _ | refine Below.drew ?_ | refine Below.alloc ?_ ?_ _ | exact Nat.le_of_lt hCs | (simp; omega)))) L13).mono ?_
              rintro e w1 ⟨rfl, rfl⟩
              go_wp2_with fail
              go_meet
              case rel => exact ⟨⟨n10 + (n13 - n2), max r1 r2, congrArg (Value.int .i64) (by omega), rfl, las_cr (by omega) (hel_bound hk ho1 (unhide HH) rfl) (unhide L10) (unhide L13) (unhide H10) (unhide H13) (unhide H2)⟩, ((unhide HC).alloc _).drewN _, by (repeat (first | exact unhide HB | refine bel_drewN ?_ _ | refine Below.drew ?_ | refine Below.alloc ?_ ?_ _ | exact Nat.le_of_lt hCs | (simp; omega)))⟩
          case rest =>
            clear HC HB hCs c1 c1' H10 H13 H2 L10 L13 x1 x2 b10 b13 b2
            obtain ⟨⟨x, y, rfl, rfl, hlas⟩, hcel, hbel⟩ := hcut
            have HC := hide hcel
            have HB := hide hbel
            have HL := hide hlas
            have hCs := hcel.hC
            have c3 := hcel.c3
            have c4 := hcel.c4
            have f3 := hcel.f3
            have f4 := hcel.f4
            have hL := nL_le s cr o1
            have hL2 := nL_le s cr (o1 + k)
            clear hcel hbel hlas
            go_upto_if 94 with fail
            go_cut [6] from 10 (fun v wx => Fin C w a s cr o1 k v wx)
            case first =>
              rcases unhide HL with ⟨rfl, hno⟩ | ⟨t, rfl, htk, hen, hno, hsum⟩
              · have HN := hide hno
                clear hno
                go_wp2_with fail
                go_meet
                case rel =>
                  obtain ⟨e1, e2⟩ := fin_none (by omega) (unhide HO) (by have := hel_sk (unhide HF) (unhide HH); rw [show off - hd = o1 + k by omega] at this; exact this) (unhide HN)
                  exact ⟨_, _, _, _, _, rfl, unhide HP, by rw [e1]; exact unhide HC, e2.symm, unhide HB⟩
              · have HN := hide hno
                have HE := hide hen
                clear hno hen
                have hk2 := (unhide HP).2.1
                have hdt : decide ((0 : Int) ≤ (t : Int)) = true := decide_eq_true (by omega)
                have hcase : ∃ b p, a2 = some ⟨b, p, none⟩ := by
                  rcases (unhide HP).2.2.2 with ⟨_, h, _⟩ | ⟨b, p, h, _⟩
                  · omega
                  · exact ⟨b, p, h⟩
                obtain ⟨b, p, rfl⟩ := hcase
                by_cases htk2 : t + 1 < k2
                · go_wp2_with fail
                  go_meet
                  case rel =>
                    rw [show ((nL s cr o1 : Nat) : Int) + (x : Int) = ((nL s cr (o1 + k) : Nat) : Int) by omega]
                    exact ⟨_, _, _, 0, _, rfl, pas_drop (unhide HP) (by omega) (by omega), ((unhide HC).set3 _).set4 0, by rw [fin_some (by omega) (by have := hel_sk (unhide HF) (unhide HH); rw [show off - hd = o1 + k by omega] at this; exact this) htk (unhide HE) (unhide HN)]; omega, ((unhide HB).setCell (Nat.le_refl _) _).setCell (Nat.le_refl _) _⟩
                · go_wp2_with fail
                  go_meet
                  case rel =>
                    rw [show ((nL s cr o1 : Nat) : Int) + (x : Int) = ((nL s cr (o1 + k) : Nat) : Int) by omega]
                    have hz : k - (t + 1) = 0 := by omega
                    exact ⟨_, _, _, 0, seg s (o1 + (t + 1)) (k - (t + 1)), rfl, by rw [hz]; exact pas_zero, ((unhide HC).set3 _).set4 0, by rw [fin_some (by omega) (by have := hel_sk (unhide HF) (unhide HH); rw [show off - hd = o1 + k by omega] at this; exact this) htk (unhide HE) (unhide HN)]; omega, ((unhide HB).setCell (Nat.le_refl _) _).setCell (Nat.le_refl _) _⟩
            case rest =>
              clear HC HB hCs c3 c4 f3 f4 HL HP
              obtain ⟨a3, n3, k3, D, bs, rfl, hpas, hcel, hsum, hbel⟩ := hcut
              have HC := hide hcel
              have HB := hide hbel
              have HP := hide hpas
              have hCs := hcel.hC
              have c4 := hcel.c4
              have f4 := hcel.f4
              have hD := nC_le s cr (o1 + k)
              obtain ⟨R, hR⟩ : ∃ n : Nat, (Lib.runeCount ⟨bs.toArray⟩ : Int) = n := ⟨_, rfl⟩
              have hDR : D + R = nC s cr (o1 + k) := by omega
              have HR := hide hR
              have hfin := hel_end (unhide HF) (unhide HH)
              rw [show off - hd = o1 + k by omega] at hfin
              have HFN := hide hfin
              clear hcel hbel hpas hsum hR hfin
              go_upto_region 16 with fail
              go_cut [] from 10 (fun wx => Wd w C a s cr o1 (nL s cr off) (nC s cr off) wx)
              case first =>
                go_region_with (go_at_call 25; refine (rune_p C _ _ _ _ R w _ HP ?_ HR).mono ?_; ((repeat (first | exact unhide HB | refine bel_drewN ?_ _ | refine Below.drew ?_ | refine Below.alloc ?_ ?_ _ | exact Nat.le_of_lt hCs | (simp; omega)))); rintro e w1 ⟨rfl, hbw⟩; have HCw := hide ((unhide HC).drew.below hbw hCs); have HBw := hide ((unhide HB).drew.trans (hbw.mono (Nat.le_of_lt hCs))); have c4w := (unhide HCw).c4; have f4w := (unhide HCw).f4; clear hbw)
                all_goals (go_wp2_with fail)
                all_goals (go_meet)
                all_goals
                  rw [wrap_sum (show D + R + hd = nC s cr off by rw [(unhide HFN).2, hDR]) (by have := nC_le s cr off; omega), (unhide HFN).1]
                  exact ⟨(unhide HCw).set4 _, (unhide HBw).setCell (Nat.le_refl _) _⟩
              case rest =>
                clear HC HB hCs c4 f4 hDR
                obtain ⟨hcel, hbel⟩ := hcut
                have HC := hide hcel
                have HB := hide hbel
                have hCs := hcel.hC
                have c2 := hcel.c2
                have f2 := hcel.f2
                have c3 := hcel.c3
                have c4 := hcel.c4
                have hD2 := nC_le s cr off
                have hL3 := nL_le s cr off
                clear hcel hbel
                go_wp2_with fail
                go_quiet (fail)
                go_wp2_with fail
                go_ret2
                exact ⟨rfl, bel_drewN ((unhide HB).setCell (Nat.le_refl _) _) _, ((unhide HC).set2 off).drewN _⟩
end Go.Proofs.Qxb6003688a
