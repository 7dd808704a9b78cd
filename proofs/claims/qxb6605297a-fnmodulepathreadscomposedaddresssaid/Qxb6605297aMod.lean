import Derived.Test.Qxb6605297aPlain
import Derived.Test.Qxb6605297aAny
import Derived.Deep.Cut
import Derived.Deep.CutRange
namespace Go.Proofs.Qxb6605297a
open Go.RowKit

theorem trim_is (s p : ByteArray) (r : List UInt8) (w : World) (h : Hid (Lib.trimPrefix s.data.toList p.data.toList = r)) :
    Calls Try.prog 11 #[.string s, .string p] w fun e w' => e = .returned (.string ⟨r.toArray⟩) ∧ w' = w := by
  rw [← unhide h]; exact Try.strings_TrimPrefix s p w

theorem trim_x (s p : ByteArray) (r : List UInt8) (w : World) (h : Hid (Lib.trimPrefix s.data.toList p.data.toList = r)) :
    Calls Try.prog 11 #[.string s, .string p] w fun e w' => (∃ t : ByteArray, e = .returned (.string t) ∧ t.data.toList = r) ∧ w' = w :=
  (trim_is s p r w h).mono fun _ _ h => ⟨⟨_, h.1, rfl⟩, h.2⟩

/-- a builder in block w.heap.size that holds these bytes; nothing older turned -/
def Bld (w : World) (l : List UInt8) (wr : World) : Prop := Lib.IsBuilderF 34 5 w.heap.size w.heap.size (Lib.byteCells l) wr ∧ Below w.heap.size w wr

theorem Bld.below {w : World} {l : List UInt8} {wr w' : World} (h : Bld w l wr) (hb : Below wr.heap.size wr w') : Bld w l w' := by
  refine ⟨?_, h.2.trans (hb.mono h.2.size)⟩
  have one : ∀ p, Lib.BuilderAtF 34 5 w.heap.size w.heap.size p (Lib.byteCells l) wr → Lib.BuilderAtF 34 5 w.heap.size w.heap.size p (Lib.byteCells l) w' := by
    intro p hp
    have hlt := hp.lt
    obtain ⟨h1, v, h2, h3, h4⟩ := hp
    exact ⟨h1, v, (hb.block _ hlt).trans h2, h3.kept (row := none) ⟨hb.os, hb.tape, hb.output, hb.size, fun k hk _ => hb.block k hk⟩ (Classical.em _), h4⟩
  exact h.1.elim (fun x => Or.inl (one _ x)) (fun x => Or.inr (one _ x))

theorem write_is (w0 : World) (l r : List UInt8) (s : ByteArray) (w : World) (hb : Hid (Bld w0 l w)) (hs : Hid (s.data.toList = r)) (hn : l.length + r.length ≤ 140737488355328) :
    Calls Try.prog 13 #[.pointer (some ⟨w0.heap.size, 0, none⟩), .string s] w fun e w' => (∃ n : Int, e = .returned (.tuple #[.int .i64 n, .nilIface])) ∧ Bld w0 (l ++ r) w' := by
  have h := unhide hb
  have hr := unhide hs
  refine (Try.Builder_WriteString_k w0.heap.size w0.heap.size (Lib.byteCells l) s w h.1 ?_ h.2.size).mono ?_
  · rw [← len_of, hr]; simp [Lib.byteCells]; omega
  · rintro e w' ⟨rfl, h1, h2, _⟩
    refine ⟨⟨_, rfl⟩, ?_, h.2.trans h2⟩
    rw [Lib.strCells_eq, hr] at h1
    have e : Lib.byteCells (l ++ r) = Lib.byteCells l ++ Lib.byteCells r := by simp [Lib.byteCells]
    rw [e]
    exact Or.inr h1

theorem byte_is (w0 : World) (l : List UInt8) (w : World) (hb : Hid (Bld w0 l w)) (hn : l.length + 1 ≤ 140737488355328) :
    Calls Try.prog 14 #[.pointer (some ⟨w0.heap.size, 0, none⟩), .int .u8 46] w fun e w' => e = .returned .nilIface ∧ Bld w0 (l ++ [46]) w' := by
  have h := unhide hb
  refine (Try.Builder_WriteByte_k w0.heap.size w0.heap.size (Lib.byteCells l) 46 w h.1 ?_ h.2.size).mono ?_
  · simp [Lib.byteCells]; omega
  · rintro e w' ⟨rfl, h1, h2, _⟩
    refine ⟨rfl, ?_, h.2.trans h2⟩
    have e : Lib.byteCells (l ++ [46]) = Lib.byteCells l ++ [.int .u8 46] := by simp [Lib.byteCells]
    rw [e]
    exact Or.inr h1

theorem string_is (w0 : World) (l : List UInt8) (w : World) (hb : Hid (Bld w0 l w)) :
    Calls Try.prog 17 #[.pointer (some ⟨w0.heap.size, 0, none⟩)] w fun e w' => e = .returned (.string ⟨l.toArray⟩) ∧ Below w0.heap.size w0 w' := by
  have h := unhide hb
  refine (Try.Builder_String_any_k w0.heap.size w0.heap.size l w h.1 h.2.size).mono ?_
  rintro e w' ⟨rfl, _, h2, _⟩
  exact ⟨rfl, h.2.trans h2⟩

def strSz : Value → Nat
  | .string t => t.size
  | _ => 0

/-- the loop's state -/
def MSt (w : World) (cs : List Step) (v : Value) (wr : World) : Prop :=
  ∃ (t : ByteArray) (done l : List Step), v = .string t ∧ t.data.toList = comp l ∧ done ++ l = cs ∧ Bld w (names done) wr ∧ t.size ≤ 4194304

theorem empty_of {t : ByteArray} (h : t.data.toList = []) : t = ⟨#[]⟩ := by
  obtain ⟨⟨l⟩⟩ := t
  simp at h
  rw [h]

set_option maxRecDepth 100000 in
set_option maxHeartbeats 3200000 in
theorem mod_is (s : ByteArray) (cs : List Step) (w : World) (hs : s.data.toList = comp cs) (hz : s.size ≤ 4194304) (hp : ∀ c ∈ cs, c.plain) (hn : (names cs).length ≤ 8388608) :
    Calls Try.prog 10 #[.string s] w fun e w' => e = .returned (.string ⟨(names cs).toArray⟩) ∧ Below w.heap.size w w' := by
  have HS := hide hs
  have HPl := hide hp
  clear hs hp
  go_enter Try.func10, Try.ntmps10
  go_wp2_with fail
  go_loopw [4] (fun v wr => MSt w cs v wr) (fun v _ => strSz v)
  case atStart => exact ⟨s, [], cs, rfl, unhide HS, rfl, ⟨Lib.IsBuilderF.of (Lib.fresh_isBuilder 34 5 w), (Below.refl _ _).alloc (Nat.le_refl _) _⟩, hz⟩
  case round =>
    obtain ⟨t, done, l, rfl, ht, hcs, hbld, hts⟩ := hrel
    have HB := hide hbld
    clear hbld
    cases l with
    | nil =>
      obtain rfl := empty_of ht
      clear ht
      obtain rfl : done = cs := by simpa using hcs
      clear hcs
      go_wp2_with fail
      refine (string_is w _ _ HB).mono ?_
      rintro e w1 ⟨rfl, hb⟩
      go_wp2_with fail
      go_ret
      exact ⟨rfl, hb⟩
    | cons c l =>
      have hne : t.toList.isEmpty = false := by rw [ByteArray.toList_eq, ht]; rfl
      have HPc := hide (unhide HPl c (by rw [← hcs]; simp))
      have HTr := hide (show Lib.trimPrefix t.data.toList [109, 111, 100, 117, 108, 101, 46] = c.nm ++ (c.keyText ++ cont l) by rw [ht, comp, Step.txt, List.append_assoc, List.append_assoc]; exact trim_mod _)
      have HSz := hide (show t.size = 7 + c.nm.length + c.keyText.length + (cont l).length by rw [← len_of, ht, comp, Step.txt]; simp [modl]; omega)
      have HNm := hide (show (names done).length + c.nm.length + 1 ≤ 8388608 by
        have : names cs = names done ++ (c.nm ++ [46]) ++ names l := by rw [← hcs]; simp [names]
        rw [this] at hn
        simp at hn
        omega)
      have HCS := hide hcs
      clear ht hcs
      go_wp2_with fail
      refine (trim_x t _ _ _ HTr).mono ?_
      rintro e w1 ⟨⟨t1, rfl, ht1⟩, rfl⟩
      have HT1 := hide ht1
      have ht1s : t1.size = c.nm.length + c.keyText.length + (cont l).length := by rw [← len_of, ht1]; simp; omega
      have HT1s := hide ht1s
      have hle1 : c.nm.length ≤ t1.size := by omega
      have hz1 : t1.size ≤ 4194304 := by have := unhide HSz; omega
      clear ht1 ht1s
      go_wp2_with fail
      refine (any_is t1 _ _ hz1 (hide rfl)).mono ?_
      rintro e w2 ⟨rfl, hb2⟩
      have HB2 := hide ((unhide HB).below hb2)
      clear hb2
      go_upto_if 14 with fail
      go_cut [5] from 7 to 32 (fun v wx => v = .int .i64 (c.nm.length : Nat) ∧ Bld w (names done) wx)
      case first =>
        rcases after_name c l with hm | ⟨x, u, hm, hx⟩
        · have hr := any_no c.nm (unhide HPc)
          have e1 : t1.data.toList = c.nm := by rw [unhide HT1, hm, List.append_nil]
          rw [← e1] at hr
          rw [hr]
          have he : t1.size = c.nm.length := by rw [← len_of, e1]
          have HE := hide he
          clear he hr e1
          go_wp2_with fail
          go_meet
          case rel => exact ⟨by rw [unhide HE], unhide HB2⟩
        · have hr := any_hit x u hx c.nm (unhide HPc)
          rw [← hm, ← unhide HT1] at hr
          rw [hr]
          clear hr hm hx
          have hd : decide ((c.nm.length : Int) < 0) = false := decide_eq_false (by omega)
          go_wp2_with fail
          go_meet
          case rel => exact ⟨rfl, unhide HB2⟩
      case rest =>
        clear HB HB2
        obtain ⟨rfl, hbld⟩ := hcut
        have HB := hide hbld
        clear hbld
        have hNm := unhide HNm
        go_wp2_with fail
        refine (write_is w (names done) c.nm _ _ HB (hide ?_) (by omega)).mono ?_
        · rw [cut_list, unhide HT1, List.drop_zero, List.take_left]
        rintro e w3 ⟨⟨n3, rfl⟩, hb3⟩
        have HB3 := hide hb3
        clear hb3 HB
        go_wp2_with fail
        refine (byte_is w (names done ++ c.nm) _ HB3 (by rw [List.length_append]; omega)).mono ?_
        rintro e w4 ⟨rfl, hb4⟩
        have HB4 := hide hb4
        clear hb4 HB3
        have HT2 := hide (show (t1.extract c.nm.length t1.size).data.toList = c.keyText ++ cont l by rw [cut_tail, unhide HT1, List.drop_left])
        have ht2s : (t1.extract c.nm.length t1.size).size = c.keyText.length + (cont l).length := by rw [← len_of, unhide HT2, List.length_append]
        have HT2s := hide ht2s
        clear ht2s
        have hts2 := unhide HT2s
        rcases key_cases c with hk | hk | hk
        · go_wp2_with fail
          refine (prefix_is _ _ false _ (hide ?_)).mono ?_
          · show Lib.hasPrefix _ [91] = false
            rw [unhide HT2, hk]
            exact cont_head l
          rintro e w5 ⟨rfl, rfl⟩
          go_wp2_with fail
          refine (trim_x _ _ (comp l) _ (hide ?_)).mono ?_
          · show Lib.trimPrefix _ [46] = _
            rw [unhide HT2, hk]
            exact trim_dot l
          rintro e w6 ⟨⟨t4, rfl, ht4⟩, rfl⟩
          have ht4s : t4.size ≤ (cont l).length := by rw [← len_of, ht4]; exact comp_le l
          have HT4 := hide ht4
          have HT4s := hide ht4s
          clear ht4 ht4s
          go_wp2_with fail
          go_roundw
          case rel =>
            have h1 := unhide HT4s
            have h2 := unhide HSz
            refine ⟨t4, done ++ [c], l, rfl, unhide HT4, by rw [← unhide HCS]; simp, ?_, by omega⟩
            rw [names_snoc, ← List.append_assoc]
            exact unhide HB4
          case measure =>
            have h1 := unhide HT4s
            have h2 := unhide HSz
            show t4.size < t.size
            omega
        · go_wp2_with fail
          refine (prefix_is _ _ true _ (hide ?_)).mono ?_
          · show Lib.hasPrefix _ [91] = true
            rw [unhide HT2, hk]
            rfl
          rintro e w5 ⟨rfl, rfl⟩
          have hkl : c.keyText.length = (esc c.key.data.toList).length + 4 := by rw [hk]; simp
          have HKL := hide hkl
          have hle2 : (esc c.key.data.toList).length + 4 ≤ (t1.extract c.nm.length t1.size).size := by omega
          clear hkl
          go_wp2_with fail
          refine (key_str _ c.key.data.toList (cont l) _ (by have := unhide HT1s; omega) ?_).mono ?_
          · rw [unhide HT2, hk]
            simp
          rintro e w5 ⟨rfl, rfl⟩
          clear hts2
          go_wp2_with fail
          refine (trim_x _ _ (comp l) _ (hide ?_)).mono ?_
          · show Lib.trimPrefix _ [46] = _
            rw [cut_list, unhide HT2, List.take_of_length_le (by rw [List.length_append]; have := unhide HT1s; omega), ← unhide HKL, List.drop_left]
            exact trim_dot l
          rintro e w6 ⟨⟨t4, rfl, ht4⟩, rfl⟩
          have ht4s : t4.size ≤ (cont l).length := by rw [← len_of, ht4]; exact comp_le l
          have HT4 := hide ht4
          have HT4s := hide ht4s
          clear ht4 ht4s
          go_wp2_with fail
          go_roundw
          case rel =>
            have h1 := unhide HT4s
            have h2 := unhide HSz
            refine ⟨t4, done ++ [c], l, rfl, unhide HT4, by rw [← unhide HCS]; simp, ?_, by omega⟩
            rw [names_snoc, ← List.append_assoc]
            exact unhide HB4
          case measure =>
            have h1 := unhide HT4s
            have h2 := unhide HSz
            show t4.size < t.size
            omega
        · go_wp2_with fail
          refine (prefix_is _ _ true _ (hide ?_)).mono ?_
          · show Lib.hasPrefix _ [91] = true
            rw [unhide HT2, hk]
            rfl
          rintro e w5 ⟨rfl, rfl⟩
          have hkl : c.keyText.length = (digs c.num).length + 2 := by rw [hk]; simp
          have HKL := hide hkl
          have hle2 : (digs c.num).length + 2 ≤ (t1.extract c.nm.length t1.size).size := by omega
          clear hkl
          go_wp2_with fail
          refine (key_num _ (digs c.num) (cont l) _ (by have := unhide HT1s; omega) ?_ (fun x hx => (digs_ne _ x hx).1) (fun x hx => (digs_ne _ x hx).2)).mono ?_
          · rw [unhide HT2, hk]
            simp
          rintro e w5 ⟨rfl, rfl⟩
          clear hts2
          go_wp2_with fail
          refine (trim_x _ _ (comp l) _ (hide ?_)).mono ?_
          · show Lib.trimPrefix _ [46] = _
            rw [cut_list, unhide HT2, List.take_of_length_le (by rw [List.length_append]; have := unhide HT1s; omega), ← unhide HKL, List.drop_left]
            exact trim_dot l
          rintro e w6 ⟨⟨t4, rfl, ht4⟩, rfl⟩
          have ht4s : t4.size ≤ (cont l).length := by rw [← len_of, ht4]; exact comp_le l
          have HT4 := hide ht4
          have HT4s := hide ht4s
          clear ht4 ht4s
          go_wp2_with fail
          go_roundw
          case rel =>
            have h1 := unhide HT4s
            have h2 := unhide HSz
            refine ⟨t4, done ++ [c], l, rfl, unhide HT4, by rw [← unhide HCS]; simp, ?_, by omega⟩
            rw [names_snoc, ← List.append_assoc]
            exact unhide HB4
          case measure =>
            have h1 := unhide HT4s
            have h2 := unhide HSz
            show t4.size < t.size
            omega
end Go.Proofs.Qxb6605297a
