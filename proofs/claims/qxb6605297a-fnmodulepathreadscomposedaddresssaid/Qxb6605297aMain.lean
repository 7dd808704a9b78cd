import Derived.Test.Qxb6605297aMainA
namespace Go.Proofs.Qxb6605297a
open Go.RowKit
set_option linter.unusedVariables false
set_option linter.unusedSimpArgs false

set_option maxRecDepth 100000 in
set_option maxHeartbeats 3200000 in
theorem main_some (b o cap : Nat) (cs : List Step) (w : World) (hl : cs.length ≤ 9223372036854775807) (h0 : 0 < cs.length) (hc : Cal w b o cs) (hb : b < w.heap.size) (hk : ∀ c ∈ cs, 0 ≤ c.kind ∧ c.kind ≤ 255 ∧ c.num < 18446744073709551616) :
    Calls Try.prog 4 #[.slice (some ⟨b, o, none⟩) cs.length cap] w fun e w' => e = .returned (.bool true) ∧ Below w.heap.size w w' := by
  have HC := hide hc
  have HK := hide hk
  clear hc hk
  by_cases hbig : 1048576 < 40 * cs.length
  · go_enter Try.func4, Try.ntmps4
    go_wp2_with fail
    refine (bytes_is b o cap cs w hl (unhide HC)).mono ?_
    rintro e w1 ⟨⟨r, rfl⟩, rfl⟩
    cases r with
    | false =>
      go_wp2_with fail
      go_ret
      exact ⟨rfl, Below.refl _ _⟩
    | true =>
      by_cases hb2 : 1048576 < cs.length
      · go_wp2_with fail
        go_ret
        exact ⟨rfl, Below.refl _ _⟩
      · go_wp2_with fail
        go_ret
        exact ⟨rfl, Below.refl _ _⟩
  go_enter Try.func4, Try.ntmps4
  go_wp2_with fail
  refine (bytes_is b o cap cs w hl (unhide HC)).mono ?_
  rintro e w1 ⟨⟨r, rfl⟩, rfl⟩
  cases r with
  | false =>
    go_wp2_with fail
    go_ret
    exact ⟨rfl, Below.refl _ _⟩
  | true =>
    go_upto_block 0 with fail
    go_cut [3] from 15 (fun t wx => t = .int .i64 ((40 * cs.length + wt cs : Nat) : Int) ∧ 40 * cs.length + wt cs ≤ 1048576 ∧ Below w1.heap.size w1 wx)
    case first =>
      go_wp2_with fail
      go_loopw [3, 4] (fun t i wr => SumSt w1 cs t i wr) (fun _ i _ => cs.length - (intOf i).toNat)
      case atStart => exact ⟨0, rfl, Nat.zero_le _, by simp [wt], by simp [wt]; omega, Below.refl _ _⟩
      case round =>
        obtain ⟨k, rfl, hk, rfl, ht, hbel⟩ := hrel
        have HB := hide hbel
        clear hbel
        by_cases hlt : k < cs.length
        · obtain ⟨c0, c1, _, _⟩ := unhide HC k hlt
          have d0 := ((unhide HB).cell (p := ⟨b, o + k * 4, none⟩) hb).trans c0
          have d1 := ((unhide HB).cell (p := ⟨b, o + k * 4 + 1, none⟩) hb).trans c1
          have hnx := wt_snoc (cs.take k) (nth cs k)
          rw [← take_next hlt] at hnx
          have HNX := hide hnx
          clear c0 c1 hnx
          have hnz : (nth cs k).name.size = (nth cs k).name.size := rfl
          generalize hnm : (nth cs k).name = nm at d0
          generalize hky : (nth cs k).key = ky at d1
          rw [hnm, hky] at HNX
          clear hnz hnm hky
          generalize htt : wt (cs.take k) = tt at *
          by_cases h1 : 1048576 < nm.size
          · have hd1 : decide (1048576 < nm.size) = true := decide_eq_true h1
            go_wp2_with fail
            go_ret
            exact ⟨rfl, unhide HB⟩
          have hd1 : decide (1048576 < nm.size) = false := decide_eq_false h1
          by_cases h2 : 1048576 < ky.size
          · have hd2 : decide (1048576 < ky.size) = true := decide_eq_true h2
            go_wp2_with fail
            go_ret
            exact ⟨rfl, unhide HB⟩
          have hd2 : decide (1048576 < ky.size) = false := decide_eq_false h2
          by_cases h3 : 1048576 < 40 * cs.length + tt + (nm.size + ky.size)
          · go_wp2_with fail
            go_quiet (fail)
            go_wp2_with fail
            go_ret
            exact ⟨rfl, below_dn (unhide HB) _⟩
          go_wp2_with fail
          go_quiet (fail)
          go_wp2_with fail
          go_roundw
          case rel => exact ⟨k + 1, by go_num, by omega, by rw [unhide HNX]; go_num, by rw [unhide HNX]; omega, below_dn (unhide HB) _⟩
          case measure => simp [intOf]; omega
        · obtain rfl : k = cs.length := by omega
          rw [List.take_length] at ht
          rw [List.take_length]
          go_wp2_with fail
          go_meet
          case rel => exact ⟨rfl, ht, unhide HB⟩
    case rest =>
      obtain ⟨rfl, htot, hbel⟩ := hcut
      have HB := hide hbel
      clear hbel
      go_upto_block 2 with fail
      go_cut [] from 15 (fun wx => (∀ c ∈ cs, c.plain) ∧ Below w1.heap.size w1 wx)
      case first =>
        go_wp2_with fail
        go_loop [5] (fun i => NamSt cs i) (fun i => cs.length - (intOf i).toNat)
        case atStart => exact ⟨0, rfl, Nat.zero_le _, fun c hc => by simp at hc⟩
        case round =>
          obtain ⟨k, rfl, hk, hpl⟩ := hrel
          have HPL := hide hpl
          clear hpl
          by_cases hlt : k < cs.length
          · obtain ⟨c0, _, _, _⟩ := unhide HC k hlt
            have d0 := ((unhide HB).cell (p := ⟨b, o + k * 4, none⟩) hb).trans c0
            have hnl := name_le hlt
            clear c0
            go_wp2_with fail
            go_loop [7] (fun j => BytSt (nth cs k).name j) (fun j => (nth cs k).name.size - (intOf j).toNat)
            case atStart => exact ⟨0, rfl, Nat.zero_le _, fun c hc => by simp at hc⟩
            case round =>
              obtain ⟨m, rfl, hmn, hby⟩ := hrel
              have HBY := hide hby
              clear hby
              by_cases hml : m < (nth cs k).name.size
              · by_cases h46 : (nth cs k).name[m] = 46
                · have hu := u8_yes (n := 46) h46 rfl
                  go_wp2_with fail
                  go_ret
                  exact ⟨rfl, unhide HB⟩
                · have hu := u8_no (n := 46) h46 rfl
                  by_cases h91 : (nth cs k).name[m] = 91
                  · have hu2 := u8_yes (n := 91) h91 rfl
                    go_wp2_with fail
                    go_ret
                    exact ⟨rfl, unhide HB⟩
                  · have hu2 := u8_no (n := 91) h91 rfl
                    go_wp2_with fail
                    go_round
                    case rel =>
                      refine ⟨m + 1, by go_num, by omega, fun x hx => ?_⟩
                      rw [List.take_succ_eq_append_getElem (by rw [len_of]; exact hml), List.mem_append, List.mem_singleton] at hx
                      rcases hx with hx | hx
                      · exact unhide HBY x hx
                      · rw [hx]; exact ⟨h46, h91⟩
                    case measure => simp [intOf]; omega
              · obtain rfl : m = (nth cs k).name.size := by omega
                go_wp2_with fail
                go_round
                case rel =>
                  refine ⟨k + 1, by go_num, by omega, fun c hc => ?_⟩
                  rw [take_next hlt, List.mem_append, List.mem_singleton] at hc
                  rcases hc with hc | rfl
                  · exact unhide HPL c hc
                  · have := unhide HBY
                    rw [List.take_of_length_le (by rw [len_of]; exact Nat.le_refl _)] at this
                    exact this
                case measure => simp [intOf]; omega
          · obtain rfl : k = cs.length := by omega
            go_wp2_with fail
            go_meet
            case rel => exact ⟨by have := unhide HPL; rw [List.take_length] at this; exact this, unhide HB⟩
      case rest =>
        clear HB
        obtain ⟨hpl, hbel⟩ := hcut
        have HPL := hide hpl
        have HB := hide hbel
        clear hpl hbel
        have hCals : ∀ i, i < cs.length → wc.cell? ⟨b, o + i * 4, none⟩ = some (.string (nth cs i).name) ∧ wc.cell? ⟨b, o + i * 4 + 1, none⟩ = some (.string (nth cs i).key) ∧ wc.cell? ⟨b, o + i * 4 + 2, none⟩ = some (.int .u8 (nth cs i).kind) ∧ wc.cell? ⟨b, o + i * 4 + 3, none⟩ = some (.int .u64 ((nth cs i).num : Int)) := fun i hi => by
          obtain ⟨c0, c1, c2, c3⟩ := unhide HC i hi
          exact ⟨((unhide HB).cell (p := ⟨b, _, none⟩) hb).trans c0, ((unhide HB).cell (p := ⟨b, _, none⟩) hb).trans c1, ((unhide HB).cell (p := ⟨b, _, none⟩) hb).trans c2, ((unhide HB).cell (p := ⟨b, _, none⟩) hb).trans c3⟩
        have HCA := hide hCals
        clear hCals
        have hwc := (unhide HB).size
        have hnil := fun (w : World) (l c : Nat) => run_neq_slice_nil (P := Try.prog) w 24 28 (some ⟨b, o, none⟩) l c Try.underlying24
        obtain ⟨i0, hi, hz0, hz1, hz2⟩ := info_parts Try.info28
        obtain ⟨g, hgd⟩ : ∃ g, g = wc.heap.size := ⟨_, rfl⟩
        have hg1 : w1.heap.size ≤ g := by omega
        go_upto_if 93 with fail
        go_cut [0] from 15 (fun v wx => v = .slice (some ⟨g, 0, none⟩) cs.length cs.length ∧ Cal wx g 0 cs ∧ g < wx.heap.size ∧ Below w1.heap.size w1 wx)
        case first =>
          subst hgd
          go_wp2_with (at_make; refine wpList_make_full _ rfl _ _ 24 rfl wc.heap.size 28 i0 _ 4 Try.underlying24 hi hz0 hz1 _ _ _ _ cs.length rfl rfl rfl rfl (by rw [hz2]; omega) (by unfold maxLen; omega) (Nat.le_refl _) ?_; intro w2 hown hgrow)
          have HS := hide (show FSt wc cs (.int .i64 0) w2 from fst_start hown hgrow)
          clear hown hgrow
          go_loopw [9] (fun i wr => FSt wc cs i wr) (fun i _ => cs.length - (intOf i).toNat)
          case atStart => exact unhide HS
          case round =>
            clear HS
            obtain ⟨k, rfl, hk, hcal, hall, hfr, hbel, hsz⟩ := hrel
            have HCL := hide hcal
            have HA := hide hall
            have HF := hide hfr
            have HB2 := hide hbel
            clear hcal hall hfr hbel
            by_cases hlt : k < cs.length
            · obtain ⟨c0, c1, c2, c3⟩ := unhide HCA k hlt
              have hbw : b < wc.heap.size := by omega
              have d0 := ((unhide HB2).cell (p := ⟨b, o + k * 4, none⟩) hbw).trans c0
              have d1 := ((unhide HB2).cell (p := ⟨b, o + k * 4 + 1, none⟩) hbw).trans c1
              have d2 := ((unhide HB2).cell (p := ⟨b, o + k * 4 + 2, none⟩) hbw).trans c2
              have d3 := ((unhide HB2).cell (p := ⟨b, o + k * 4 + 3, none⟩) hbw).trans c3
              obtain ⟨v0, g0⟩ := unhide HA (k * 4) (by omega)
              obtain ⟨v1, g1⟩ := unhide HA (k * 4 + 1) (by omega)
              obtain ⟨v2, g2⟩ := unhide HA (k * 4 + 2) (by omega)
              obtain ⟨v3, g3⟩ := unhide HA (k * 4 + 3) (by omega)
              have f0 := unhide HF (k * 4)
              have f1 := unhide HF (k * 4 + 1)
              have f2 := unhide HF (k * 4 + 2)
              have f3 := unhide HF (k * 4 + 3)
              clear c0 c1 c2 c3
              go_wp2_with fail
              exact ⟨fst_next hlt (unhide HCL) (unhide HA) (unhide HF) (unhide HB2) hsz, by simp [intOf]; omega⟩
            · obtain rfl : k = cs.length := by omega
              go_wp2_with fail
              go_meet
              case rel => exact ⟨rfl, by have := unhide HCL; rw [List.take_length] at this; exact this, hsz, (unhide HB).trans ((unhide HB2).mono hwc)⟩
        case rest =>
          clear HB HCA hnil hwc hgd hi hz0 hz1 hz2
          obtain ⟨rfl, hcal, hgw, hbel⟩ := hcut
          have HB := hide hbel
          have HCL := hide hcal
          have hws := hbel.size
          clear hbel hcal
          obtain ⟨i5, hi, hz0, hz1, hz2⟩ := info_parts Try.info5
          have hwt : 0 ≤ wt cs := Nat.zero_le _
          go_wp2_with (first
            | (at_make; refine wpList_make_own _ rfl _ _ 29 rfl w1.heap.size 5 i5 (.int .u8 0) 1 Try.underlying29 hi hz0 hz1 _ _ _ (2 * (40 * cs.length + wt cs) + 32 * cs.length) rfl rfl (by simp) (by rw [hz2]; omega) (by unfold maxLen; omega) (by omega) ?_; intro w2 hownA hgrowA)
            | (at_make; refine wpList_make_own _ rfl _ _ 29 rfl w1.heap.size 5 i5 (.int .u8 0) 1 Try.underlying29 hi hz0 hz1 _ _ _ (40 * cs.length + wt cs + cs.length) rfl rfl (by simp) (by rw [hz2]; omega) (by unfold maxLen; omega) (by have := hgrowA.size; omega) ?_; intro w3 hownB hgrowB))
          have HOA := hide (show Own w3 w1.heap.size wc.heap.size (2 * (40 * cs.length + wt cs) + 32 * cs.length) [] from Own.keep (w := w2) hownA (hgrowB.block _ (own_lt hownA) (by simp)))
          have HOB := hide (show Own w3 w1.heap.size w2.heap.size (40 * cs.length + wt cs + cs.length) [] from hownB)
          have hgab : wc.heap.size < w2.heap.size := own_lt hownA
          have HBW := hide ((((unhide HB).grown hgrowA (by omega) (by simp)).grown hgrowB (by omega) (by simp)))
          have HCW := hide (show Cal w3 g 0 cs from fun i hi => by
            obtain ⟨e0, e1, e2, e3⟩ := unhide HCL i hi
            have hk : ∀ j, w3.cell? ⟨g, j, none⟩ = wc.cell? ⟨g, j, none⟩ := fun j => (World.cell?_of_block (w := w2) (hgrowB.block g (by omega) (by simp))).trans (World.cell?_of_block (w := wc) (hgrowA.block g (by omega) (by simp)))
            exact ⟨(hk _).trans e0, (hk _).trans e1, (hk _).trans e2, (hk _).trans e3⟩)
          have hg3 : g < w3.heap.size := by have := hgrowB.size; omega
          clear hownA hgrowA hownB hgrowB
          generalize hga : wc.heap.size = ga at *
          generalize hgb : w2.heap.size = gb at *
          generalize hcA : 2 * (40 * cs.length + wt cs) + 32 * cs.length = capA at *
          generalize hcB : 40 * cs.length + wt cs + cs.length = capB at *
          have hgga : g ≠ ga := by omega
          have hbna : gb ≠ ga := by omega
          have hgbg : g ≠ gb := by omega
          go_loopw [10, 11, 12] (fun va vb i wr => PSt w1 cs g ga gb capA capB va vb i wr) (fun _ _ i _ => cs.length - (intOf i).toNat)
          case atStart => exact ⟨0, rfl, Nat.zero_le _, rfl, rfl, unhide HOA, unhide HOB, unhide HCW, hg3, unhide HBW⟩
          case round =>
            clear HOA HOB HCW HBW hg3
            obtain ⟨k, rfl, hk, rfl, rfl, hoa, hob, hcal, hgr, hbr⟩ := hrel
            have HOA := hide hoa
            have HOB := hide hob
            have HCR := hide hcal
            have HBR := hide hbr
            have hbrs := hbr.size
            clear hoa hob hcal hbr
            by_cases hlt : k < cs.length
            · obtain ⟨c0, c1, c2, c3⟩ := unhide HCR k hlt
              obtain ⟨hk0, hk255, hnum⟩ := unhide HK _ (nth_mem hlt)
              have hwl := name_le hlt
              have hcl := (comp_len (cs.take k) (fun c hc => (unhide HK c (List.mem_of_mem_take hc)).2.2)).1
              have hnl := names_len (cs.take k)
              rw [List.length_take_of_le (Nat.le_of_lt hlt)] at hcl hnl
              have hky := key_len (nth cs k) hnum
              have HNX := hide (comp_next hlt)
              have HNN := hide (show names (cs.take (k + 1)) = names (cs.take k) ++ ((nth cs k).nm ++ [46]) by rw [take_next hlt, names_snoc])
              have hnn : (nth cs k).nm.length = (nth cs k).name.size := len_of _
              rw [Nat.zero_add] at c0 c1 c2 c3
              generalize nth cs k = c at *
              generalize hcl0 : comp (cs.take k) = l0 at *
              generalize hnm0 : names (cs.take k) = nm0 at *
              obtain ⟨l1, hl1⟩ : ∃ l1, l1 = if k = 0 then [] else l0 ++ [46] := ⟨_, rfl⟩
              rw [← hl1] at HNX
              have HL1 := hide hl1
              have HL0 := hide hcl0
              have hl1l : l1.length ≤ l0.length + 1 := by rw [hl1]; split <;> simp
              clear hl1 hcl0 hnm0
              go_upto_if 134 with fail
              have hga4 : wr.heap.size ≠ ga := by have := (unhide HOA).lt; omega
              have hngb0 : wr.heap.size ≠ gb := by have := (unhide HOB).lt; omega
              have HOA4 := hide ((unhide HOA).alloc (.cells #[.string c.name, .string c.key, .int .u8 c.kind, .int .u64 (c.num : Int)] 28))
              have HE4 := hide (env_start (unhide HOB) (unhide HCR) hgr (unhide HBR) c)
              clear HOA HOB HCR HBR c0 c1 c2 c3 hgr
              generalize hw4 : wr.alloc (.cells #[.string c.name, .string c.key, .int .u8 c.kind, .int .u64 (c.num : Int)] 28) = w4 at *
              clear hw4
              generalize wr.heap.size = n at *
              go_cut [10] from 123 to 201 (fun v wx => Row w1 cs g ga gb capA capB n nm0 c l1 v wx)
              case first =>
                by_cases hk00 : k = 0
                · subst hk00
                  have e0 : l0 = [] := by rw [← unhide HL0]; rfl
                  have e1 : l1 = [] := by rw [unhide HL1]; rfl
                  go_wp2_with fail
                  go_meet
                  case rel => exact ⟨by rw [e1]; rfl, by rw [e1, ← e0]; exact unhide HOA4, unhide HE4⟩
                · have hd : decide (0 < k) = true := decide_eq_true (by omega)
                  have e1 : l1 = l0 ++ [46] := by rw [unhide HL1, if_neg hk00]
                  have HE1 := hide e1
                  clear e1
                  go_wp2_with (first
                    | (at_builtin; refine wpList_append_own_spare _ rfl (.tmp 135) (.tmp 136) 29 rfl w1.heap.size 5 i5 1 Try.underlying29 hi hz1 ga l0.length capA _ rfl ((unhide HOA4).alloc _) ⟨w4.heap.size, 0, none⟩ 1 1 (Lib.byteCells [46]) rfl rfl (lit_cells w4 [46]) (bc_one _) (by omega) ?_; intro w5 hown5 hgrow5)
                    | fail)
                  have HR := hide (row_lit (unhide HOA4) (unhide HE4) hown5 rfl rfl hgrow5 hgga hbna hga4)
                  clear hown5 hgrow5
                  go_meet
                  case rel => exact ⟨by rw [unhide HE1, List.length_append]; rfl, by rw [unhide HE1]; exact (unhide HR).1, (unhide HR).2⟩
              case rest =>
                clear HOA4 HE4
                obtain ⟨rfl, hown, henv⟩ := hcut
                have HOA := hide hown
                have HE := hide henv
                have x0 := henv.x0
                clear hown henv
                have hcap0 : 0 < capA := by omega
                have hk2 : l1.length + 7 + c.name.size + 22 + 2 * c.key.size ≤ capA := by omega
                have HNN2 := hide hnn
                clear hnn
                go_upto_if 146 with (first
                  | (at_builtin; refine Lib.wpList_append_fits_string _ rfl (.tmp 138) (.const (.string ⟨#[109, 111, 100, 117, 108, 101, 46]⟩)) 29 9 rfl w1.heap.size 5 i5 Try.underlying29 Try.underlying9 hi hz1 (some ⟨ga, 0, none⟩) l1.length capA _ rfl (unhide HOA) ⟨#[109, 111, 100, 117, 108, 101, 46]⟩ rfl hcap0 (by show l1.length + 7 ≤ capA; omega) ?_; intro w5 hown5 hgrow5; have HR5 := hide (row_str (bs := modl) (n0 := l1.length) (m := 7) (unhide HOA) (unhide HE) hown5 rfl rfl hgrow5 hgga hbna hga4); have y0 := (unhide HR5).2.x0; clear hown5 hgrow5)
                  | (at_builtin; refine Lib.wpList_append_fits_string _ rfl (.tmp 140) (.tmp 142) 29 9 rfl w1.heap.size 5 i5 Try.underlying29 Try.underlying9 hi hz1 (some ⟨ga, 0, none⟩) (l1.length + 7) capA _ rfl ((unhide HR5).1.row (by rw [List.length_append]; rfl)) c.name rfl hcap0 (by omega) ?_; intro w6 hown6 hgrow6; have HR6 := hide (row_str (bs := c.nm) (n0 := l1.length + 7) (m := c.name.size) (unhide HR5).1 (unhide HR5).2 hown6 (by rw [List.length_append]; rfl) (len_of _) hgrow6 hgga hbna hga4); have y2 := (unhide HR6).2.x2; clear hown6 hgrow6))
                have hlen6 : (l1 ++ modl ++ c.nm).length = l1.length + 7 + c.name.size := by rw [List.length_append, List.length_append, unhide HNN2]; rfl
                obtain ⟨l2, hl2⟩ : ∃ l2, l2 = l1 ++ modl ++ c.nm := ⟨_, rfl⟩
                rw [← hl2] at HR6 hlen6
                have HL2 := hide hl2
                have HOA6 := hide (unhide HR6).1
                have HE6 := hide (unhide HR6).2
                have x1 := (unhide HE6).x1
                have x2 := (unhide HE6).x2
                have x3 := (unhide HE6).x3
                have hn6 := (unhide HE6).hn
                clear HR5 HR6 HOA HE x0 y0 y2 hl2
                go_cut [10] from 123 to 201 (fun v wx => Row w1 cs g ga gb capA capB n nm0 c (l2 ++ c.keyText) v wx)
                case first =>
                  by_cases hc1 : c.kind = 1
                  · have hb1 : (c.kind == 1) = true := by rw [hc1]; rfl
                    have HKT := hide (show c.keyText = 91 :: 34 :: (esc c.key.data.toList ++ [34, 93]) by unfold Step.keyText; rw [if_pos hc1])
                    clear hc1
                    go_upto_block 10 with (at_builtin; refine wpList_append_own_spare _ rfl (.tmp 147) (.tmp 148) 29 rfl w1.heap.size 5 i5 1 Try.underlying29 hi hz1 ga (l1.length + 7 + c.name.size) capA _ rfl (((unhide HOA6).alloc _).row hlen6) ⟨w6.heap.size, 0, none⟩ 2 2 (Lib.byteCells [91, 34]) rfl rfl (lit_cells w6 [91, 34]) (bc_one _) (by omega) ?_; intro w7 hown7 hgrow7; have HR7 := hide (row_lit (bs := [91, 34]) (n0 := (l1.length + 7 + c.name.size)) (m := 2) (unhide HOA6) (unhide HE6) hown7 hlen6 rfl hgrow7 hgga hbna hga4); clear hown7 hgrow7)
                    obtain ⟨l3, hl3⟩ : ∃ l3, l3 = l2 ++ [91, 34] := ⟨_, rfl⟩
                    rw [← hl3] at HR7
                    have hl3n : l3.length = l1.length + 7 + c.name.size + 2 := by rw [hl3, List.length_append, hlen6]; rfl
                    have HL3 := hide hl3
                    have HL3n := hide hl3n
                    clear hl3 hl3n
                    go_cut [10] from 123 to 201 (fun v wx => Row w1 cs g ga gb capA capB n nm0 c (l3 ++ esc c.key.data.toList) v wx)
                    case first =>
                      go_wp2_with fail
                      go_loopw [10, 14] (fun v j wr => KSt w1 cs g ga gb capA capB n nm0 c l3 v j wr) (fun _ j _ => c.key.size - (intOf j).toNat)
                      case atStart =>
                        refine ⟨0, rfl, Nat.zero_le _, ?_, ?_, (unhide HR7).2⟩
                        · have := unhide HL3n
                          simp [esc]
                          omega
                        · have := (unhide HR7).1
                          simpa [esc] using this
                      case round =>
                        obtain ⟨i, rfl, hik, rfl, hown, henv⟩ := hrel
                        have hesl := esc_len (c.key.data.toList.take i)
                        rw [List.length_take_of_le (by rw [len_of]; exact hik)] at hesl
                        obtain ⟨l4, hl4⟩ : ∃ l4, l4 = l3 ++ esc (c.key.data.toList.take i) := ⟨_, rfl⟩
                        rw [← hl4] at hown
                        rw [← hl4]
                        have hl4n : l4.length ≤ l1.length + 7 + c.name.size + 2 + 2 * i := by
                          have := unhide HL3n
                          rw [hl4, List.length_append]; omega
                        have HL4 := hide hl4
                        have HO4 := hide hown
                        have HE4 := hide henv
                        have z1 := henv.x1
                        clear hown henv hl4 hesl
                        by_cases hil : i < c.key.size
                        · have hde : decide (i < c.key.size) = true := decide_eq_true hil
                          by_cases hq : c.key[i] = 34
                          · have hu := u8_yes (n := 34) hq rfl
                            have HES := hide (show l3 ++ esc (c.key.data.toList.take (i + 1)) = l4 ++ [92, c.key[i]] by rw [esc_next hil, ← List.append_assoc, ← unhide HL4, esc_two (Or.inl hq)])
                            clear hq
                            go_wp2_with (first
                              | (at_builtin; refine wpList_append_own_spare _ rfl (.tmp 169) (.tmp 170) 29 rfl w1.heap.size 5 i5 1 Try.underlying29 hi hz1 ga l4.length capA _ rfl (((unhide HO4).alloc _).row rfl) ⟨wr.heap.size, 0, none⟩ 1 1 (Lib.byteCells [92]) rfl rfl (lit_cells wr [92]) (bc_one _) (by omega) ?_; intro w10 hown10 hgrow10; have HR10 := hide (row_lit (bs := [92]) (n0 := l4.length) (m := 1) (unhide HO4) (unhide HE4) hown10 rfl rfl hgrow10 hgga hbna hga4); have y1 := (unhide HR10).2.x1; clear hown10 hgrow10)
                              | (at_builtin; refine wpList_append_own_spare _ rfl (.tmp 172) (.tmp 177) 29 rfl w1.heap.size 5 i5 1 Try.underlying29 hi hz1 ga (l4.length + 1) capA _ rfl (((unhide HR10).1.alloc _).row (by rw [List.length_append]; rfl)) ⟨w10.heap.size, 0, none⟩ 1 1 (Lib.byteCells [c.key[i]]) rfl rfl (lit_cells w10 [c.key[i]]) (bc_one _) (by omega) ?_; intro w11 hown11 hgrow11; have HR11 := hide (row_lit (bs := [c.key[i]]) (n0 := (l4.length + 1)) (m := 1) (unhide HR10).1 (unhide HR10).2 hown11 (by rw [List.length_append]; rfl) rfl hgrow11 hgga hbna hga4); clear hown11 hgrow11))
                            go_roundw
                            case rel => exact ⟨i + 1, by go_num, by omega, by rw [unhide HES]; simp, by rw [unhide HES]; have := (unhide HR11).1; rw [List.append_assoc] at this; exact this, (unhide HR11).2⟩
                            case measure => simp [intOf]; omega
                          have hu := u8_no (n := 34) hq rfl
                          by_cases hs : c.key[i] = 92
                          · have hu2 := u8_yes (n := 92) hs rfl
                            have HES := hide (show l3 ++ esc (c.key.data.toList.take (i + 1)) = l4 ++ [92, c.key[i]] by rw [esc_next hil, ← List.append_assoc, ← unhide HL4, esc_two (Or.inr hs)])
                            clear hs
                            go_wp2_with (first
                              | (at_builtin; refine wpList_append_own_spare _ rfl (.tmp 169) (.tmp 170) 29 rfl w1.heap.size 5 i5 1 Try.underlying29 hi hz1 ga l4.length capA _ rfl (((unhide HO4).alloc _).row rfl) ⟨wr.heap.size, 0, none⟩ 1 1 (Lib.byteCells [92]) rfl rfl (lit_cells wr [92]) (bc_one _) (by omega) ?_; intro w10 hown10 hgrow10; have HR10 := hide (row_lit (bs := [92]) (n0 := l4.length) (m := 1) (unhide HO4) (unhide HE4) hown10 rfl rfl hgrow10 hgga hbna hga4); have y1 := (unhide HR10).2.x1; clear hown10 hgrow10)
                              | (at_builtin; refine wpList_append_own_spare _ rfl (.tmp 172) (.tmp 177) 29 rfl w1.heap.size 5 i5 1 Try.underlying29 hi hz1 ga (l4.length + 1) capA _ rfl (((unhide HR10).1.alloc _).row (by rw [List.length_append]; rfl)) ⟨w10.heap.size, 0, none⟩ 1 1 (Lib.byteCells [c.key[i]]) rfl rfl (lit_cells w10 [c.key[i]]) (bc_one _) (by omega) ?_; intro w11 hown11 hgrow11; have HR11 := hide (row_lit (bs := [c.key[i]]) (n0 := (l4.length + 1)) (m := 1) (unhide HR10).1 (unhide HR10).2 hown11 (by rw [List.length_append]; rfl) rfl hgrow11 hgga hbna hga4); clear hown11 hgrow11))
                            go_roundw
                            case rel => exact ⟨i + 1, by go_num, by omega, by rw [unhide HES]; simp, by rw [unhide HES]; have := (unhide HR11).1; rw [List.append_assoc] at this; exact this, (unhide HR11).2⟩
                            case measure => simp [intOf]; omega
                          · have hu2 := u8_no (n := 92) hs rfl
                            have HES := hide (show l3 ++ esc (c.key.data.toList.take (i + 1)) = l4 ++ [c.key[i]] by rw [esc_next hil, ← List.append_assoc, ← unhide HL4, esc_one hq hs])
                            clear hs
                            go_wp2_with (first
                              | (at_builtin; refine wpList_append_own_spare _ rfl (.tmp 172) (.tmp 177) 29 rfl w1.heap.size 5 i5 1 Try.underlying29 hi hz1 ga l4.length capA _ rfl (((unhide HO4).alloc _).row rfl) ⟨wr.heap.size, 0, none⟩ 1 1 (Lib.byteCells [c.key[i]]) rfl rfl (lit_cells wr [c.key[i]]) (bc_one _) (by omega) ?_; intro w11 hown11 hgrow11; have HR11 := hide (row_lit (bs := [c.key[i]]) (n0 := l4.length) (m := 1) (unhide HO4) (unhide HE4) hown11 rfl rfl hgrow11 hgga hbna hga4); clear hown11 hgrow11))
                            go_roundw
                            case rel => exact ⟨i + 1, by go_num, by omega, by rw [unhide HES]; simp, by rw [unhide HES]; exact (unhide HR11).1, (unhide HR11).2⟩
                            case measure => simp [intOf]; omega
                        · obtain rfl : i = c.key.size := by omega
                          have HLE := hide (show l3 ++ esc c.key.data.toList = l4 by rw [unhide HL4, List.take_of_length_le (Nat.le_of_eq (len_of _))])
                          go_wp2_with fail
                          go_meet
                          case rel => exact ⟨by rw [unhide HLE], by rw [unhide HLE]; exact unhide HO4, unhide HE4⟩
                    case rest =>
                      clear HR7
                      obtain ⟨rfl, hown, henv⟩ := hcut
                      have hesl := esc_len c.key.data.toList
                      rw [len_of] at hesl
                      obtain ⟨l4, hl4⟩ : ∃ l4, l4 = l3 ++ esc c.key.data.toList := ⟨_, rfl⟩
                      rw [← hl4] at hown
                      rw [← hl4]
                      have hl4n : l4.length ≤ l1.length + 7 + c.name.size + 2 + 2 * c.key.size := by
                        have := unhide HL3n
                        rw [hl4, List.length_append]; omega
                      have HL4 := hide hl4
                      have HO4 := hide hown
                      have HE4 := hide henv
                      clear hown henv hl4 hesl
                      go_wp2_with (first
                        | (at_builtin; refine wpList_append_own_spare _ rfl (.tmp 179) (.tmp 180) 29 rfl w1.heap.size 5 i5 1 Try.underlying29 hi hz1 ga l4.length capA _ rfl (((unhide HO4).alloc _).row rfl) ⟨wc.heap.size, 0, none⟩ 2 2 (Lib.byteCells [34, 93]) rfl rfl (lit_cells wc [34, 93]) (bc_one _) (by omega) ?_; intro w11 hown11 hgrow11; have HR11 := hide (row_lit (bs := [34, 93]) (n0 := l4.length) (m := 2) (unhide HO4) (unhide HE4) hown11 rfl rfl hgrow11 hgga hbna hga4); clear hown11 hgrow11))
                      go_meet
                      case rel =>
                        have e : l2 ++ c.keyText = l4 ++ [34, 93] := by rw [unhide HKT, unhide HL4, unhide HL3]; simp
                        exact ⟨by rw [e, List.length_append]; rfl, by rw [e]; exact (unhide HR11).1, (unhide HR11).2⟩
                  · have hb1 : (c.kind == 1) = false := beq_eq_false_iff_ne.2 hc1
                    by_cases hc0 : c.kind = 0
                    · have hb0 : (c.kind != 0) = false := by rw [hc0]; rfl
                      have HKT := hide (show c.keyText = [] by unfold Step.keyText; rw [if_neg hc1, if_pos hc0])
                      clear hc1 hc0
                      go_wp2_with fail
                      go_meet
                      case rel => exact ⟨by rw [unhide HKT, List.append_nil, hlen6], by rw [unhide HKT, List.append_nil]; exact unhide HOA6, unhide HE6⟩
                    · have hb0 : (c.kind != 0) = true := bne_iff_ne.2 hc0
                      have HKT := hide (show c.keyText = 91 :: (digs c.num ++ [93]) by unfold Step.keyText; rw [if_neg hc1, if_neg hc0])
                      have hdl := digs_len 19 c.num (by omega)
                      obtain ⟨n8, hn8⟩ : ∃ n8, (l2 ++ [91] ++ digs c.num).length = n8 := ⟨_, rfl⟩
                      have hn8c : n8 + 1 ≤ capA := by rw [← hn8, List.length_append, List.length_append, hlen6]; simp only [List.length_singleton]; omega
                      have HN8 := hide hn8
                      clear hc1 hc0 hn8
                      go_wp2_with (first
                        | (at_builtin; refine wpList_append_own_spare _ rfl (.tmp 185) (.tmp 186) 29 rfl w1.heap.size 5 i5 1 Try.underlying29 hi hz1 ga (l1.length + 7 + c.name.size) capA _ rfl (((unhide HOA6).alloc _).row hlen6) ⟨w6.heap.size, 0, none⟩ 1 1 (Lib.byteCells [91]) rfl rfl (lit_cells w6 [91]) (bc_one _) (by omega) ?_; intro w7 hown7 hgrow7; have HR7 := hide (row_lit (bs := [91]) (n0 := (l1.length + 7 + c.name.size)) (m := 1) (unhide HOA6) (unhide HE6) hown7 hlen6 rfl hgrow7 hgga hbna hga4); have y3 := (unhide HR7).2.x3; clear hown7 hgrow7)
                        | (go_at_call 9; refine (dec_n w1.heap.size ga capA (l1.length + 7 + c.name.size + 1) n8 c.num (l2 ++ [91]) w7 (by rw [List.length_append, hlen6]; rfl) HN8 hnum (unhide HR7).1 (by omega)).mono ?_; rintro e w8 ⟨rfl, ho8, hk8, hb8⟩; have HO8 := hide ho8; have HE8 := hide ((unhide HR7).2.step hk8 hb8 hgga hbna hga4); clear ho8 hk8 hb8)
                        | (at_builtin; refine wpList_append_own_spare _ rfl (.tmp 192) (.tmp 193) 29 rfl w1.heap.size 5 i5 1 Try.underlying29 hi hz1 ga n8 capA _ rfl (((unhide HO8).alloc _).row (unhide HN8)) ⟨w8.heap.size, 0, none⟩ 1 1 (Lib.byteCells [93]) rfl rfl (lit_cells w8 [93]) (bc_one _) (by omega) ?_; intro w9 hown9 hgrow9; have HR9 := hide (row_lit (bs := [93]) (n0 := n8) (m := 1) (unhide HO8) (unhide HE8) hown9 (unhide HN8) rfl hgrow9 hgga hbna hga4); clear hown9 hgrow9))
                      go_meet
                      case rel =>
                        have e : l2 ++ c.keyText = l2 ++ [91] ++ digs c.num ++ [93] := by rw [unhide HKT]; simp
                        exact ⟨by rw [e, List.length_append, unhide HN8]; rfl, by rw [e]; exact (unhide HR9).1, (unhide HR9).2⟩
                case rest =>
                  clear HOA6 HE6 x1 x2 x3 hn6
                  obtain ⟨rfl, hown, henv⟩ := hcut
                  obtain ⟨l5, hl5⟩ : ∃ l5, l5 = l2 ++ c.keyText := ⟨_, rfl⟩
                  rw [← hl5] at hown
                  rw [← hl5]
                  have HL5 := hide (show comp (cs.take (k + 1)) = l5 by rw [unhide HNX, hl5, unhide HL2, Step.txt]; simp)
                  have HOG := hide henv.own
                  have HEG := hide (show Env w1 cs g ga capA n l5 c wc from ⟨hown, henv.cal, henv.hg, henv.x0, henv.x1, henv.x2, henv.x3, henv.hn, henv.bel⟩)
                  have x0 := henv.x0
                  have hngb : n ≠ gb := hngb0
                  clear hown henv hl5
                  have hcb0 : 0 < capB := by omega
                  have hcb : nm0.length + c.name.size + 1 ≤ capB := by omega
                  go_wp2_with (first
                    | (at_builtin; refine Lib.wpList_append_fits_string _ rfl (.tmp 195) (.tmp 197) 29 9 rfl w1.heap.size 5 i5 Try.underlying29 Try.underlying9 hi hz1 (some ⟨gb, 0, none⟩) nm0.length capB _ rfl (unhide HOG) c.name rfl hcb0 (by omega) ?_; intro w12 hown12 hgrow12; have HR12 := hide (row_str (bs := c.nm) (n0 := nm0.length) (m := c.name.size) (unhide HOG) (unhide HEG) hown12 rfl (len_of _) hgrow12 hgbg (Ne.symm hbna) hngb); clear hown12 hgrow12)
                    | (at_builtin; refine wpList_append_own_spare _ rfl (.tmp 199) (.tmp 200) 29 rfl w1.heap.size 5 i5 1 Try.underlying29 hi hz1 gb (nm0.length + c.name.size) capB _ rfl (((unhide HR12).1.alloc _).row (by rw [List.length_append, unhide HNN2])) ⟨w12.heap.size, 0, none⟩ 1 1 (Lib.byteCells [46]) rfl rfl (lit_cells w12 [46]) (bc_one _) (by omega) ?_; intro w13 hown13 hgrow13; have HR13 := hide (row_lit (bs := [46]) (n0 := nm0.length + c.name.size) (m := 1) (unhide HR12).1 (unhide HR12).2 hown13 (by rw [List.length_append, unhide HNN2]) rfl hgrow13 hgbg (Ne.symm hbna) hngb); clear hown13 hgrow13))
                  go_roundw
                  case rel =>
                    have hN : names (cs.take (k + 1)) = nm0 ++ c.nm ++ [46] := by rw [unhide HNN, List.append_assoc]
                    refine ⟨k + 1, by go_num, hlt, by rw [unhide HL5], ?_, by rw [unhide HL5]; exact (unhide HR13).2.own, by rw [hN]; exact (unhide HR13).1, (unhide HR13).2.cal, (unhide HR13).2.hg, (unhide HR13).2.bel⟩
                    rw [hN, List.length_append, List.length_append, unhide HNN2]; rfl
                  case measure => simp [intOf]; omega
            · obtain rfl : k = cs.length := by omega
              rw [List.take_length] at HOA HOB
              rw [List.take_length]
              have hca := comp_len cs (fun c hc => (unhide HK c hc).2.2)
              have hna := names_len cs
              have hs1 := string_of (w := wr.drew) (unhide HOA)
              have hs2 := string_of (w := wr.drew) (unhide HOB)
              have HPL2 := hide (unhide HPL)
              go_wp2_with fail
              go_region_with (go_at_call 6; refine (zz_is _ cs _ rfl ?_ (unhide HPL2) ?_).mono ?_; (show (comp cs).length ≤ 4194304; omega); omega; rintro e w20 ⟨rfl, hb20⟩; have HB20 := hide hb20; have hs3 := string_of ((unhide HOB).keep (w' := w20) ((unhide HB20).block gb (unhide HOB).lt)); clear hb20)
              all_goals (go_wp2_with fail)
              all_goals (go_ret)
              all_goals (exact ⟨rfl, (unhide HBR).drew.trans ((unhide HB20).mono hbrs)⟩)
end Go.Proofs.Qxb6605297a
