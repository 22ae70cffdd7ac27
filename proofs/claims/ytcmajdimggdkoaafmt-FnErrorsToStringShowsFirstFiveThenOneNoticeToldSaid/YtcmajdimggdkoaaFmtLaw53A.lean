/-
  The walk of FnErrorsToStringShowsFirstFiveThenOneNotice. Conditions: none.
-/
import Derived.Test.YtcmajdimggdkoaaFmtShw
namespace Go.Proofs.YtcmajdimggdkoaaFmt
open Go.RowKit Go.Extern.Stop Go.Stop Go.Extern

set_option maxHeartbeats 6400000 in
set_option maxRecDepth 100000 in
theorem law53_all (F : Interp) (A : Option Addr) (n c : Nat) (ss : List ByteArray) (alt : ByteArray) (w : World) (hF : F.told.answers w.tape) (h : RdS w w.heap.size A n ss) :
    Calls Tryf.prog 6 #[.slice A n c, .string alt] w fun e w' => e = .returned (.bool true) ∧ Below w.heap.size w w' := by
  have hlen := hide h.len
  have CB := hide (bytes19_any A n c ss alt w h)
  have e0 := hide (@run_neq_slice_nil_any Tryf.prog)
  replace hF := hide hF
  go_enter Tryf.func6, Tryf.ntmps6
  go_wp2_with fail
  refine CB.out.mono ?_
  rintro e w1 ⟨b, rfl, rfl, hb⟩
  cases b
  · clear hb
    go_wp2
    go_ret
    exact ⟨rfl, Below.refl _ _⟩
  have hs := hb rfl
  clear hb CB
  by_cases hn : n ≤ 4096
  · have ha : alt.size ≤ 1048576 := by omega
    go_wp2_with fail
    go_loop [5, 6] (fun s5 s6 => ∃ i : Nat, i ≤ n ∧ s6 = .int .i64 i ∧ s5 = .int .i64 ((16 * n + alt.size + tot (ss.take i) : Nat) : Int)) (fun _ s6 => n - (intOf s6).toNat)
    case atStart => exact ⟨0, Nat.zero_le _, rfl, by simp [tot]⟩
    case round =>
      obtain ⟨i, hi, rfl, rfl⟩ := hrel
      by_cases hin : i < n
      · obtain ⟨b, off, t, rfl, hB, htk, hct⟩ := h.at hin
        have htt := hide (tot_succ ss htk)
        have hz := tot_take ss i
        have hy := tot_take ss (i + 1)
        rw [htt.out] at hy
        clear htk
        generalize hZ : 16 * n + alt.size + tot (ss.take i) = Z at *
        have hz2 : Z ≤ 4000000 := by omega
        replace hZ := hide hZ
        by_cases h2 : Z + t.size ≤ 1048576
        · go_wp2
          go_round
          case rel => exact ⟨i + 1, by omega, by go_num, by rw [htt.out, ← Nat.add_assoc, hZ.out]; go_num⟩
          case measure => simp [intOf]; omega
        · go_wp2
          go_ret
          exact ⟨rfl, Below.refl _ _⟩
      · obtain rfl : n = i := by omega
        rw [tot_all hlen.out]
        have e1 := e0.out
        rcases A with _ | a
        · have hn0 : n = 0 := by
            rcases Nat.eq_zero_or_pos n with h0 | h0
            · exact h0
            · obtain ⟨b, off, e, _⟩ := h.2 h0
              cases e
          obtain rfl : ss = [] := List.eq_nil_of_length_eq_zero (by rw [hlen.out]; exact hn0)
          subst hn0
          have r0 : ofBytes (reportOf []) = ⟨#[]⟩ := rfl
          replace r0 := hide r0
          go_wp2_with fail
          refine (msgs20_any none 0 c [] _ h (by omega)).mono ?_
          rintro e w4 ⟨A4, rfl, hm4, hb4⟩
          have hF4 : F.told.answers w4.tape := by rw [hb4.tape]; exact hF.out
          replace hF4 := hide hF4
          replace hm4 := hide hm4
          replace hb4 := hide hb4
          go_wp2_with fail
          refine (report8_few F A4 0 0 [] _ hF4.out hm4.out (by omega) (by simp)).mono ?_
          rintro e w5 ⟨rfl, hb5⟩
          have hb6 := hide (hb4.out.trans (hb5.mono hb4.out.size))
          rw [r0.out]
          clear hb5 hb4 hm4 hF4 r0 h
          go_wp2_with fail
          refine wp_loop_rounds 1 ?_
          rw [rounds_succ]
          go_wp2
          go_ret
          exact ⟨rfl, hb6.out⟩
        · replace e1 := e1
          go_wp2_with (at_make; refine wpList_mk (c := n) E32 rfl _ rfl w.heap.size n rfl rfl (by omega) (by decide) (Nat.le_refl _) ?_; intro w3 hown3 hg hsz)
          rw [made_strings] at hown3
          have hb3 : Below w.heap.size w w3 := (Below.refl _ _).grown hg (Nat.le_refl _) (by intro k hk; cases hk)
          clear e1
          go_loopw [8] (fun s8 wr => ∃ i : Nat, i ≤ n ∧ s8 = .int .i64 i ∧ Hid (wr.ownsRow w.heap.size 9 1 (.slice (some ⟨w.heap.size, 0, none⟩) n n) n (sfill ss n i)) ∧ Hid (Below w.heap.size w wr)) (fun s8 _ => n - (intOf s8).toNat)
          case atStart => exact ⟨0, Nat.zero_le _, rfl, hide (by simpa [sfill] using hown3), hide hb3⟩
          case round =>
            clear hown3 hb3 hg hsz
            obtain ⟨i, hi, rfl, hown, hb⟩ := hrel
            by_cases hin : i < n
            · obtain ⟨b, off, t, ha, hB, hk, hct⟩ := h.at hin
              obtain rfl := Option.some.inj ha
              have hc2 := (hb.out.cell (p := ⟨b, off + i, none⟩) hB).trans hct
              have hf := hown.out.frozenAt i
              have hu := (hown.out.cellAt i (by omega)).trans (sfill_get ss n i hlen.out hin)
              have R := (hown.out.stored i (.string t)).1
              rw [sfill_set ss n i hlen.out hk] at R
              have hb6 := hb.out.setCell (p := ⟨w.heap.size, i, none⟩) (Nat.le_refl _) (.string t)
              replace R := hide R
              replace hb6 := hide hb6
              clear hown hb hk ha hct
              go_wp2
              go_roundw
              case rel => exact ⟨i + 1, by omega, by go_num, R, hb6⟩
              case measure => simp [intOf]; omega
            · obtain rfl : n = i := by omega
              have hfin := hown.out
              rw [sfill_full ss n hlen.out] at hfin
              have hr := RdS.of_own hfin
              have hsz : ∀ t ∈ ss, t.size ≤ 1048576 := fun t h => by have := tot_mem h; omega
              replace hsz := hide hsz
              replace hr := hide hr
              clear hown hfin h e0
              by_cases h5 : n ≤ 5
              · go_wp2_with fail
                refine (msgs20_any _ n n ss _ hr.out (by omega)).mono ?_
                rintro e w4 ⟨A4, rfl, hm4, hb4⟩
                have hF4 : F.told.answers w4.tape := by rw [hb4.tape, hb.out.tape]; exact hF.out
                replace hF4 := hide hF4
                replace hm4 := hide hm4
                replace hb4 := hide hb4
                go_wp2_with fail
                refine (report8_few F A4 n n ss _ hF4.out hm4.out h5 hsz.out).mono ?_
                rintro e w5 ⟨rfl, hb5⟩
                have hb25 : Below wr.heap.size wr w5 := hb4.out.trans (hb5.mono hb4.out.size)
                have hbw5 : Below w.heap.size w w5 := hb.out.trans (hb25.mono hb.out.size)
                have hr5 : RdS w5 w5.heap.size (some ⟨w.heap.size, 0, none⟩) n ss := (hr.out.below hb25).more hb25.size
                obtain ⟨U, hU⟩ : ∃ U, U = ofBytes (reportOf ss) := ⟨_, rfl⟩
                rw [← hU]
                replace hU := hide hU
                replace hbw5 := hide hbw5
                replace hr5 := hide hr5
                clear hb25 hb5 hb4 hm4 hF4 hr hb
                go_wp2_with fail
                go_loopw [12, 13] (fun s12 s13 wr => ∃ (i : Nat) (X : ByteArray), i ≤ n ∧ s13 = .int .i64 i ∧ s12 = .string X ∧ Hid (X = ofBytes (reportOf (ss.take i))) ∧ Hid (Below w5.heap.size w5 wr)) (fun _ s13 _ => n - (intOf s13).toNat)
                case atStart => exact ⟨0, ⟨#[]⟩, Nat.zero_le _, rfl, rfl, hide rfl, hide (Below.refl _ _)⟩
                case round =>
                  obtain ⟨i, X, hi, rfl, rfl, hX, hb⟩ := hrel
                  have hbs := hb.out.size
                  by_cases hin : i < n
                  · obtain ⟨t, htk⟩ : ∃ t, ss[i]? = some t := ⟨_, List.getElem?_eq_getElem (by rw [hlen.out]; exact hin)⟩
                    have hr6 := ((hr5.out.one hin htk).below hb.out).more hbs
                    rw [Nat.zero_add] at hr6
                    have hts := hsz.out t (List.mem_of_getElem? htk)
                    replace htk := hide htk
                    replace hr6 := hide hr6
                    go_wp2_with fail
                    refine (msgs20_any _ 1 (n - i) [t] _ hr6.out (by omega)).mono ?_
                    rintro e w6 ⟨A6, rfl, hm6, hb6⟩
                    have hb7 := hb.out.trans (hb6.mono hbs)
                    have hF6 : F.told.answers w6.tape := by rw [hb7.tape, hbw5.out.tape]; exact hF.out
                    replace hF6 := hide hF6
                    replace hm6 := hide hm6
                    replace hb7 := hide hb7
                    clear hb6 hb hr6
                    go_wp2_with fail
                    refine (report8_few F A6 1 1 [t] _ hF6.out hm6.out (by omega) (by intro u hu; simp at hu; subst hu; exact hts)).mono ?_
                    rintro e w7 ⟨rfl, hb8⟩
                    have hb9 := hb7.out.trans (hb8.mono hb7.out.size)
                    have hXY : X ++ ofBytes (reportOf [t]) = ofBytes (reportOf (ss.take (i + 1))) := by
                      rw [hX.out, ofBytes_append, reportOf_succ htk.out]
                      simp [reportOf]
                    have hXs : X.size + (ofBytes (reportOf [t])).size ≤ 1073741000 := by
                      rw [hX.out, ofBytes_size, ofBytes_size]
                      have := report_len5 ss hsz.out i (by omega) t htk.out
                      simpa [reportOf, textOf] using this
                    obtain ⟨Y, hY⟩ : ∃ Y, Y = ofBytes (reportOf [t]) := ⟨_, rfl⟩
                    rw [← hY] at hXY hXs ⊢
                    replace hXY := hide hXY
                    replace hb9 := hide hb9
                    clear hY hb8 hb7 hF6 hm6 hX
                    go_wp2_with fail
                    go_roundw
                    case rel => exact ⟨i + 1, X ++ Y, by omega, by go_num, rfl, hXY, hb9⟩
                    case measure => simp [intOf]; omega
                  · obtain rfl : n = i := by omega
                    obtain rfl : U = X := by
                      rw [hU.out, hX.out, List.take_of_length_le (by rw [hlen.out]; exact Nat.le_refl _)]
                    have hfin := hide (hbw5.out.trans (hb.out.mono hbw5.out.size))
                    clear hX hU hb hbw5 hr5
                    go_wp2
                    go_ret
                    exact ⟨rfl, hfin.out⟩
              · go_wp2_with fail
                refine (msgs20_any _ n n ss _ hr.out (by omega)).mono ?_
                rintro e w4 ⟨A4, rfl, hm4, hb4⟩
                have hF4 : F.told.answers w4.tape := by rw [hb4.tape, hb.out.tape]; exact hF.out
                replace hF4 := hide hF4
                replace hm4 := hide hm4
                replace hb4 := hide hb4
                go_wp2_with fail
                refine (report8_many F A4 n n ss _ hF4.out hm4.out (by omega) (by omega) hsz.out).mono ?_
                rintro e w5 ⟨rfl, hb5⟩
                have hb25 : Below wr.heap.size wr w5 := hb4.out.trans (hb5.mono hb4.out.size)
                have hbw5 : Below w.heap.size w w5 := hb.out.trans (hb25.mono hb.out.size)
                have hr5 : RdS w5 w5.heap.size (some ⟨w.heap.size, 0, none⟩) n ss := (hr.out.below hb25).more hb25.size
                obtain ⟨U, hU⟩ : ∃ U, U = ofBytes (reportOf (ss.take 5) ++ noteOf n) := ⟨_, rfl⟩
                rw [← hU]
                replace hU := hide hU
                replace hbw5 := hide hbw5
                replace hr5 := hide hr5
                clear hb25 hb5 hb4 hm4 hF4 hr hb
                go_wp2_with fail
                go_loopw [12, 13] (fun s12 s13 wr => ∃ (i : Nat) (X : ByteArray), i ≤ 5 ∧ s13 = .int .i64 i ∧ s12 = .string X ∧ Hid (X = ofBytes (reportOf (ss.take i))) ∧ Hid (Below w5.heap.size w5 wr)) (fun _ s13 _ => 5 - (intOf s13).toNat)
                case atStart => exact ⟨0, ⟨#[]⟩, Nat.zero_le _, rfl, rfl, hide rfl, hide (Below.refl _ _)⟩
                case round =>
                  obtain ⟨i, X, hi, rfl, rfl, hX, hb⟩ := hrel
                  have hbs := hb.out.size
                  by_cases hi5 : i < 5
                  · have hin : i < n := by omega
                    obtain ⟨t, htk⟩ : ∃ t, ss[i]? = some t := ⟨_, List.getElem?_eq_getElem (by rw [hlen.out]; exact hin)⟩
                    have hr6 := ((hr5.out.one hin htk).below hb.out).more hbs
                    rw [Nat.zero_add] at hr6
                    have hts := hsz.out t (List.mem_of_getElem? htk)
                    replace htk := hide htk
                    replace hr6 := hide hr6
                    go_wp2_with fail
                    refine (msgs20_any _ 1 (n - i) [t] _ hr6.out (by omega)).mono ?_
                    rintro e w6 ⟨A6, rfl, hm6, hb6⟩
                    have hb7 := hb.out.trans (hb6.mono hbs)
                    have hF6 : F.told.answers w6.tape := by rw [hb7.tape, hbw5.out.tape]; exact hF.out
                    replace hF6 := hide hF6
                    replace hm6 := hide hm6
                    replace hb7 := hide hb7
                    clear hb6 hb hr6
                    go_wp2_with fail
                    refine (report8_few F A6 1 1 [t] _ hF6.out hm6.out (by omega) (by intro u hu; simp at hu; subst hu; exact hts)).mono ?_
                    rintro e w7 ⟨rfl, hb8⟩
                    have hb9 := hb7.out.trans (hb8.mono hb7.out.size)
                    have hXY : X ++ ofBytes (reportOf [t]) = ofBytes (reportOf (ss.take (i + 1))) := by
                      rw [hX.out, ofBytes_append, reportOf_succ htk.out]
                      simp [reportOf]
                    have hXs : X.size + (ofBytes (reportOf [t])).size ≤ 1073741000 := by
                      rw [hX.out, ofBytes_size, ofBytes_size]
                      have := report_len5 ss hsz.out i (by omega) t htk.out
                      simpa [reportOf, textOf] using this
                    obtain ⟨Y, hY⟩ : ∃ Y, Y = ofBytes (reportOf [t]) := ⟨_, rfl⟩
                    rw [← hY] at hXY hXs ⊢
                    replace hXY := hide hXY
                    replace hb9 := hide hb9
                    clear hY hb8 hb7 hF6 hm6 hX
                    go_wp2_with fail
                    go_roundw
                    case rel => exact ⟨i + 1, X ++ Y, by omega, by go_num, rfl, hXY, hb9⟩
                    case measure => simp [intOf]; omega
                  · obtain rfl : i = 5 := by omega
                    have hn5 : 5 < n := by omega
                    have hXU : U = X ++ ofBytes (noteOf n) := by rw [hU.out, hX.out, ofBytes_append]
                    have hX1 : X.size ≤ 6000000 := by
                      rw [hX.out, ofBytes_size]
                      have h1 := report_le (ss.take 5) (fun t h => hsz.out t (List.mem_of_mem_take h))
                      have h2 : (ss.take 5).length ≤ 5 := by rw [List.length_take]; omega
                      have h3 := Nat.mul_le_mul_right 1048590 h2
                      omega
                    have hN1 := note_len (n := n) (by omega)
                    have hN2 := note_pos n
                    have hU1 : U.size ≤ 6000100 := by rw [hXU, ByteArray.size_append, ofBytes_size]; omega
                    have hU2 : X.size < U.size := by rw [hXU, ByteArray.size_append, ofBytes_size]; omega
                    have hU3 : ¬ U.size ≤ X.size := by omega
                    have hpre : ((U.extract 0 X.size).toList == X.toList) = true := by
                      have e : U.extract 0 X.size = X := by
                        rw [hU.out, hX.out, ofBytes_extract, ofBytes_size]
                        simp
                      rw [e]
                      simp
                    have hb2 := hide (hbw5.out.trans (hb.out.mono hbw5.out.size))
                    have hr2 := hide ((hr5.out.below hb.out).more hbs)
                    clear hX hXU hN1 hN2 hb hbw5 hr5 hbs
                    obtain ⟨wo, rfl⟩ : ∃ wo : World, wo = wr := ⟨_, rfl⟩
                    go_wp2_with (at_make; refine wpList_mk (c := n) E32 rfl _ rfl wo.heap.size n rfl rfl (by omega) (by decide) (Nat.le_refl _) ?_; intro w8 hown8 hg8 hsz8)
                    rw [made_strings] at hown8
                    have hb8 : Below wo.heap.size wo w8 := (Below.refl _ _).grown hg8 (Nat.le_refl _) (by intro k hk; cases hk)
                    have hOl := hide (others_len (alt := alt) hlen.out hn5)
                    clear hpre hU3 hU2 hU1 hX1
                    go_loopw [15] (fun s15 wr => ∃ i : Nat, i ≤ n ∧ s15 = .int .i64 i ∧ Hid (wr.ownsRow wo.heap.size 9 1 (.slice (some ⟨wo.heap.size, 0, none⟩) n n) n (sfill (others ss n alt) n i)) ∧ Hid (Below wo.heap.size wo wr)) (fun s15 _ => n - (intOf s15).toNat)
                    case atStart => exact ⟨0, Nat.zero_le _, rfl, hide (by simpa [sfill] using hown8), hide hb8⟩
                    case round =>
                      clear hown8 hb8 hg8 hsz8
                      obtain ⟨i, hi, rfl, hown, hb⟩ := hrel
                      by_cases hin : i < n
                      · have hf := hown.out.frozenAt i
                        have hu := (hown.out.cellAt i (by omega)).trans (sfill_get _ n i hOl.out hin)
                        by_cases hi5 : i < 5
                        · obtain ⟨b, off, t, hA, hB, htk, hct⟩ := hr2.out.at hin
                          simp only [Option.some.injEq, Addr.mk.injEq, and_true] at hA
                          obtain ⟨rfl, rfl⟩ := hA
                          rw [Nat.zero_add] at hct
                          have hct2 := (hb.out.cell (p := ⟨w.heap.size, i, none⟩) hB).trans hct
                          have R := (hown.out.stored i (.string t)).1
                          rw [sfill_set _ n i hOl.out ((others_low hlen.out hn5 hi5).trans htk)] at R
                          have hb6 := hb.out.setCell (p := ⟨wo.heap.size, i, none⟩) (Nat.le_refl _) (.string t)
                          replace R := hide R
                          replace hb6 := hide hb6
                          clear hown hb htk hct
                          go_wp2
                          go_roundw
                          case rel => exact ⟨i + 1, by omega, by go_num, R, hb6⟩
                          case measure => simp [intOf]; omega
                        · have R := (hown.out.stored i (.string alt)).1
                          rw [sfill_set _ n i hOl.out (others_high hlen.out hn5 (by omega) hin)] at R
                          have hb6 := hb.out.setCell (p := ⟨wo.heap.size, i, none⟩) (Nat.le_refl _) (.string alt)
                          replace R := hide R
                          replace hb6 := hide hb6
                          clear hown hb
                          go_wp2
                          go_roundw
                          case rel => exact ⟨i + 1, by omega, by go_num, R, hb6⟩
                          case measure => simp [intOf]; omega
                      · obtain rfl : n = i := by omega
                        have hfin := hown.out
                        rw [sfill_full _ n hOl.out] at hfin
                        have hr9 := hide (RdS.of_own hfin)
                        have hb9 := hide (hb2.out.trans (hb.out.mono hb2.out.size))
                        have hOs : ∀ t ∈ others ss n alt, t.size ≤ 1048576 := fun t h => by
                          rcases others_mem h with h | rfl
                          · exact hsz.out t h
                          · exact ha
                        have hUe : U = ofBytes (reportOf ((others ss n alt).take 5) ++ noteOf n) := by rw [others_take hlen.out hn5]; exact hU.out
                        replace hOs := hide hOs
                        replace hUe := hide hUe
                        clear hfin hown hb hb2 hr2 hU
                        go_wp2_with fail
                        refine (msgs20_any _ n n (others ss n alt) _ hr9.out (by omega)).mono ?_
                        rintro e w10 ⟨A10, rfl, hm10, hb10⟩
                        have hb11 := hb9.out.trans (hb10.mono hb9.out.size)
                        have hF10 : F.told.answers w10.tape := by rw [hb11.tape]; exact hF.out
                        replace hF10 := hide hF10
                        replace hm10 := hide hm10
                        replace hb11 := hide hb11
                        clear hb10 hb9 hr9
                        go_wp2_with fail
                        refine (report8_many F A10 n n (others ss n alt) _ hF10.out hm10.out hn5 (by omega) hOs.out).mono ?_
                        rintro e w12 ⟨rfl, hb12⟩
                        rw [← hUe.out]
                        have hb13 := hide (hb11.out.trans (hb12.mono hb11.out.size))
                        clear hb12 hb11 hm10 hF10 hUe
                        go_wp2
                        go_ret
                        exact ⟨rfl, hb13.out⟩
  · go_wp2
    go_ret
    exact ⟨rfl, Below.refl _ _⟩
end Go.Proofs.YtcmajdimggdkoaaFmt
