/-
  The walk of the law: breaking a joiner loses no text. Conditions: none.
-/
import Derived.Test.YtpfnonkcjlfibaaLRend
namespace Go.Proofs.Ytpfnonkcjlfibaa
open Go.RowKit

set_option maxHeartbeats 16000000 in
set_option maxRecDepth 100000 in
theorem law28_any (p : ByteArray) (nf nc : Nat) (A : Option Addr) (n c : Nat) (qs : List Part) (w : World) (hr : RdP w w.heap.size A n qs) (hp : p.size ≤ maxLen) (hn : n ≤ maxLen) (hnf : nf ≤ 65536) (hnc : nc ≤ 65536) :
    Calls Try.prog 3 #[.string p, .int .i64 nf, .int .i64 nc, .slice A n c] w fun e w' => e = .returned (.bool true) ∧ Below w.heap.size w w' := by
  go_enter Try.func3, Try.ntmps3
  go_wp2_with fail
  refine (bytesP7_any p nf nc A n c qs w hr hp hn).mono ?_
  rintro e w' ⟨t, rfl, hsz, rfl⟩
  cases t with
  | false =>
    go_wp2
    go_ret
    exact ⟨rfl, Below.refl _ _⟩
  | true =>
    replace hsz := hsz rfl
    go_wp2_with fail
    refine (partsBytes_any A n c p.size qs w hr hsz).mono ?_
    rintro e w' ⟨r, rfl, rfl⟩
    by_cases hr1 : 1048576 < r
    · go_wp2
      go_ret
      exact ⟨rfl, Below.refl _ _⟩
    · go_wp2_with fail
      refine (cloneParts_any A n c qs w hr (by omega)).mono ?_
      rintro e w1 ⟨A1, c1, qs1, rfl, hP1, hT1, hb1⟩
      clear hr
      rw [← hT1] at hsz
      clear hT1 qs
      go_wp2_with fail
      refine (newLinker_any p _ nf nc w1 hnf hnc).mono ?_
      rintro e w2 ⟨K, rfl, hL, hb2⟩
      have hP2 := hP1.below hb2
      have hb02 : Below w.heap.size w w2 := hb1.trans (hb2.mono hb1.size)
      go_wp2_with fail
      refine (joinerOf_any A1 n c1 qs1 w2 hP2 (by omega)).mono ?_
      rintro e w3 ⟨sv, tv, lb, TS, B0, rfl, hJ, _, hB0, hit, hb3⟩
      have hP3 := hP2.below hb3
      have hL3 : Lk w3 w3.heap.size K p nf nc := (hL.below hb3).more hb3.size
      have hb03 : Below w.heap.size w w3 := hb02.trans (hb3.mono hb02.size)
      have htile : JM.Tile (catP qs1) (piecesT TS) := by
        have := hit.tile
        rwa [List.take_of_length_le (by rw [hP3.1.1]; exact Nat.le_refl _)] at this
      have hTS := hit.len
      have hsm := hit.small (X := 1048576) (by omega) (fun q hq => (hP3.1.2.2 q hq).1) hJ.items
      have hcl : (catP qs1).length + n + p.size ≤ 1048576 := by have : (catP qs1).length = totP qs1 := catP_length hP3.1.2.2; omega
      clear hP1 hP2 hb1 hb2 hb3 hL hb02
      go_wp2_with fail
      refine (breakJ_any K p nf nc sv tv lb TS (catP qs1) w3 hL3 hJ hB0 htile (by omega) (by omega) (fun t ht => by have := hsm t ht; omega) (by omega) hnf hnc).mono ?_
      rintro e w4 (⟨hany, rfl, hb4⟩ | ⟨hany, v, ps, rfl, hown, hpc, hlen4, hbrk, hb4⟩)
      · have hP4 := hP3.below hb4
        have hJ4 := hJ.below hb4
        have hb04 : Below w.heap.size w w4 := hb03.trans (hb4.mono hb03.size)
        obtain ⟨A5, q5, rfl, _, _⟩ := own_shape hJ.sOwn
        obtain ⟨A6, q6, rfl, _, _⟩ := own_shape hJ.tOwn
        clear hP3 hJ hL3 hb4 hb03 hany hit hsm
        have hJ4' : JV w4 B0 (.slice A5 0 q5) (.slice A6 n q6) [] TS := by rw [← hTS]; exact hJ4
        clear hJ4
        unfold outJ
        go_wp2_with fail
        obtain ⟨hR, hb5, hs5⟩ := box_out w4 (.slice A5 0 q5) (.slice A6 n q6) (catP qs1).length lb
        generalize w4.alloc (.cells #[.slice none 0 0, .slice A5 0 q5, .slice A6 n q6, .int .u32 (catP qs1).length, .int .u8 lb] 35) = w5 at *
        have hJ5 := hJ4'.below hb5
        have hP5 := hP4.below hb5
        have hb05 : Below w.heap.size w w5 := hb04.trans (hb5.mono hb04.size)
        clear hJ4' hP4 hb5 hb04
        refine (isPiecesJ_any (.slice A5 0 q5) (.slice A6 n q6) (catP qs1).length lb w5).mono ?_
        rintro e w6 ⟨rfl, hb6⟩
        obtain ⟨⟨c0, c1', c2, c3, c4⟩, _⟩ := r_cells (hR.below hb6 hR.lt)
        have hJ6 := hJ5.below hb6
        have hP6 := hP5.below hb6
        have hb06 : Below w.heap.size w w6 := hb05.trans (hb6.mono hb05.size)
        clear hJ5 hP5 hb05 hb6 hR hs5
        go_wp2_with (with_reducible refine wpList_bytes rfl (.tmp 69) 9 42 rfl p rfl Try.underlying9 Try.underlying42 Try.underlying5 ?_; intro cp w7 hcp hrp hb7 hsz7)
        have hJ7 := hJ6.below hb7
        have hP7 := hP6.below hb7
        have hb07 : Below w.heap.size w w7 := hb06.trans (hb7.mono hb06.size)
        clear hJ6 hP6 hb06 hb7 hsz7
        refine (renderJ_any (.slice A5 0 q5) (.slice A6 n q6) lb TS (catP qs1) _ w7 hJ7 htile (by omega) (by omega)).mono ?_
        rintro e w8 ⟨A8, n8, c8, rfl, hr8, hnc8, hb8⟩
        have hP8 := hP7.below hb8
        have hb08 : Below w.heap.size w w8 := hb07.trans (hb8.mono hb07.size)
        clear hJ7 hP7 hb07 hb8
        go_wp2_with fail
        refine (concat_any A1 n c1 qs1 w8 hP8.1 (by omega)).mono ?_
        rintro e w9 ⟨v9, rfl, hown9, hb9⟩
        obtain ⟨A9, c9, rfl, hc9, hr9⟩ := own_rd hown9
        have hr8' := (hr8.below hb9).more hb9.size
        have hb09 : Below w.heap.size w w9 := hb08.trans (hb9.mono hb08.size)
        have hn8 := hr8.len
        have hC := equal_any A8 A9 n8 c8 (catP qs1).length c9 (catP qs1) (catP qs1) w9 hr8' hr9 (by omega) (by omega)
        rw [show decide (catP qs1 = catP qs1) = true from decide_eq_true rfl] at hC
        replace hn8 := hide hn8
        go_wp2_with fail
        refine hC.mono ?_
        clear hC
        rintro e w10 ⟨rfl, q10, rfl⟩
        go_wp2
        go_ret
        exact ⟨rfl, below_drewN hb09 q10⟩
      · have hP4 := hP3.below hb4
        have hH4 : Holds w4 w4.heap.size v ps := holds_of hown (fun q hq => ⟨(hpc q hq).1.rd, (hpc q hq).2⟩) (Nat.le_refl _) (brk_pos hbrk)
        have hb04 : Below w.heap.size w w4 := hb03.trans (hb4.mono hb03.size)
        have hps0 := brk_pos hbrk
        obtain ⟨g1, cap1, rfl, _, hg1, _, _⟩ := id hH4
        clear hP3 hJ hL3 hb4 hb03 hany hit hsm hown hpc htile
        go_wp2_with fail
        obtain ⟨hR, hb5, hs5⟩ := box_outV w4 (.slice (some ⟨g1, 0, none⟩) ps.length cap1)
        generalize w4.alloc (.cells #[.slice (some ⟨g1, 0, none⟩) ps.length cap1, .slice none 0 0, .slice none 0 0, .int .u32 0, .int .u8 0] 35) = w5 at *
        have hH5 := (hH4.below hb5).more hb5.size
        have hP5 := hP4.below hb5
        have hb05 : Below w.heap.size w w5 := hb04.trans (hb5.mono hb04.size)
        generalize w4.heap.size = R1 at *
        clear hH4 hP4 hb5 hb04 hs5
        refine (isPieces_any hH5).mono ?_
        rintro e w6 ⟨rfl, hb6⟩
        obtain ⟨⟨d0, d1, d2, d3, d4⟩, _⟩ := out_cells (hR.below hb6 hR.lt)
        go_wp2_with fail
        refine (count_any ((hH5.below hb6).more hb6.size)).mono ?_
        rintro e w7 ⟨rfl, hb7⟩
        have hb57 := hb6.trans (hb7.mono hb6.size)
        have hH7 := (hH5.below hb57).more hb57.size
        have hP7 := hP5.below hb57
        have hR7 := hR.below hb57 hR.lt
        have hb07 : Below w.heap.size w w7 := hb05.trans (hb57.mono hb05.size)
        have heach := hide hbrk.each
        replace hbrk := hide hbrk
        clear hH5 hP5 hR hb57 hb6 hb7 hb05 d0 d1 d2 d3 d4
        go_wp2
        go_loopw [12] (fun i wr => ∃ k : Nat, k + 1 ≤ ps.length ∧ i = .int .i64 k ∧ Below w7.heap.size w7 wr) (fun i _ => ps.length - (intOf i).toNat)
        case atStart => exact ⟨0, by omega, rfl, Below.refl _ _⟩
        case round =>
          obtain ⟨k, hk, rfl, hb⟩ := hrel
          have hbs := hb.size
          obtain ⟨⟨d0, d1, d2, d3, d4⟩, _⟩ := out_cells (hR7.below hb hR7.lt)
          by_cases hkl : k + 1 < ps.length
          · obtain ⟨x, hx⟩ : ∃ x, ps[k]? = some x := ⟨_, List.getElem?_eq_getElem (by omega)⟩
            obtain ⟨_, hE2⟩ := heach.out k _ (pks_get hx)
            rw [pks_length] at hE2
            obtain ⟨hkd, _⟩ := hE2 hkl
            simp only at hkd
            clear hE2
            go_wp2_with fail
            refine (kind_any ((hH7.below hb).more hbs) hx).mono ?_
            rintro e wa ⟨rfl, hba⟩
            clear hx
            rcases hkd with hkd | hkd
            · go_wp2
              go_roundw
              case rel => exact ⟨k + 1, by omega, by go_num, hb.trans (hba.mono hbs)⟩
              case measure => simp [intOf]; omega
            · go_wp2
              go_roundw
              case rel => exact ⟨k + 1, by omega, by go_num, hb.trans (hba.mono hbs)⟩
              case measure => simp [intOf]; omega
          · obtain hkl : k + 1 = ps.length := by omega
            have hHr := (hH7.below hb).more hbs
            have hPr := (hP7.1.below hb).more hbs
            have hbr : Below w.heap.size w wr := hb07.trans (hb.mono hb07.size)
            clear hb
            go_wp2_with (with_reducible refine wpList_bytes rfl (.tmp 69) 9 42 rfl p rfl Try.underlying9 Try.underlying42 Try.underlying5 ?_; intro cp w8 hcp hrp hb8 hsz8)
            have hH8 := (hHr.below hb8).more hb8.size
            have hP8 := (hPr.below hb8).more hb8.size
            have hb08 : Below w.heap.size w w8 := hbr.trans (hb8.mono hbr.size)
            clear hHr hPr hbr hb8
            refine (renderP_any p nf nc _ ps (catP qs1) _ cp w8 hH8 hbrk.out hrp.rd (by omega) hlen4).mono ?_
            rintro e w9 ⟨A9, n9, c9, rfl, hr9, hnc9, hb9⟩
            have hP9 := (hP8.below hb9).more hb9.size
            have hb09 : Below w.heap.size w w9 := hb08.trans (hb9.mono hb08.size)
            go_wp2_with fail
            refine (concat_any A1 n c1 qs1 w9 hP9 (by omega)).mono ?_
            rintro e w10 ⟨v9, rfl, hown9, hb10⟩
            obtain ⟨A10, c10, rfl, hc10, hr10⟩ := own_rd hown9
            have hr9' := (hr9.below hb10).more hb10.size
            have hb010 : Below w.heap.size w w10 := hb09.trans (hb10.mono hb09.size)
            have hn9 := hr9.len
            have hC := equal_any A9 A10 n9 c9 (catP qs1).length c10 (catP qs1) (catP qs1) w10 hr9' hr10 (by omega) (by omega)
            rw [show decide (catP qs1 = catP qs1) = true from decide_eq_true rfl] at hC
            replace hn9 := hide hn9
            go_wp2_with fail
            refine hC.mono ?_
            clear hC
            rintro e w11 ⟨rfl, q11, rfl⟩
            go_wp2
            go_ret
            exact ⟨rfl, below_drewN hb010 q11⟩
end Go.Proofs.Ytpfnonkcjlfibaa
