/-
  The walk of the law: breaking a joiner splits only when a part holds the prefix. Conditions: none.
-/
import Derived.Test.YtpfnonkcjlfibaaLSame
import Derived.Test.YtpfnonkcjlfibaaLAny
import Derived.Test.YtpfnonkcjlfibaaLHelpB
namespace Go.Proofs.Ytpfnonkcjlfibaa
open Go.RowKit

def AnyIs (qs : List Part) (bs : List UInt8) (k : Nat) (v : Value) : Prop := ∃ b, v = .bool b ∧ Hid (b = anyP (qs.take k) bs)

set_option maxHeartbeats 16000000 in
set_option maxRecDepth 100000 in
theorem law38_any (p : ByteArray) (nf nc : Nat) (A : Option Addr) (n c : Nat) (qs : List Part) (w : World) (hr : RdP w w.heap.size A n qs) (hp : p.size ≤ maxLen) (hn : n ≤ maxLen) (hp0 : 0 < p.size) (hnf : nf ≤ 65536) (hnc : nc ≤ 65536) :
    Calls Try.prog 4 #[.string p, .int .i64 nf, .int .i64 nc, .slice A n c] w fun e w' => e = .returned (.bool true) ∧ Below w.heap.size w w' := by
  go_enter Try.func4, Try.ntmps4
  go_wp2_with fail
  refine (bytesP19_any p nf nc A n c qs w hr hp hn).mono ?_
  rintro e w' ⟨t, rfl, hsz, rfl⟩
  cases t with
  | false =>
    go_wp2
    go_ret
    exact ⟨rfl, Below.refl _ _⟩
  | true =>
    replace hsz := hsz rfl
    go_wp2_with fail
    refine (partsBytes_any A n c p.size qs w hr hsz).mono ?_
    rintro e w' ⟨r, rfl, rfl⟩
    by_cases hr1 : 1048576 < r
    · go_wp2
      go_ret
      exact ⟨rfl, Below.refl _ _⟩
    · go_wp2_with fail
      refine (cloneParts_any A n c qs w hr (by omega)).mono ?_
      rintro e w1 ⟨A1, c1, qs1, rfl, hP1, hT1, hb1⟩
      clear hr
      rw [← hT1] at hsz
      clear hT1 qs
      go_wp2_with (with_reducible refine wpList_bytes rfl (.tmp 46) 9 42 rfl p rfl Try.underlying9 Try.underlying42 Try.underlying5 ?_; intro cp w2 hcp hrp hb2 hsz2)
      have hP2 := hP1.below hb2
      have hb02 : Below w.heap.size w w2 := hb1.trans (hb2.mono hb1.size)
      generalize w1.heap.size = B1 at *
      refine (newLinker_any p _ nf nc w2 hnf hnc).mono ?_
      rintro e w3 ⟨K, rfl, hL, hb3⟩
      have hP3 := hP2.below hb3
      have hrp3 : Rd w3 w3.heap.size (some ⟨B1, 0, none⟩) p.size p.data.toList := (hrp.rd.below hb3).more hb3.size
      have hb03 : Below w.heap.size w w3 := hb02.trans (hb3.mono hb02.size)
      clear hP1 hP2 hb1 hb2 hb3 hb02 hrp hsz2
      go_wp2_with fail
      refine (joinerOf_any A1 n c1 qs1 w3 hP3 (by omega)).mono ?_
      rintro e w4 ⟨sv, tv, lb, TS, B0, rfl, hJ, _, hB0, hit, hb4⟩
      have hP4 := hP3.below hb4
      have hrp4 := (hrp3.below hb4).more hb4.size
      have hL4 : Lk w4 w4.heap.size K p nf nc := (hL.below hb4).more hb4.size
      have hb04 : Below w.heap.size w w4 := hb03.trans (hb4.mono hb03.size)
      have htk : qs1.take n = qs1 := List.take_of_length_le (by rw [hP4.1.1]; exact Nat.le_refl _)
      have htile : JM.Tile (catP qs1) (piecesT TS) := by
        have := hit.tile
        rwa [htk] at this
      have hanyE : anyT TS p.data.toList = anyP qs1 p.data.toList := by
        have := hit.any p.data.toList
        rwa [htk] at this
      have hTS := hit.len
      have hsm := hit.small (X := 1048576) (by omega) (fun q hq => (hP4.1.2.2 q hq).1) hJ.items
      have hcl : (catP qs1).length + n + p.size ≤ 1048576 := by have : (catP qs1).length = totP qs1 := catP_length hP4.1.2.2; omega
      replace htk := hide htk
      clear hP3 hrp3 hb4 hL hb03
      go_wp2_with fail
      refine (breakJ_any K p nf nc sv tv lb TS (catP qs1) w4 hL4 hJ hB0 htile (by omega) (by omega) (fun t ht => by have := hsm t ht; omega) (by omega) hnf hnc).mono ?_
      rintro e w5 (⟨hany, rfl, hb5⟩ | ⟨hany, v, ps, rfl, hown, hpc, hlen5, hbrk, hb5⟩)
      · have hJ5 := hJ.below hb5
        have hP5 := hP4.below hb5
        have hrp5 := (hrp4.below hb5).more hb5.size
        have hL5 : Lk w5 w5.heap.size K p nf nc := (hL4.below hb5).more hb5.size
        have hb05 : Below w.heap.size w w5 := hb04.trans (hb5.mono hb04.size)
        rw [hanyE] at hany
        replace hany := hide hany
        obtain ⟨A5, q5, rfl, _, _⟩ := own_shape hJ.sOwn
        obtain ⟨A6, q6, rfl, _, _⟩ := own_shape hJ.tOwn
        have hJ5' : JV w5 B0 (.slice A5 0 q5) (.slice A6 n q6) [] TS := by rw [← hTS]; exact hJ5
        clear hP4 hrp4 hL4 hb04 hJ hJ5 hb5 hit hsm hanyE
        unfold outJ
        go_wp2_with fail
        obtain ⟨hR, hb6, hs6⟩ := box_out w5 (.slice A5 0 q5) (.slice A6 n q6) (catP qs1).length lb
        generalize w5.alloc (.cells #[.slice none 0 0, .slice A5 0 q5, .slice A6 n q6, .int .u32 (catP qs1).length, .int .u8 lb] 35) = w6 at *
        have hP6 := hP5.below hb6
        have hrp6 := (hrp5.below hb6).more hb6.size
        have hL6 : Lk w6 w6.heap.size K p nf nc := (hL5.below hb6).more hb6.size
        have hb06 : Below w.heap.size w w6 := hb05.trans (hb6.mono hb05.size)
        have hJ6 := hJ5'.below hb6
        clear hP5 hrp5 hL5 hb6 hb05 hs6
        refine (concat_any A1 n c1 qs1 w6 hP6.1 (by omega)).mono ?_
        rintro e w7 ⟨v7, rfl, hown7, hb7⟩
        obtain ⟨A7, c7, rfl, hc7, hr7⟩ := own_rd hown7
        have hP7 := hP6.below hb7
        have hrp7 := (hrp6.below hb7).more hb7.size
        have hL7 : Lk w7 w7.heap.size K p nf nc := (hL6.below hb7).more hb7.size
        have hb07 : Below w.heap.size w w7 := hb06.trans (hb7.mono hb06.size)
        have hJ7 := hJ6.below hb7
        have hR7 := hR.below hb7 hR.lt
        clear hJ6 hR hJ5'
        clear hP6 hrp6 hL6 hb7 hb06 hown7
        go_wp2
        go_loopw [13, 14] (fun v i wr => ∃ k q : Nat, k ≤ n ∧ i = .int .i64 k ∧ AnyIs qs1 p.data.toList k v ∧ wr = w7.drewN q) (fun _ i _ => n - (intOf i).toNat)
        case atStart => exact ⟨0, 0, by omega, rfl, ⟨false, rfl, rfl⟩, rfl⟩
        case round =>
          obtain ⟨k, q, hk, rfl, ⟨b, rfl, hwb⟩, rfl⟩ := hrel
          by_cases hlt : k < n
          · obtain ⟨ba, off, x, rfl, hB, hq, hc, hr, hqc, hqm⟩ := hP7.1.at hlt
            have hcd : (w7.drewN q).cell? ⟨ba, off + k, none⟩ = some (.slice x.A x.n x.c) := hc
            have hst := hide (anyP_succ hq p.data.toList)
            have hxn : x.n ≤ 1048576 := by
              have := totP_mem (List.mem_of_getElem? hq)
              omega
            clear hq
            go_wp2_with fail
            refine (first_any x.A (some ⟨B1, 0, none⟩) x.n x.c p.size cp x.zs p.data.toList (w7.drewN q) hr (hrp7.drewN q) (by omega) (by omega)).mono ?_
            rintro e wb ⟨r2, q2, rfl, hfound, rfl⟩
            rcases hfound with ⟨b2, rfl, hf⟩ | ⟨rfl, hf⟩
            · have hnx : Hid (true = anyP (qs1.take (k + 1)) p.data.toList) := hide (by rw [hst.out, LM.first_yes hf, Bool.or_true])
              clear hf
              go_wp2
              go_roundw
              case rel => exact ⟨k + 1, q + q2, by omega, by go_num, ⟨true, rfl, hnx⟩, rfl⟩
              case measure => simp [intOf]; omega
            · have hnx : Hid (b = anyP (qs1.take (k + 1)) p.data.toList) := hide (by rw [hst.out, LM.first_no hf, Bool.or_false]; exact hwb.out)
              clear hf
              go_wp2
              go_roundw
              case rel => exact ⟨k + 1, q + q2, by omega, by go_num, ⟨b, rfl, hnx⟩, rfl⟩
              case measure => simp [intOf]; omega
          · obtain rfl : k = n := by omega
            obtain rfl : b = false := by rw [hwb.out, htk.out]; exact hany.out
            have hb8 : Below w.heap.size w (w7.drewN q) := below_drewN hb07 q
            have hJ8 : JV (w7.drewN q) B0 (.slice A5 0 q5) (.slice A6 k q6) [] TS := hJ7.below (below_drewN (Below.refl _ _) q)
            have hR8 : Blk (w7.drewN q) w5.heap.size 35 #[.slice none 0 0, .slice A5 0 q5, .slice A6 k q6, .int .u32 (catP qs1).length, .int .u8 lb] := hR7
            have hr8 : Rd (w7.drewN q) w7.heap.size A7 (catP qs1).length (catP qs1) := hr7.drewN q
            obtain ⟨w8, hw8⟩ : ∃ w8, w7.drewN q = w8 := ⟨_, rfl⟩
            have hsz8 : w8.heap.size = w7.heap.size := by rw [← hw8]; rfl
            rw [← hsz8] at hr8
            rw [hw8] at hJ8 hR8 hr8 hb8 ⊢
            clear hw8 hsz8
            obtain ⟨⟨d0, d1, d2, d3, d4⟩, _⟩ := r_cells hR8
            go_wp2_with fail
            refine (isPiecesJ_any (.slice A5 0 q5) (.slice A6 k q6) (catP qs1).length lb w8).mono ?_
            rintro e w9 ⟨rfl, hb9⟩
            clear d0 d1 d2 d3 d4
            obtain ⟨⟨d0, d1, d2, d3, d4⟩, _⟩ := r_cells (hR8.below hb9 hR8.lt)
            go_wp2_with fail
            refine (joinerDone_any (.slice A5 0 q5) (.slice A6 k q6) lb TS (catP qs1) w9 (hJ8.below hb9) htile (by omega) (by omega)).mono ?_
            rintro e w10 ⟨A10, n10, c10, rfl, hr10, hnc10, hb10⟩
            have hb910 := hb9.trans (hb10.mono hb9.size)
            have hr8' := (hr8.below hb910).more hb910.size
            have hn10 := hr10.len
            have hC := equal_any A10 A7 n10 c10 (catP qs1).length c7 (catP qs1) (catP qs1) w10 hr10 hr8' (by omega) (by omega)
            rw [show decide (catP qs1 = catP qs1) = true from decide_eq_true rfl] at hC
            replace hn10 := hide hn10
            have hbe : Below w.heap.size w w10 := hb8.trans (hb910.mono hb8.size)
            go_wp2_with fail
            refine hC.mono ?_
            clear hC
            rintro e w11 ⟨rfl, q11, rfl⟩
            go_wp2
            go_ret
            exact ⟨rfl, below_drewN hbe q11⟩
      · have hH5 : Holds w5 w5.heap.size v ps := holds_of hown (fun q hq => ⟨(hpc q hq).1.rd, (hpc q hq).2⟩) (Nat.le_refl _) (brk_pos hbrk)
        obtain ⟨g1, cap1, rfl, _, hg1, _, _⟩ := id hH5
        have hP5 := hP4.below hb5
        have hrp5 := (hrp4.below hb5).more hb5.size
        have hL5 : Lk w5 w5.heap.size K p nf nc := (hL4.below hb5).more hb5.size
        have hb05 : Below w.heap.size w w5 := hb04.trans (hb5.mono hb04.size)
        rw [hanyE] at hany
        replace hany := hide hany
        clear hP4 hrp4 hL4 hb04 hJ hb5 hit hsm hanyE hown hpc htile
        go_wp2_with fail
        obtain ⟨hR, hb6, hs6⟩ := box_out2 w5 (.slice (some ⟨g1, 0, none⟩) ps.length cap1)
        generalize w5.alloc (.cells #[.slice (some ⟨g1, 0, none⟩) ps.length cap1, .slice none 0 0, .slice none 0 0, .int .u32 0, .int .u8 0] 35) = w6 at *
        have hP6 := hP5.below hb6
        have hrp6 := (hrp5.below hb6).more hb6.size
        have hL6 : Lk w6 w6.heap.size K p nf nc := (hL5.below hb6).more hb6.size
        have hb06 : Below w.heap.size w w6 := hb05.trans (hb6.mono hb05.size)
        have hH6 := (hH5.below hb6).more hb6.size
        clear hP5 hrp5 hL5 hb6 hb05 hs6
        refine (concat_any A1 n c1 qs1 w6 hP6.1 (by omega)).mono ?_
        rintro e w7 ⟨v7, rfl, hown7, hb7⟩
        obtain ⟨A7, c7, rfl, hc7, hr7⟩ := own_rd hown7
        have hP7 := hP6.below hb7
        have hrp7 := (hrp6.below hb7).more hb7.size
        have hL7 : Lk w7 w7.heap.size K p nf nc := (hL6.below hb7).more hb7.size
        have hb07 : Below w.heap.size w w7 := hb06.trans (hb7.mono hb06.size)
        have hH7 := (hH6.below hb7).more hb7.size
        have hR7 := hR.below hb7 hR.lt
        clear hH6 hR hH5
        clear hP6 hrp6 hL6 hb7 hb06 hown7
        go_wp2
        go_loopw [13, 14] (fun v i wr => ∃ k q : Nat, k ≤ n ∧ i = .int .i64 k ∧ AnyIs qs1 p.data.toList k v ∧ wr = w7.drewN q) (fun _ i _ => n - (intOf i).toNat)
        case atStart => exact ⟨0, 0, by omega, rfl, ⟨false, rfl, rfl⟩, rfl⟩
        case round =>
          obtain ⟨k, q, hk, rfl, ⟨b, rfl, hwb⟩, rfl⟩ := hrel
          by_cases hlt : k < n
          · obtain ⟨ba, off, x, rfl, hB, hq, hc, hr, hqc, hqm⟩ := hP7.1.at hlt
            have hcd : (w7.drewN q).cell? ⟨ba, off + k, none⟩ = some (.slice x.A x.n x.c) := hc
            have hst := hide (anyP_succ hq p.data.toList)
            have hxn : x.n ≤ 1048576 := by
              have := totP_mem (List.mem_of_getElem? hq)
              omega
            clear hq
            go_wp2_with fail
            refine (first_any x.A (some ⟨B1, 0, none⟩) x.n x.c p.size cp x.zs p.data.toList (w7.drewN q) hr (hrp7.drewN q) (by omega) (by omega)).mono ?_
            rintro e wb ⟨r2, q2, rfl, hfound, rfl⟩
            rcases hfound with ⟨b2, rfl, hf⟩ | ⟨rfl, hf⟩
            · have hnx : Hid (true = anyP (qs1.take (k + 1)) p.data.toList) := hide (by rw [hst.out, LM.first_yes hf, Bool.or_true])
              clear hf
              go_wp2
              go_roundw
              case rel => exact ⟨k + 1, q + q2, by omega, by go_num, ⟨true, rfl, hnx⟩, rfl⟩
              case measure => simp [intOf]; omega
            · have hnx : Hid (b = anyP (qs1.take (k + 1)) p.data.toList) := hide (by rw [hst.out, LM.first_no hf, Bool.or_false]; exact hwb.out)
              clear hf
              go_wp2
              go_roundw
              case rel => exact ⟨k + 1, q + q2, by omega, by go_num, ⟨b, rfl, hnx⟩, rfl⟩
              case measure => simp [intOf]; omega
          · obtain rfl : k = n := by omega
            obtain rfl : b = true := by rw [hwb.out, htk.out]; exact hany.out
            have hb8 : Below w.heap.size w (w7.drewN q) := below_drewN hb07 q
            have hH8 : Holds (w7.drewN q) (w7.drewN q).heap.size (.slice (some ⟨g1, 0, none⟩) ps.length cap1) ps := hH7.below (below_drewN (Below.refl _ _) q)
            have hR8 : Blk (w7.drewN q) w5.heap.size 35 #[.slice (some ⟨g1, 0, none⟩) ps.length cap1, .slice none 0 0, .slice none 0 0, .int .u32 0, .int .u8 0] := hR7
            have hr8 : Rd (w7.drewN q) (w7.drewN q).heap.size A7 (catP qs1).length (catP qs1) := hr7.drewN q
            have hL8 : Lk (w7.drewN q) (w7.drewN q).heap.size K p nf nc := hL7.below (below_drewN (Below.refl _ _) q)
            obtain ⟨w8, hw8⟩ : ∃ w8, w7.drewN q = w8 := ⟨_, rfl⟩
            rw [hw8] at hH8 hR8 hr8 hb8 hL8 ⊢
            clear hw8
            go_wp2_with fail
            refine (breakOut_any K A7 (catP qs1).length c7 (catP qs1) p nf nc w8 hL8 hr8 hc7 (by omega) (by omega) hnf hnc).mono ?_
            rintro e w9 ⟨v9, ps9, rfl, hH9, hlen9, hbrk9, hb9⟩
            have hsame : pks ps = pks ps9 := hbrk.det hbrk9
            obtain ⟨g2, cap2, rfl, _, hg2, _, _⟩ := id hH9
            have hH8' := (hH8.below hb9).more hb9.size
            have hR9 := hR8.below hb9 hR8.lt
            have hb09 : Below w.heap.size w w9 := hb8.trans (hb9.mono hb8.size)
            have hlens : ∀ q ∈ ps, q.zs.length ≤ (catP qs1).length := fun q hq => hbrk.len (q.zs, q.idx, q.kind) (List.mem_map.2 ⟨q, hq, rfl⟩)
            replace hlens := hide hlens
            replace hsame := hide hsame
            clear hbrk hbrk9 hH8 hR8 hb9 hb8 hr8 hL8
            go_upto_region 23 with (fail)
            obtain ⟨hR2, hb10, hs10⟩ := box_out2 w9 (.slice (some ⟨g2, 0, none⟩) ps9.length cap2)
            generalize w9.alloc (.cells #[.slice (some ⟨g2, 0, none⟩) ps9.length cap2, .slice none 0 0, .slice none 0 0, .int .u32 0, .int .u8 0] 35) = w10 at *
            have hH10 := (hH8'.below hb10).more hb10.size
            have hH10' := (hH9.below hb10).more hb10.size
            obtain ⟨⟨d0, d1, d2, d3, d4⟩, _⟩ := out_cells (hR9.below hb10 hR9.lt)
            obtain ⟨⟨e0, e1, e2, e3, e4⟩, _⟩ := out_cells hR2
            have hb010 : Below w.heap.size w w10 := hb09.trans (hb10.mono hb09.size)
            clear hH8' hH9 hR9 hR2 hb10 hb09 hs10
            go_wp2_with fail
            refine (same_any _ _ ps ps9 w10 (catP qs1).length hH10 hH10' hsame.out (by omega) hlens.out (by omega)).mono ?_
            rintro e w11 ⟨rfl, hb11⟩
            go_wp2
            go_ret
            exact ⟨rfl, hb010.trans (hb11.mono hb010.size)⟩
end Go.Proofs.Ytpfnonkcjlfibaa
