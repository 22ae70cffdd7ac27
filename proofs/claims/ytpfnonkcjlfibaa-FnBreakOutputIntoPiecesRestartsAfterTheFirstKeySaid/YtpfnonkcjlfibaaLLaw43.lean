/-
  The walk of the law: breaking restarts behind the first key. Conditions: none.
-/
import Derived.Test.YtpfnonkcjlfibaaLHelpA
import Derived.Test.YtpfnonkcjlfibaaLHelpC
import Derived.Deep.RegionWith
namespace Go.Proofs.Ytpfnonkcjlfibaa
open Go.RowKit

theorem out_box (w : World) (v : Value) : Blk (w.alloc (.cells #[v, .slice none 0 0, .slice none 0 0, .int .u32 0, .int .u8 0] 35)) w.heap.size 35 #[v, .slice none 0 0, .slice none 0 0, .int .u32 0, .int .u8 0] ∧
    Below w.heap.size w (w.alloc (.cells #[v, .slice none 0 0, .slice none 0 0, .int .u32 0, .int .u8 0] 35)) ∧ (w.alloc (.cells #[v, .slice none 0 0, .slice none 0 0, .int .u32 0, .int .u8 0] 35)).heap.size = w.heap.size + 1 :=
  ⟨Blk.new _ _ _, (Below.refl _ _).alloc (Nat.le_refl _) _, by simp⟩

set_option maxHeartbeats 16000000 in
set_option maxRecDepth 100000 in
theorem law43_any (p : ByteArray) (nf nc : Nat) (A : Option Addr) (n c : Nat) (zs : List UInt8) (w : World) (hr : Rd w w.heap.size A n zs) (hc : n ≤ c) (hsz : p.size + n ≤ 1048576) (hnf : nf ≤ 65536) (hnc : nc ≤ 65536) :
    Calls Try.prog 5 #[.string p, .int .i64 nf, .int .i64 nc, .slice A n c] w fun e w' => e = .returned (.bool true) ∧ Below w.heap.size w w' := by
  have hd : decide (p.size + n ≤ 1048576) = true := by simpa using hsz
  go_enter Try.func5, Try.ntmps5
  go_wp2_with fail
  refine (bytes24_any p nf nc A n c w (by unfold maxLen; omega) (by unfold maxLen; omega)).mono ?_
  rintro e w' ⟨rfl, rfl⟩
  rw [hd]
  clear hd
  go_wp2_with fail
  refine (clone_any A n c zs w hr hc (by omega)).mono ?_
  rintro e w1 ⟨A1, c1, rfl, hc1, hr1, hb1⟩
  go_wp2_with fail
  refine (newLinker_any p _ nf nc w1 hnf hnc).mono ?_
  rintro e w2 ⟨K, rfl, hL, hb2⟩
  have hr2 : Rd w2 w2.heap.size A1 n zs := (hr1.rd.below hb2).more hb2.size
  go_wp2_with fail
  refine (breakOut_any K A1 n c1 zs p nf nc w2 hL hr2 hc1 (by omega) (by omega) hnf hnc).mono ?_
  rintro e w3 ⟨v1, ps, rfl, hH1, hlen1, hbrk1, hb3⟩
  have hL3 := (hL.below hb3).more hb3.size
  have hr3 := (hr2.below hb3).more hb3.size
  have hb13 : Below w.heap.size w w3 := (hb1.trans (hb2.mono hb1.size)).trans (hb3.mono (Nat.le_trans hb1.size hb2.size))
  clear hr hb1 hb2 hb3 hr1 hr2 hL
  have hH1' := hH1
  obtain ⟨g1, cap1, hv1, hcap1, hg1, _, _⟩ := hH1'
  subst hv1
  go_wp2_with fail
  obtain ⟨hR1, hb4, hs4⟩ := out_box w3 (.slice (some ⟨g1, 0, none⟩) ps.length cap1)
  generalize w3.alloc (.cells #[.slice (some ⟨g1, 0, none⟩) ps.length cap1, .slice none 0 0, .slice none 0 0, .int .u32 0, .int .u8 0] 35) = w4 at *
  have hH4 := (hH1.below hb4).more hb4.size
  refine (count_any hH4).mono ?_
  rintro e w5 ⟨rfl, hb5⟩
  have hB5 := hb5.size
  have hR5 := hR1.below hb5 hR1.lt
  have hH5 := (hH4.below hb5).more hb5.size
  have hL5 := ((hL3.below hb4).more hb4.size).below hb5 |>.more hb5.size
  have hr5 := ((hr3.below hb4).more hb4.size).below hb5 |>.more hb5.size
  have hw5 : Below w.heap.size w w5 := (hb13.trans (hb4.mono hb13.size)).trans (hb5.mono (Nat.le_trans hb13.size hb4.size))
  obtain ⟨⟨d0, d1, d2, d3, d4⟩, _⟩ := out_cells hR5
  clear hb13 hb4 hb5 hH1 hH4 hR1 hL3 hr3
  by_cases h2 : ps.length < 2
  · go_wp2
    go_ret
    exact ⟨rfl, hw5⟩
  · obtain ⟨q0, hq0⟩ : ∃ q, ps[0]? = some q := ⟨_, List.getElem?_eq_getElem (by omega)⟩
    obtain ⟨qs, rfl⟩ : ∃ qs, ps = q0 :: qs := by
      cases ps with
      | nil => simp at hq0
      | cons a t => exact ⟨t, by rw [Option.some.inj (List.getElem?_cons_zero.symm.trans hq0)]⟩
    rw [List.length_cons] at h2
    have hne : pks qs ≠ [] := fun e => by
      have := congrArg List.length e
      rw [pks_length, List.length_nil] at this
      omega
    obtain ⟨hf, _, _, hle, _, htail⟩ := LM.Brk.tail (show LM.Brk p.data.toList nf nc zs ((q0.zs, q0.idx, q0.kind) :: pks qs) from hbrk1) hne
    simp only at hle htail
    have hrq : Rd w5 w5.heap.size q0.A q0.n q0.zs ∧ q0.n ≤ q0.c := by
      obtain ⟨_, _, _, _, _, _, h⟩ := hH5
      exact h q0 (by simp)
    rw [hrq.1.len, len_data] at hle htail
    rw [hr5.len] at hle
    obtain ⟨m, hm⟩ : ∃ m : Nat, m = q0.n + p.size + 9 := ⟨_, rfl⟩
    have hmi : (q0.n : Int) + (p.size : Int) + 9 = (m : Int) := by omega
    rw [← hm] at hle htail
    have hm0 : 0 < m := by omega
    have hql : qs.length ≤ n := by
      rw [List.length_cons, hr5.len] at hlen1
      omega
    have hlens : ∀ q ∈ qs, q.zs.length ≤ n := fun q hq => by
      have := hbrk1.len (q.zs, q.idx, q.kind) (List.mem_cons_of_mem _ (List.mem_map.2 ⟨q, hq, rfl⟩))
      rw [hr5.len] at this
      exact this
    obtain ⟨ba, oa, rfl, _⟩ := hr5.all (show 0 < n by omega)
    clear hm
    go_upto_region 16 with (go_at_call 26; refine (data_any hH5 hq0).mono ?_; rintro e w6 ⟨rfl, hb6⟩)
    have hB6 := hb6.size
    have hL6 := (hL5.below hb6).more hb6.size
    have hr6 := ((hr5.below hb6).more hb6.size).from_ hle hc1
    have hR6 := hR5.below hb6 hR5.lt
    have hH6 := (hH5.below hb6).more hb6.size
    have hw6 : Below w.heap.size w w6 := hw5.trans (hb6.mono hw5.size)
    clear d0 d1 d2 d3 d4 hb6 hH5 hR5 hL5 hr5 hw5
    go_cut [13] (fun s13 wx => ∃ (R2 : Nat) (v2 : Value) (ps2 : List Piece), s13 = .pointer (some ⟨R2, 0, none⟩) ∧ Blk wx R2 35 #[v2, .slice none 0 0, .slice none 0 0, .int .u32 0, .int .u8 0] ∧ Holds wx wx.heap.size v2 ps2 ∧ Hid (pks ps2 = pks qs) ∧ Below w6.heap.size w6 wx)
    case first =>
      have htail' := hide htail
      clear htail
      by_cases hcm : c1 = m
      · have hr6' : Rd w6 w6.heap.size (some ⟨ba, oa, none⟩) (n - m) (zs.drop m) := by rw [if_pos hcm] at hr6; exact hr6
        clear hr6
        subst hcm
        have e0 : n - c1 = 0 := by omega
        rw [e0] at hr6'
        go_wp2_with fail
        refine (breakOut_any K (some ⟨ba, oa, none⟩) 0 0 (zs.drop c1) p nf nc w6 hL6 hr6' (by omega) (by omega) (by omega) hnf hnc).mono ?_
        rintro e w7 ⟨v2, ps2, rfl, hH7, hlen2, hbrk2, hb7⟩
        have hdet := hide (hbrk2.det htail'.out)
        have hH7c := hH7
        obtain ⟨g2, cap2, hv2, hcap2, hg2, _, _⟩ := hH7c
        subst hv2
        clear hbrk2 hlen2
        go_wp2
        go_meet
        obtain ⟨hR8, hb8, hs8⟩ := out_box w7 (.slice (some ⟨g2, 0, none⟩) ps2.length cap2)
        exact ⟨w7.heap.size, _, ps2, rfl, hR8, (hH7.below hb8).more hb8.size, hdet, hb7.trans (hb8.mono hb7.size)⟩
      · have hr6' : Rd w6 w6.heap.size (some ⟨ba, oa + m, none⟩) (n - m) (zs.drop m) := by
          rw [if_neg hcm] at hr6
          simpa [addr_add0] using hr6
        clear hr6
        go_wp2_with fail
        refine (breakOut_any K (some ⟨ba, oa + m, none⟩) (n - m) (c1 - m) (zs.drop m) p nf nc w6 hL6 hr6' (by omega) (by omega) (by omega) hnf hnc).mono ?_
        rintro e w7 ⟨v2, ps2, rfl, hH7, hlen2, hbrk2, hb7⟩
        have hdet := hide (hbrk2.det htail'.out)
        have hH7c := hH7
        obtain ⟨g2, cap2, hv2, hcap2, hg2, _, _⟩ := hH7c
        subst hv2
        clear hbrk2 hlen2
        go_wp2
        go_meet
        obtain ⟨hR8, hb8, hs8⟩ := out_box w7 (.slice (some ⟨g2, 0, none⟩) ps2.length cap2)
        exact ⟨w7.heap.size, _, ps2, rfl, hR8, (hH7.below hb8).more hb8.size, hdet, hb7.trans (hb8.mono hb7.size)⟩
    case rest =>
      obtain ⟨R2, v2, ps2, rfl, hR8, hH8, hdet, hb8⟩ := hcut
      have hB8 := hb8.size
      have hR8' := hR6.below hb8 hR6.lt
      have hH8' := (hH6.below hb8).more hb8.size
      have hw8 : Below w.heap.size w wc := hw6.trans (hb8.mono hw6.size)
      have hl2 : ps2.length = qs.length := by rw [← pks_length, hdet.out, pks_length]
      obtain ⟨⟨d0, d1, d2, d3, d4⟩, _⟩ := out_cells hR8
      have hl2' : ((ps2.length : Int) != (qs.length : Int)) = false := by rw [hl2]; simp
      clear hb8 hR6 hH6 hw6 hL6 hr6 htail
      go_wp2_with fail
      refine (count_any hH8).mono ?_
      rintro e w9 ⟨rfl, hb9⟩
      have hw9 : Below w.heap.size w w9 := hw8.trans (hb9.mono hw8.size)
      have hR1 := hR8'.below hb9 hR8'.lt
      have hR2 := hR8.below hb9 hR8.lt
      have hH1 := (hH8'.below hb9).more hb9.size
      have hH2 := (hH8.below hb9).more hb9.size
      have hs9 := hw9.size
      clear d0 d1 d2 d3 d4 hb9 hH8 hH8' hR8 hR8' hw8
      obtain ⟨g2, cap2, hv2, _, _, _, _⟩ := id hH2
      subst hv2
      go_wp2
      go_loopw [14] (fun i wr => ∃ k : Nat, 1 ≤ k ∧ k ≤ qs.length + 1 ∧ i = .int .i64 k ∧ Below w9.heap.size w9 wr) (fun i _ => qs.length + 1 - (intOf i).toNat)
      case atStart => exact ⟨1, by omega, by omega, rfl, Below.refl _ _⟩
      case round =>
        obtain ⟨k, hk1, hk, rfl, hb⟩ := hrel
        have hbs := hb.size
        by_cases hkl : k < qs.length + 1
        · obtain ⟨j, rfl⟩ : ∃ j, k = j + 1 := ⟨k - 1, by omega⟩
          obtain ⟨x, hx⟩ : ∃ x, qs[j]? = some x := ⟨_, List.getElem?_eq_getElem (by omega)⟩
          obtain ⟨y, hy⟩ : ∃ y, ps2[j]? = some y := ⟨_, List.getElem?_eq_getElem (by omega)⟩
          have hx1 : (q0 :: qs)[j + 1]? = some x := by simpa using hx
          have hxy : (y.zs, y.idx, y.kind) = (x.zs, x.idx, x.kind) := by
            have h1 := pks_get hx
            have h2 := pks_get hy
            rw [hdet.out, h1] at h2
            exact (Option.some.inj h2).symm
          obtain ⟨⟨d0, d1, d2, d3, d4⟩, _⟩ := out_cells (hR1.below hb hR1.lt)
          obtain ⟨⟨e0, e1, e2, e3, e4⟩, _⟩ := out_cells (hR2.below hb hR2.lt)
          have hJ1 : ∀ {wx}, Below w9.heap.size w9 wx → Holds wx wx.heap.size _ _ := fun h => (hH1.below h).more h.size
          have hJ2 : ∀ {wx}, Below w9.heap.size w9 wx → Holds wx wx.heap.size _ _ := fun h => (hH2.below h).more h.size
          have hxl := hlens x (List.mem_of_getElem? hx)
          have hz : y.zs = x.zs := congrArg Prod.fst hxy
          have hyl : y.zs.length ≤ n := by rw [hz]; exact hxl
          have C1 : ∀ wx, Below w9.heap.size w9 wx → Calls Try.prog 26 #[.agg #[.slice (some ⟨g1, 0, none⟩) (qs.length + 1) cap1, .slice none 0 0, .slice none 0 0, .int .u32 0, .int .u8 0], .int .i64 ((j : Int) + 1)] wx fun e w' => e = .returned (.slice x.A x.n x.c) ∧ Below wx.heap.size wx w' :=
            fun wx h => data_any (i := j + 1) (hJ1 h) hx1
          have C2 : ∀ wx, Below w9.heap.size w9 wx → Calls Try.prog 26 #[.agg #[.slice (some ⟨g2, 0, none⟩) qs.length cap2, .slice none 0 0, .slice none 0 0, .int .u32 0, .int .u8 0], .int .i64 (j : Int)] wx fun e w' => e = .returned (.slice y.A y.n y.c) ∧ Below wx.heap.size wx w' :=
            fun wx h => by
              rw [← hl2]
              exact data_any (i := j) (hJ2 h) hy
          have C3 : ∀ wx, Below w9.heap.size w9 wx → Calls Try.prog 16 #[.slice x.A x.n x.c, .slice y.A y.n y.c] wx fun e w' => e = .returned (.bool true) ∧ ∃ k, w' = wx.drewN k := fun wx h => by
            obtain ⟨_, _, _, _, _, _, i1⟩ := hJ1 h
            obtain ⟨_, _, _, _, _, _, i2⟩ := hJ2 h
            have r1 := (i1 x (List.mem_of_getElem? hx1)).1
            have r2 := (i2 y (List.mem_of_getElem? hy)).1
            have hd : decide (x.zs = y.zs) = true := by rw [hz]; simp
            have := equal_any x.A y.A x.n x.c y.n y.c x.zs y.zs wx r1 r2 (by rw [← r1.len]; omega) (by rw [← r2.len]; omega)
            rw [hd] at this
            exact this
          have C4 : ∀ wx, Below w9.heap.size w9 wx → Calls Try.prog 27 #[.agg #[.slice (some ⟨g1, 0, none⟩) (qs.length + 1) cap1, .slice none 0 0, .slice none 0 0, .int .u32 0, .int .u8 0], .int .i64 ((j : Int) + 1)] wx fun e w' => e = .returned (.int .u32 x.idx) ∧ Below wx.heap.size wx w' :=
            fun wx h => index_of_any (i := j + 1) (hJ1 h) hx1
          have C5 : ∀ wx, Below w9.heap.size w9 wx → Calls Try.prog 27 #[.agg #[.slice (some ⟨g2, 0, none⟩) qs.length cap2, .slice none 0 0, .slice none 0 0, .int .u32 0, .int .u8 0], .int .i64 (j : Int)] wx fun e w' => e = .returned (.int .u32 x.idx) ∧ Below wx.heap.size wx w' :=
            fun wx h => by
              have := index_of_any (i := j) (hJ2 h) hy
              rw [show y.idx = x.idx from congrArg (fun t => t.2.1) hxy] at this
              rw [← hl2]
              exact this
          have C6 : ∀ wx, Below w9.heap.size w9 wx → Calls Try.prog 15 #[.agg #[.slice (some ⟨g1, 0, none⟩) (qs.length + 1) cap1, .slice none 0 0, .slice none 0 0, .int .u32 0, .int .u8 0], .int .i64 ((j : Int) + 1)] wx fun e w' => e = .returned (.int .u8 x.kind) ∧ Below wx.heap.size wx w' :=
            fun wx h => kind_any (i := j + 1) (hJ1 h) hx1
          have C7 : ∀ wx, Below w9.heap.size w9 wx → Calls Try.prog 15 #[.agg #[.slice (some ⟨g2, 0, none⟩) qs.length cap2, .slice none 0 0, .slice none 0 0, .int .u32 0, .int .u8 0], .int .i64 (j : Int)] wx fun e w' => e = .returned (.int .u8 x.kind) ∧ Below wx.heap.size wx w' :=
            fun wx h => by
              have := kind_any (i := j) (hJ2 h) hy
              rw [show y.kind = x.kind from congrArg (fun t => t.2.2) hxy] at this
              rw [← hl2]
              exact this
          have hwj : IntKind.i64.wrap (j : Int) = (j : Int) := IntWalk.i64_in _ (by omega)
          clear hx hy hx1 hxy hJ1 hJ2 hxl hyl hz
          rw [List.length_cons] at d0
          go_upto_region 22 with (fail)
          go_cut [88] (fun s wx => s = .bool false ∧ Below w9.heap.size w9 wx)
          case first =>
            have hB : Below w9.heap.size w9 wr.drew := hb.drew
            go_region_with (first
              | (go_at_call_of 26 g1; with_reducible refine (C1 _ ?_).mono ?_; exact hB; rintro e w' ⟨rfl, hq⟩; replace hB := hB.trans (hq.mono hB.size); obtain ⟨⟨d0, d1, d2, d3, d4⟩, _⟩ := out_cells (hR1.below hB hR1.lt); rw [List.length_cons] at d0; obtain ⟨⟨e0, e1, e2, e3, e4⟩, _⟩ := out_cells (hR2.below hB hR2.lt))
              | (go_at_call_of 26 g2; with_reducible refine (C2 _ ?_).mono ?_; exact hB; rintro e w' ⟨rfl, hq⟩; replace hB := hB.trans (hq.mono hB.size); obtain ⟨⟨d0, d1, d2, d3, d4⟩, _⟩ := out_cells (hR1.below hB hR1.lt); rw [List.length_cons] at d0; obtain ⟨⟨e0, e1, e2, e3, e4⟩, _⟩ := out_cells (hR2.below hB hR2.lt))
              | (go_at_call 16; with_reducible refine (C3 _ ?_).mono ?_; exact hB; rintro e w' ⟨rfl, kq, rfl⟩; replace hB := below_drewN hB kq))
            all_goals go_wp2
            all_goals go_meet
            all_goals exact ⟨rfl, hB⟩
          case rest =>
            obtain ⟨rfl, hB1⟩ := hcut
            obtain ⟨⟨d0, d1, d2, d3, d4⟩, _⟩ := out_cells (hR1.below hB1 hR1.lt)
            rw [List.length_cons] at d0
            obtain ⟨⟨e0, e1, e2, e3, e4⟩, _⟩ := out_cells (hR2.below hB1 hR2.lt)
            go_upto_region 24 with (fail)
            go_cut [106] (fun s wx => s = .bool false ∧ Below w9.heap.size w9 wx)
            case first =>
              have hB : Below w9.heap.size w9 wc.drew := hB1.drew
              go_region_with (first
                | (go_at_call_of 27 g1; with_reducible refine (C4 _ ?_).mono ?_; exact hB; rintro e w' ⟨rfl, hq⟩; replace hB := hB.trans (hq.mono hB.size); obtain ⟨⟨d0, d1, d2, d3, d4⟩, _⟩ := out_cells (hR1.below hB hR1.lt); rw [List.length_cons] at d0; obtain ⟨⟨e0, e1, e2, e3, e4⟩, _⟩ := out_cells (hR2.below hB hR2.lt))
                | (go_at_call_of 27 g2; with_reducible refine (C5 _ ?_).mono ?_; exact hB; rintro e w' ⟨rfl, hq⟩; replace hB := hB.trans (hq.mono hB.size); obtain ⟨⟨d0, d1, d2, d3, d4⟩, _⟩ := out_cells (hR1.below hB hR1.lt); rw [List.length_cons] at d0; obtain ⟨⟨e0, e1, e2, e3, e4⟩, _⟩ := out_cells (hR2.below hB hR2.lt))
                | (go_at_call_of 15 g1; with_reducible refine (C6 _ ?_).mono ?_; exact hB; rintro e w' ⟨rfl, hq⟩; replace hB := hB.trans (hq.mono hB.size); obtain ⟨⟨d0, d1, d2, d3, d4⟩, _⟩ := out_cells (hR1.below hB hR1.lt); rw [List.length_cons] at d0; obtain ⟨⟨e0, e1, e2, e3, e4⟩, _⟩ := out_cells (hR2.below hB hR2.lt))
                | (go_at_call_of 15 g2; with_reducible refine (C7 _ ?_).mono ?_; exact hB; rintro e w' ⟨rfl, hq⟩; replace hB := hB.trans (hq.mono hB.size); obtain ⟨⟨d0, d1, d2, d3, d4⟩, _⟩ := out_cells (hR1.below hB hR1.lt); rw [List.length_cons] at d0; obtain ⟨⟨e0, e1, e2, e3, e4⟩, _⟩ := out_cells (hR2.below hB hR2.lt)))
              all_goals go_wp2
              all_goals go_meet
              all_goals exact ⟨rfl, hB⟩
            case rest =>
              obtain ⟨rfl, hB2⟩ := hcut
              go_wp2
              go_roundw
              case rel => exact ⟨j + 1 + 1, by omega, by omega, by go_num, hB2⟩
              case measure => simp [intOf]; omega
        · obtain rfl : k = qs.length + 1 := by omega
          go_wp2
          go_ret
          exact ⟨rfl, hw9.trans (hb.mono hs9)⟩
end Go.Proofs.Ytpfnonkcjlfibaa
