/-
  The walk of zzSamePieces over two outputs of the same pieces. Conditions: sizes.
-/
import Derived.Test.YtpfnonkcjlfibaaLForm
import Derived.Test.YtpfnonkcjlfibaaLHelpA
import Derived.Deep.RegionWith
namespace Go.Proofs.Ytpfnonkcjlfibaa
open Go.RowKit

theorem box_out2 (w : World) (v : Value) : Blk (w.alloc (.cells #[v, .slice none 0 0, .slice none 0 0, .int .u32 0, .int .u8 0] 35)) w.heap.size 35 #[v, .slice none 0 0, .slice none 0 0, .int .u32 0, .int .u8 0] ∧
    Below w.heap.size w (w.alloc (.cells #[v, .slice none 0 0, .slice none 0 0, .int .u32 0, .int .u8 0] 35)) ∧ (w.alloc (.cells #[v, .slice none 0 0, .slice none 0 0, .int .u32 0, .int .u8 0] 35)).heap.size = w.heap.size + 1 :=
  ⟨Blk.new _ _ _, (Below.refl _ _).alloc (Nat.le_refl _) _, by simp⟩

set_option maxHeartbeats 16000000 in
set_option maxRecDepth 100000 in
theorem same_any (v1 v2 : Value) (ps1 ps2 : List Piece) (w : World) (X : Nat) (hH1 : Holds w w.heap.size v1 ps1) (hH2 : Holds w w.heap.size v2 ps2) (he : pks ps1 = pks ps2) (hX : X ≤ 16777216) (hlens : ∀ q ∈ ps1, q.zs.length ≤ X) (hn : ps1.length ≤ 16777217) :
    Calls Try.prog 23 #[outV v1, outV v2] w fun e w' => e = .returned (.bool true) ∧ Below w.heap.size w w' := by
  obtain ⟨g1, cap1, rfl, _, hg1, _, _⟩ := id hH1
  obtain ⟨g2, cap2, rfl, _, hg2, _, _⟩ := id hH2
  have hl2 : ps2.length = ps1.length := by rw [← pks_length, ← he, pks_length]
  rw [hl2] at hH2
  unfold outV
  rw [hl2]
  replace he := hide he
  replace hl2 := hide hl2
  go_enter Try.func23, Try.ntmps23
  obtain ⟨hR1, hb1, hs1⟩ := box_out2 w (.slice (some ⟨g1, 0, none⟩) ps1.length cap1)
  go_upto_region 1 with (fail)
  generalize w.alloc (.cells #[.slice (some ⟨g1, 0, none⟩) ps1.length cap1, .slice none 0 0, .slice none 0 0, .int .u32 0, .int .u8 0] 35) = wa at *
  obtain ⟨hR2, hb2, hs2⟩ := box_out2 wa (.slice (some ⟨g2, 0, none⟩) ps1.length cap2)
  rw [hs1] at hR2 hs2
  generalize wa.alloc (.cells #[.slice (some ⟨g2, 0, none⟩) ps1.length cap2, .slice none 0 0, .slice none 0 0, .int .u32 0, .int .u8 0] 35) = w9 at *
  have hw9 : Below w.heap.size w w9 := hb1.trans (hb2.mono hb1.size)
  have hH1' := (hH1.below hw9).more hw9.size
  have hH2' := (hH2.below hw9).more hw9.size
  have hR1' := hR1.below hb2 hR1.lt
  have hs9 := hw9.size
  clear hR1 hb1 hb2 hs1 hH1 hH2
  have hJ1 : ∀ {wx}, Below w9.heap.size w9 wx → Holds wx wx.heap.size _ _ := fun h => (hH1'.below h).more h.size
  have hJ2 : ∀ {wx}, Below w9.heap.size w9 wx → Holds wx wx.heap.size _ _ := fun h => (hH2'.below h).more h.size
  have CA : ∀ wx, Below w9.heap.size w9 wx → Calls Try.prog 13 #[.agg #[.slice (some ⟨g1, 0, none⟩) ps1.length cap1, .slice none 0 0, .slice none 0 0, .int .u32 0, .int .u8 0]] wx fun e w' => e = .returned (.bool true) ∧ Below wx.heap.size wx w' := fun wx h => isPieces_any (hJ1 h)
  have CB : ∀ wx, Below w9.heap.size w9 wx → Calls Try.prog 13 #[.agg #[.slice (some ⟨g2, 0, none⟩) ps1.length cap2, .slice none 0 0, .slice none 0 0, .int .u32 0, .int .u8 0]] wx fun e w' => e = .returned (.bool true) ∧ Below wx.heap.size wx w' := fun wx h => isPieces_any (hJ2 h)
  obtain ⟨⟨d0, d1, d2, d3, d4⟩, _⟩ := out_cells hR1'
  obtain ⟨⟨e0, e1, e2, e3, e4⟩, _⟩ := out_cells hR2
  go_cut [11] (fun s wx => s = .bool false ∧ Below w9.heap.size w9 wx)
  case first =>
    have hB : Below w9.heap.size w9 w9.drew := (Below.refl _ _).drew
    go_region_with (first
      | (go_at_call_of 13 g1; with_reducible refine (CA _ ?_).mono ?_; exact hB; rintro e w' ⟨rfl, hq⟩; replace hB := hB.trans (hq.mono hB.size); obtain ⟨⟨d0, d1, d2, d3, d4⟩, _⟩ := out_cells (hR1'.below hB hR1'.lt); obtain ⟨⟨e0, e1, e2, e3, e4⟩, _⟩ := out_cells (hR2.below hB hR2.lt))
      | (go_at_call_of 13 g2; with_reducible refine (CB _ ?_).mono ?_; exact hB; rintro e w' ⟨rfl, hq⟩; replace hB := hB.trans (hq.mono hB.size); obtain ⟨⟨d0, d1, d2, d3, d4⟩, _⟩ := out_cells (hR1'.below hB hR1'.lt); obtain ⟨⟨e0, e1, e2, e3, e4⟩, _⟩ := out_cells (hR2.below hB hR2.lt)))
    all_goals go_wp2
    all_goals go_meet
    all_goals exact ⟨rfl, hB⟩
  case rest =>
    obtain ⟨rfl, hB⟩ := hcut
    clear CA CB d0 d1 d2 d3 d4 e0 e1 e2 e3 e4
    obtain ⟨⟨d0, d1, d2, d3, d4⟩, _⟩ := out_cells (hR1'.below hB hR1'.lt)
    go_wp2_with fail
    refine (count_any (hJ1 hB)).mono ?_
    rintro e w2 ⟨rfl, hq⟩
    replace hB := hB.trans (hq.mono hB.size)
    clear hq d0 d1 d2 d3 d4
    obtain ⟨⟨e0, e1, e2, e3, e4⟩, _⟩ := out_cells (hR2.below hB hR2.lt)
    go_wp2_with fail
    refine (count_any (hJ2 hB)).mono ?_
    rintro e w3 ⟨rfl, hq⟩
    replace hB := hB.trans (hq.mono hB.size)
    rw [hl2.out]
    clear hq e0 e1 e2 e3 e4
    go_wp2
    go_loopw [6] (fun i wr => ∃ k : Nat, k ≤ ps1.length ∧ i = .int .i64 k ∧ Below w9.heap.size w9 wr) (fun i _ => ps1.length - (intOf i).toNat)
    case atStart => exact ⟨0, by omega, rfl, hB⟩
    case round =>
      clear hB
      obtain ⟨j, hk, rfl, hb⟩ := hrel
      by_cases hkl : j < ps1.length
      · obtain ⟨x, hx⟩ : ∃ x, ps1[j]? = some x := ⟨_, List.getElem?_eq_getElem hkl⟩
        obtain ⟨y, hy⟩ : ∃ y, ps2[j]? = some y := ⟨_, List.getElem?_eq_getElem (by rw [hl2.out]; exact hkl)⟩
        have hxy : (y.zs, y.idx, y.kind) = (x.zs, x.idx, x.kind) := by
          have h1 := pks_get hx
          have h2 := pks_get hy
          rw [← he.out, h1] at h2
          exact (Option.some.inj h2).symm
        have hxl := hlens x (List.mem_of_getElem? hx)
        have hz : y.zs = x.zs := congrArg Prod.fst hxy
        have hyl : y.zs.length ≤ X := by rw [hz]; exact hxl
        obtain ⟨⟨d0, d1, d2, d3, d4⟩, _⟩ := out_cells (hR1'.below hb hR1'.lt)
        obtain ⟨⟨e0, e1, e2, e3, e4⟩, _⟩ := out_cells (hR2.below hb hR2.lt)
        have C1 : ∀ wx, Below w9.heap.size w9 wx → Calls Try.prog 26 #[.agg #[.slice (some ⟨g1, 0, none⟩) ps1.length cap1, .slice none 0 0, .slice none 0 0, .int .u32 0, .int .u8 0], .int .i64 (j : Int)] wx fun e w' => e = .returned (.slice x.A x.n x.c) ∧ Below wx.heap.size wx w' :=
          fun wx h => data_any (i := j) (hJ1 h) hx
        have C2 : ∀ wx, Below w9.heap.size w9 wx → Calls Try.prog 26 #[.agg #[.slice (some ⟨g2, 0, none⟩) ps1.length cap2, .slice none 0 0, .slice none 0 0, .int .u32 0, .int .u8 0], .int .i64 (j : Int)] wx fun e w' => e = .returned (.slice y.A y.n y.c) ∧ Below wx.heap.size wx w' :=
          fun wx h => data_any (i := j) (hJ2 h) hy
        have C3 : ∀ wx, Below w9.heap.size w9 wx → Calls Try.prog 16 #[.slice x.A x.n x.c, .slice y.A y.n y.c] wx fun e w' => e = .returned (.bool true) ∧ ∃ k, w' = wx.drewN k := fun wx h => by
          obtain ⟨_, _, _, _, _, _, i1⟩ := hJ1 h
          obtain ⟨_, _, _, _, _, _, i2⟩ := hJ2 h
          have r1 := (i1 x (List.mem_of_getElem? hx)).1
          have r2 := (i2 y (List.mem_of_getElem? hy)).1
          have hd : decide (x.zs = y.zs) = true := by rw [hz]; simp
          have := equal_any x.A y.A x.n x.c y.n y.c x.zs y.zs wx r1 r2 (by rw [← r1.len]; omega) (by rw [← r2.len]; omega)
          rw [hd] at this
          exact this
        have C4 : ∀ wx, Below w9.heap.size w9 wx → Calls Try.prog 27 #[.agg #[.slice (some ⟨g1, 0, none⟩) ps1.length cap1, .slice none 0 0, .slice none 0 0, .int .u32 0, .int .u8 0], .int .i64 (j : Int)] wx fun e w' => e = .returned (.int .u32 x.idx) ∧ Below wx.heap.size wx w' :=
          fun wx h => index_of_any (i := j) (hJ1 h) hx
        have C5 : ∀ wx, Below w9.heap.size w9 wx → Calls Try.prog 27 #[.agg #[.slice (some ⟨g2, 0, none⟩) ps1.length cap2, .slice none 0 0, .slice none 0 0, .int .u32 0, .int .u8 0], .int .i64 (j : Int)] wx fun e w' => e = .returned (.int .u32 x.idx) ∧ Below wx.heap.size wx w' :=
          fun wx h => by
            have := index_of_any (i := j) (hJ2 h) hy
            rw [show y.idx = x.idx from congrArg (fun t => t.2.1) hxy] at this
            exact this
        have C6 : ∀ wx, Below w9.heap.size w9 wx → Calls Try.prog 15 #[.agg #[.slice (some ⟨g1, 0, none⟩) ps1.length cap1, .slice none 0 0, .slice none 0 0, .int .u32 0, .int .u8 0], .int .i64 (j : Int)] wx fun e w' => e = .returned (.int .u8 x.kind) ∧ Below wx.heap.size wx w' :=
          fun wx h => kind_any (i := j) (hJ1 h) hx
        have C7 : ∀ wx, Below w9.heap.size w9 wx → Calls Try.prog 15 #[.agg #[.slice (some ⟨g2, 0, none⟩) ps1.length cap2, .slice none 0 0, .slice none 0 0, .int .u32 0, .int .u8 0], .int .i64 (j : Int)] wx fun e w' => e = .returned (.int .u8 x.kind) ∧ Below wx.heap.size wx w' :=
          fun wx h => by
            have := kind_any (i := j) (hJ2 h) hy
            rw [show y.kind = x.kind from congrArg (fun t => t.2.2) hxy] at this
            exact this
        clear hx hy hxy hJ1 hJ2 hxl hyl hz
        go_upto_region 9 with (fail)
        go_cut [30] (fun s wx => s = .bool false ∧ Below w9.heap.size w9 wx)
        case first =>
          have hB : Below w9.heap.size w9 wr.drew := hb.drew
          go_region_with (first
            | (go_at_call_of 26 g1; with_reducible refine (C1 _ ?_).mono ?_; exact hB; rintro e w' ⟨rfl, hq⟩; replace hB := hB.trans (hq.mono hB.size); obtain ⟨⟨d0, d1, d2, d3, d4⟩, _⟩ := out_cells (hR1'.below hB hR1'.lt); obtain ⟨⟨e0, e1, e2, e3, e4⟩, _⟩ := out_cells (hR2.below hB hR2.lt))
            | (go_at_call_of 26 g2; with_reducible refine (C2 _ ?_).mono ?_; exact hB; rintro e w' ⟨rfl, hq⟩; replace hB := hB.trans (hq.mono hB.size); obtain ⟨⟨d0, d1, d2, d3, d4⟩, _⟩ := out_cells (hR1'.below hB hR1'.lt); obtain ⟨⟨e0, e1, e2, e3, e4⟩, _⟩ := out_cells (hR2.below hB hR2.lt))
            | (go_at_call 16; with_reducible refine (C3 _ ?_).mono ?_; exact hB; rintro e w' ⟨rfl, kq, rfl⟩; replace hB := below_drewN hB kq))
          all_goals go_wp2
          all_goals go_meet
          all_goals exact ⟨rfl, hB⟩
        case rest =>
          obtain ⟨rfl, hB1⟩ := hcut
          obtain ⟨⟨d0, d1, d2, d3, d4⟩, _⟩ := out_cells (hR1'.below hB1 hR1'.lt)
          obtain ⟨⟨e0, e1, e2, e3, e4⟩, _⟩ := out_cells (hR2.below hB1 hR2.lt)
          go_upto_region 11 with (fail)
          go_cut [46] (fun s wx => s = .bool false ∧ Below w9.heap.size w9 wx)
          case first =>
            have hB : Below w9.heap.size w9 wc.drew := hB1.drew
            go_region_with (first
              | (go_at_call_of 27 g1; with_reducible refine (C4 _ ?_).mono ?_; exact hB; rintro e w' ⟨rfl, hq⟩; replace hB := hB.trans (hq.mono hB.size); obtain ⟨⟨d0, d1, d2, d3, d4⟩, _⟩ := out_cells (hR1'.below hB hR1'.lt); obtain ⟨⟨e0, e1, e2, e3, e4⟩, _⟩ := out_cells (hR2.below hB hR2.lt))
              | (go_at_call_of 27 g2; with_reducible refine (C5 _ ?_).mono ?_; exact hB; rintro e w' ⟨rfl, hq⟩; replace hB := hB.trans (hq.mono hB.size); obtain ⟨⟨d0, d1, d2, d3, d4⟩, _⟩ := out_cells (hR1'.below hB hR1'.lt); obtain ⟨⟨e0, e1, e2, e3, e4⟩, _⟩ := out_cells (hR2.below hB hR2.lt))
              | (go_at_call_of 15 g1; with_reducible refine (C6 _ ?_).mono ?_; exact hB; rintro e w' ⟨rfl, hq⟩; replace hB := hB.trans (hq.mono hB.size); obtain ⟨⟨d0, d1, d2, d3, d4⟩, _⟩ := out_cells (hR1'.below hB hR1'.lt); obtain ⟨⟨e0, e1, e2, e3, e4⟩, _⟩ := out_cells (hR2.below hB hR2.lt))
              | (go_at_call_of 15 g2; with_reducible refine (C7 _ ?_).mono ?_; exact hB; rintro e w' ⟨rfl, hq⟩; replace hB := hB.trans (hq.mono hB.size); obtain ⟨⟨d0, d1, d2, d3, d4⟩, _⟩ := out_cells (hR1'.below hB hR1'.lt); obtain ⟨⟨e0, e1, e2, e3, e4⟩, _⟩ := out_cells (hR2.below hB hR2.lt)))
            all_goals go_wp2
            all_goals go_meet
            all_goals exact ⟨rfl, hB⟩
          case rest =>
            obtain ⟨rfl, hB2⟩ := hcut
            go_wp2
            go_roundw
            case rel => exact ⟨j + 1, by omega, by go_num, hB2⟩
            case measure => simp [intOf]; omega
      · obtain rfl : j = ps1.length := by omega
        go_wp2
        go_ret
        exact ⟨rfl, hw9.trans (hb.mono hs9)⟩
end Go.Proofs.Ytpfnonkcjlfibaa
