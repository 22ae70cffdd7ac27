/-
  The walk of zzRender over pieces. Conditions: sizes.
-/
import Derived.Test.YtpfnonkcjlfibaaLForm
import Derived.Deep.RegionWith
namespace Go.Proofs.Ytpfnonkcjlfibaa
open Go.RowKit

theorem box_outV (w : World) (v : Value) : Blk (w.alloc (.cells #[v, .slice none 0 0, .slice none 0 0, .int .u32 0, .int .u8 0] 35)) w.heap.size 35 #[v, .slice none 0 0, .slice none 0 0, .int .u32 0, .int .u8 0] ∧
    Below w.heap.size w (w.alloc (.cells #[v, .slice none 0 0, .slice none 0 0, .int .u32 0, .int .u8 0] 35)) ∧ (w.alloc (.cells #[v, .slice none 0 0, .slice none 0 0, .int .u32 0, .int .u8 0] 35)).heap.size = w.heap.size + 1 :=
  ⟨Blk.new _ _ _, (Below.refl _ _).alloc (Nat.le_refl _) _, by simp⟩

set_option maxHeartbeats 16000000 in
set_option maxRecDepth 100000 in
theorem renderP_any (p : ByteArray) (nf nc : Nat) (v : Value) (ps : List Piece) (C : List UInt8) (P : Option Addr) (cp : Nat) (w : World) (hH : Holds w w.heap.size v ps) (hbrk : LM.Brk p.data.toList nf nc C (pks ps)) (hP : Rd w w.heap.size P p.size p.data.toList)
    (hC : C.length + p.size ≤ 2000000000) (hlen : ps.length ≤ C.length + 1) :
    Calls Try.prog 17 #[outV v, .slice P p.size cp] w (TextIs w C) := by
  obtain ⟨g1, cap1, rfl, _, hg1, _, _⟩ := id hH
  unfold outV
  go_enter Try.func17, Try.ntmps17
  obtain ⟨hR, hb1, hs1⟩ := box_outV w (.slice (some ⟨g1, 0, none⟩) ps.length cap1)
  go_upto_region 1 with (fail)
  generalize w.alloc (.cells #[.slice (some ⟨g1, 0, none⟩) ps.length cap1, .slice none 0 0, .slice none 0 0, .int .u32 0, .int .u8 0] 35) = w1 at *
  have hH1 := (hH.below hb1).more hb1.size
  have hP1 := (hP.below hb1).more hb1.size
  obtain ⟨⟨d0, d1, d2, d3, d4⟩, _⟩ := out_cells hR
  go_wp2_with fail
  refine (isPieces_any hH1).mono ?_
  rintro e w2 ⟨rfl, hb2⟩
  clear d0 d1 d2 d3 d4
  obtain ⟨⟨d0, d1, d2, d3, d4⟩, _⟩ := out_cells (hR.below hb2 hR.lt)
  go_wp2_with fail
  refine (count_any ((hH1.below hb2).more hb2.size)).mono ?_
  rintro e w3 ⟨rfl, hb3⟩
  clear d0 d1 d2 d3 d4
  have hb13 := hb2.trans (hb3.mono hb2.size)
  have hR3 := hR.below hb13 hR.lt
  have hH3 := (hH1.below hb13).more hb13.size
  have hP3 := (hP1.below hb13).more hb13.size
  have hb03 : Below w.heap.size w w3 := hb1.trans (hb13.mono hb1.size)
  have hrend := hide hbrk.render
  have heach := hide hbrk.each
  have hpz : Hid (p.data.toList.length = p.size) := hide (len_data p)
  clear hb1 hb2 hb3 hb13 hH hH1 hP hP1 hR hs1 hbrk
  go_wp2
  go_loopw [6, 7] (fun v i wr => ∃ (k : Nat) (L : List UInt8), k ≤ ps.length ∧ i = .int .i64 k ∧ wr.ownsRow w3.heap.size 5 1 v L.length (L.map bv) ∧ Hid (L ++ LM.render p.data.toList ((pks ps).drop k) = C) ∧ Below w3.heap.size w3 wr) (fun _ i _ => ps.length - (intOf i).toNat)
  case atStart => exact ⟨0, [], by omega, rfl, own_nil _ _, hrend, Below.refl _ _⟩
  case round =>
    obtain ⟨k, L, hk, rfl, hown, hLz, hb⟩ := hrel
    have hbs := hb.size
    by_cases hkl : k < ps.length
    · obtain ⟨x, hx⟩ : ∃ x, ps[k]? = some x := ⟨_, List.getElem?_eq_getElem hkl⟩
      have hLl : Hid (L.length + x.zs.length ≤ C.length) := hide (by
        have h1 := congrArg List.length hLz.out
        rw [LM.drop_here (pks_get hx), List.length_append] at h1
        have h2 : x.zs.length ≤ (LM.render p.data.toList ((x.zs, x.idx, x.kind) :: (pks ps).drop (k + 1))).length := by
          cases (pks ps).drop (k + 1) with
          | nil => exact Nat.le_refl _
          | cons q qs => simp [LM.render]
        omega)
      have hpx := hide (pks_get hx)
      have hJ1 : ∀ {wx}, Below w3.heap.size w3 wx → Holds wx wx.heap.size _ _ := fun h => (hH3.below h).more h.size
      have C1 : ∀ wx, Below w3.heap.size w3 wx → Calls Try.prog 15 #[.agg #[.slice (some ⟨g1, 0, none⟩) ps.length cap1, .slice none 0 0, .slice none 0 0, .int .u32 0, .int .u8 0], .int .i64 (k : Int)] wx fun e w' => e = .returned (.int .u8 x.kind) ∧ Below wx.heap.size wx w' :=
        fun wx h => kind_any (hJ1 h) hx
      have C2 : ∀ wx, Below w3.heap.size w3 wx → Calls Try.prog 27 #[.agg #[.slice (some ⟨g1, 0, none⟩) ps.length cap1, .slice none 0 0, .slice none 0 0, .int .u32 0, .int .u8 0], .int .i64 (k : Int)] wx fun e w' => e = .returned (.int .u32 x.idx) ∧ Below wx.heap.size wx w' :=
        fun wx h => index_of_any (hJ1 h) hx
      obtain ⟨⟨d0, d1, d2, d3, d4⟩, _⟩ := out_cells (hR3.below hb hR3.lt)
      go_upto_region 8 with (fail)
      have hx2 := hide hx
      clear hx
      go_upto_region 9 with (first
        | (go_at_call 26; refine (data_any ((hH3.below hb).more hb.size) hx2.out).mono ?_; rintro e wa ⟨rfl, hba⟩; replace hown := own_kept hown hba; replace hb := hb.trans (hba.mono hbs); replace hbs := hb.size; clear hba d0 d1 d2 d3 d4; obtain ⟨⟨d0, d1, d2, d3, d4⟩, _⟩ := out_cells (hR3.below hb hR3.lt); have hxr : Rd wa wa.heap.size x.A x.n x.zs := (by obtain ⟨_, _, _, _, _, _, i1⟩ := (hH3.below hb).more hb.size; exact (i1 x (List.mem_of_getElem? hx2.out)).1); have hlx : Hid (L.length + x.n ≤ C.length) := hide (by rw [← hxr.len]; exact hLl.out))
        | (at_builtin; refine wpList_app E42 rfl (.tmp 20) (.tmp 23) rfl L hown rfl hxr rfl (by have := hlx.out; omega) hbs ?_; intro v2 w8 hown2 hg2; replace hb := hb.grown hg2 (by omega) (fun k hk => (hown.lt k hk).1); replace hbs := hb.size; replace hown2 : w8.ownsRow w3.heap.size 5 1 v2 (L ++ x.zs).length ((L ++ x.zs).map bv) := (by rw [List.length_append, hxr.len]; exact hown2); clear hg2 hown d0 d1 d2 d3 d4; obtain ⟨⟨d0, d1, d2, d3, d4⟩, _⟩ := out_cells (hR3.below hb hR3.lt)))
      clear hxr
      by_cases hlast : k + 1 = ps.length
      · have hz2 : Hid ((L ++ x.zs) ++ LM.render p.data.toList ((pks ps).drop (k + 1)) = C) := hide (by
          have h1 := hLz.out
          rw [LM.render_last hpx.out (by rw [pks_length]; exact hlast)] at h1
          rw [List.drop_eq_nil_of_le (by rw [pks_length]; omega)]
          rw [← h1]
          exact List.append_nil _)
        clear C1 C2
        go_wp2
        go_roundw
        case rel => exact ⟨k + 1, _, by omega, by go_num, hown2, hz2, hb⟩
        case measure => simp [intOf]; omega
      · obtain ⟨_, hE2⟩ := heach.out k _ hpx.out
        rw [pks_length] at hE2
        obtain ⟨hkd, hi8, _, _⟩ := hE2 (by omega)
        simp only at hkd hi8
        have hz2 : Hid (((L ++ x.zs) ++ LM.keyBytes p.data.toList x.idx x.kind) ++ LM.render p.data.toList ((pks ps).drop (k + 1)) = C) := hide (by
          have h1 := hLz.out
          rw [LM.render_step hpx.out (by rw [pks_length]; omega)] at h1
          rw [← h1]
          simp only [List.append_assoc])
        have hl2 : (L ++ x.zs).length + p.size ≤ 4000000000 := by
          have := hLl.out
          rw [List.length_append]
          omega
        replace hkd := hide hkd
        replace hi8 := hide hi8
        clear hE2
        have hB : Below w3.heap.size w3 w8.drew := hb.drew
        have hO : w8.drew.ownsRow w3.heap.size 5 1 v2 (L ++ x.zs).length ((L ++ x.zs).map bv) := hown2
        clear hown2 hb
        go_upto_region 10 with (fail)
        go_region_with (first
          | (go_at_call 15; with_reducible refine (C1 _ ?_).mono ?_; exact hB; rintro e w' ⟨rfl, hq⟩; replace hO := own_kept hO hq; replace hB := hB.trans (hq.mono hB.size); clear d0 d1 d2 d3 d4; obtain ⟨⟨d0, d1, d2, d3, d4⟩, _⟩ := out_cells (hR3.below hB hR3.lt))
          | (go_at_call 27; with_reducible refine (C2 _ ?_).mono ?_; exact hB; rintro e w' ⟨rfl, hq⟩; replace hO := own_kept hO hq; replace hB := hB.trans (hq.mono hB.size); clear d0 d1 d2 d3 d4; obtain ⟨⟨d0, d1, d2, d3, d4⟩, _⟩ := out_cells (hR3.below hB hR3.lt))
          | (go_at_call 29; refine (appendKey_any v2 (L ++ x.zs) P p.size cp p.data.toList x.kind x.idx _ hO (hP3.below hB) hB.size hl2 hkd.out (by have := hi8.out; omega)).mono ?_; rintro e w' ⟨v3, rfl, hO3, hq3⟩; replace hB := hB.trans hq3))
        all_goals
          clear C1 C2
          go_wp2
          go_roundw
          case rel => exact ⟨k + 1, _, by omega, by go_num, hO3, hz2, hB⟩
          case measure => simp [intOf]; omega
    · obtain rfl : k = ps.length := by omega
      have hLe : Hid (L = C) := hide (by
        have h1 := hLz.out
        rw [List.drop_eq_nil_of_le (by rw [pks_length]; omega)] at h1
        rw [← h1]
        exact (List.append_nil _).symm)
      obtain ⟨Av, cv, rfl, hcv, hrv⟩ := own_rd hown
      replace hrv := hide hrv
      clear hown
      go_wp2
      go_ret
      refine ⟨_, _, _, rfl, ?_, hcv, hb03.trans (hb.mono hb03.size)⟩
      have := hrv.out
      rw [hLe.out] at this ⊢
      exact this
end Go.Proofs.Ytpfnonkcjlfibaa
