/-
  The walk of Joiner.Done: what it hands back reads as the joined text. Conditions: the joined length is below 4294967296.
-/
import Derived.Test.YtpfnonkcjlfibaaJCont
import Derived.Test.YtpfnonkcjlfibaaJCopy
namespace Go.Proofs.Ytpfnonkcjlfibaa
open Go.RowKit
theorem E42 : ElemT Try.prog 42 5 (.int .u8 0) 1 1 := ⟨Try.underlying42, by kernel_rfl, rfl, by decide⟩
theorem size5 : (Try.prog.info? 5).map (·.size) = some 1 := by kernel_rfl

theorem own_rdT {w : World} {base n c : Nat} {A : Option Addr} {zs : List UInt8} (h : w.ownsRow base 5 1 (.slice A n c) n (zs.map bv)) : RdT w A n zs := by
  refine ⟨by simpa using h.1, fun hn => ?_⟩
  rcases h.2 with ⟨_, h0⟩ | ⟨g, cap, cur, hv, hg, hh, _, _, _, ht⟩
  · omega
  · simp only [Value.slice.injEq] at hv
    obtain ⟨rfl, _⟩ := hv
    refine ⟨g, 0, cur, (0, 0), rfl, hh, fun j x hx => ?_⟩
    have hj : j < zs.length := (List.getElem?_eq_some_iff.1 hx).1
    have hl : zs.length = n := by simpa using h.1
    have e : (cur.toList.take (n * 1))[j]? = some (bv x) := by rw [ht]; simp [hx]
    rw [List.getElem?_take, if_pos (by omega)] at e
    simpa [bv] using e

def piecesS (SS : List (ByteArray × Nat)) : List (List UInt8 × Nat) := SS.map fun p => (p.1.data.toList, p.2)
def piecesT (TS : List BItem) : List (List UInt8 × Nat) := TS.map fun t => (t.zs, t.off)

def Direct (SS : List (ByteArray × Nat)) (TS : List BItem) : Prop := SS.length = 0 ∧ ∃ t, TS = [t] ∧ t.off = 0

set_option maxHeartbeats 1600000 in
theorem done_any (J : Nat) (C : List UInt8) (w : World) {B0 : Nat} {SS : List (ByteArray × Nat)} {TS : List BItem} (h : JS w B0 J SS TS C.length) (ht : JM.Tile C (piecesS SS ++ piecesT TS)) (hC : C.length < 4294967296) (hnS : SS.length < 4294967296) (hnT : TS.length < 4294967296) :
    Calls Try.prog 34 #[.pointer (some ⟨J, 0, none⟩)] w fun e w' => ∃ A n c, e = .returned (.slice A n c) ∧ RdT w' A n C ∧ n ≤ c ∧ Below w.heap.size w w' := by
  obtain ⟨⟨sv, tv, lb, h1, h2, h3⟩, h4, h5⟩ := h
  obtain ⟨A1, q1, rfl, hq1, hx1⟩ := own_shape h2
  obtain ⟨A2, q2, rfl, hq2, hx2⟩ := own_shape h3
  obtain ⟨⟨c0, c1, c2, c3⟩, f0, f1, f2, f3⟩ := blk_cells h1
  have hJ := h1.lt
  clear h2 h3
  obtain ⟨dd, hdd⟩ : ∃ dd : Bool, Hid (dd = true ↔ Direct SS TS) := by
    by_cases h : Direct SS TS
    · exact ⟨true, by show _ ↔ _; simp [h]⟩
    · exact ⟨false, by show _ ↔ _; simp [h]⟩
  go_enter Try.func34, Try.ntmps34
  go_upto_region 1 with (fail)
  go_cut [31] (fun s31 wx => s31 = .bool dd ∧ w = wx)
  case first =>
    by_cases e1 : SS.length = 0
    · have b1 : ((SS.length : Int) == 0) = true := by simp [e1]
      by_cases e2 : TS.length = 1
      · have b2 : ((TS.length : Int) == 1) = true := by simp [e2]
        obtain ⟨t, rfl⟩ : ∃ t, TS = [t] := by
          match TS, e2 with
          | [t], _ => exact ⟨t, rfl⟩
        obtain ⟨g, rfl, hg, hcell⟩ := hx2 (by simp)
        have y1 := hcell 1 (.int .u32 (t.off : Int)) rfl
        by_cases e3 : t.off = 0
        · have b3 : ((t.off : Int) == 0) = true := by simp [e3]
          obtain rfl : dd = true := hdd.out.2 ⟨e1, t, rfl, e3⟩
          have E1 := hide e1
          have E3 := hide e3
          clear e1 e3
          go_wp2
          go_meet
          exact ⟨rfl, rfl⟩
        · have b3 : ((t.off : Int) == 0) = false := by simp; omega
          obtain rfl : dd = false := by
            cases hd : dd with
            | false => rfl
            | true =>
              obtain ⟨_, u, hu, hu0⟩ := hdd.out.1 hd
              obtain rfl : t = u := by simpa using hu
              exact absurd hu0 e3
          have E1 := hide e1
          clear e1 e3
          go_wp2
          go_meet
          exact ⟨rfl, rfl⟩
      · have b2 : ((TS.length : Int) == 1) = false := by simp; omega
        obtain rfl : dd = false := by
          cases hd : dd with
          | false => rfl
          | true =>
            obtain ⟨_, u, rfl, _⟩ := hdd.out.1 hd
            exact absurd rfl e2
        have E1 := hide e1
        clear e1
        go_wp2
        go_meet
        exact ⟨rfl, rfl⟩
    · have b1 : ((SS.length : Int) == 0) = false := by simp; exact fun h => e1 (by rw [h]; rfl)
      obtain rfl : dd = false := by
        cases hd : dd with
        | false => rfl
        | true => exact absurd (hdd.out.1 hd).1 e1
      go_wp2
      go_meet
      exact ⟨rfl, rfl⟩
  case rest =>
    obtain ⟨rfl, rfl⟩ := hcut
    cases dd with
    | true =>
      obtain ⟨e1, t, rfl, e3⟩ := hdd.out.1 rfl
      obtain ⟨g, rfl, hg, hcell⟩ := hx2 (by simp)
      have y1 := hcell 0 (.slice t.A t.n t.c) rfl
      have hs0 : SS = [] := List.eq_nil_of_length_eq_zero e1
      have hz : t.zs = C := by
        rw [hs0] at ht
        have ht' : JM.Tile C [(t.zs, t.off)] := ht
        rw [e3] at ht'
        exact ht'.one
      have R : Hid (RdT w t.A t.n C ∧ t.n ≤ t.c) := hide (by rw [← hz]; exact h5 t (by simp))
      clear e1 e3 hs0 hz h5 ht
      go_wp2
      go_ret
      exact ⟨_, _, _, rfl, R.out.1, R.out.2, Below.refl _ _⟩
    | false =>
      clear hdd
      go_wp2_with (at_make; refine wpList_mk (c := C.length) E42 rfl _ rfl w.heap.size C.length rfl rfl (by omega) (by decide) (Nat.le_refl _) ?_; intro w1 hown hgw hsz; have hb1 : Below w.heap.size w w1 := (Below.refl _ _).grown hgw (Nat.le_refl _) (by intro k hk; cases hk); have d0 := (hb1.cell (p := ⟨J, 0, none⟩) hJ).trans c0)
      clear d0
      rw [made_bytes] at hown
      go_loopw [49] (fun i wr => ∃ (k : Nat) (buf : List UInt8), k ≤ SS.length ∧ i = .int .i64 k ∧ wr.ownsRow w.heap.size 5 1 (.slice (some ⟨w.heap.size, 0, none⟩) C.length C.length) C.length (buf.map bv) ∧
          JM.Laid C buf ((piecesS SS).take k) ∧ Below w.heap.size w wr) (fun i _ => SS.length - (intOf i).toNat)
      case atStart => exact ⟨0, _, by omega, rfl, hown, JM.Laid.start C _ (by simp), hb1⟩
      case round =>
        clear hown hb1 hsz hgw
        obtain ⟨k, buf, hk, rfl, hown, hlaid, hbw⟩ := hrel
        have hbs := hbw.size
        by_cases hlt : k < SS.length
        · obtain ⟨g, rfl, hg, hcell⟩ := hx1 (by omega)
          obtain ⟨p, hp⟩ : ∃ p, SS[k]? = some p := ⟨_, List.getElem?_eq_getElem hlt⟩
          obtain ⟨x1, x2⟩ := sCells_get hp
          have y1 := (hbw.cell (p := ⟨g, k * 2, none⟩) hg).trans (hcell _ _ x1)
          have y2 := (hbw.cell (p := ⟨g, k * 2 + 1, none⟩) hg).trans (hcell _ _ x2)
          have hpp : (piecesS SS)[k]? = some (p.1.data.toList, p.2) := by simp [piecesS, hp]
          have hfit := ht.1 (p.1.data.toList, p.2) (List.mem_append_left _ (List.mem_of_getElem? hpp))
          have hlay := hide (hlaid.lay hfit)
          have hnext : Hid ((piecesS SS).take (k + 1) = (piecesS SS).take k ++ [(p.1.data.toList, p.2)]) := hide (by rw [List.take_add_one, hpp]; rfl)
          have hf1 : p.2 + p.1.size ≤ C.length := by have := hfit.1; rwa [show (p.1.data.toList, p.2).1.length = p.1.size from len_data p.1] at this
          have hf2 : p.2 + p.1.data.toList.length ≤ C.length := by rw [len_data]; exact hf1
          have hlo : (p.2 : Int) ≤ (C.length : Int) := by omega
          clear x1 x2 hp hpp hfit hlaid
          by_cases hpos : 0 < p.1.size
          · have hne : ¬ C.length = p.2 := by omega
            go_wp2
            go_region_law (first | (refine step_copy_lay rfl _ _ 42 9 rfl 5 Try.underlying42 size5 (hown.alloc _).drew rfl rfl hf2 (by omega) (by intro _; first | rfl | simp) (Src.string _ _ p.1) ?_; intro w2 hown2 hg2))
            all_goals
              have hbw2 : Below w.heap.size w w2 := ((hbw.alloc hbs _).drew).grown hg2 (by simp; omega) (by intro k hk; simp at hk; omega)
              go_wp2
              go_roundw
              case rel => exact ⟨k + 1, _, by omega, by go_num, hown2, by rw [hnext.out]; exact hlay.out, hbw2⟩
              case measure => simp [intOf]; omega
          · have hz : p.1.data.toList.length = 0 := by rw [len_data]; omega
            have HZ := hide hz
            clear hz
            go_wp2
            go_region_law (first | (refine step_copy_lay rfl _ _ 42 9 rfl 5 Try.underlying42 size5 (hown.alloc _).drew rfl rfl hf2 (by rw [HZ.out]; omega) (fun h => absurd h (by rw [HZ.out]; omega)) (Src.string _ _ p.1) ?_; intro w2 hown2 hg2))
            all_goals
              have hbw2 : Below w.heap.size w w2 := ((hbw.alloc hbs _).drew).grown hg2 (by simp; omega) (by intro k hk; simp at hk; omega)
              go_wp2
              all_goals go_roundw
              case rel => exact ⟨k + 1, _, by omega, by go_num, hown2, by rw [hnext.out]; exact hlay.out, hbw2⟩
              case measure => simp [intOf]; omega
        · obtain rfl : k = SS.length := by omega
          have hlaid0 : Hid (JM.Laid C buf (piecesS SS)) := hide (by rwa [List.take_of_length_le (by simp [piecesS])] at hlaid)
          have d1 := (hbw.cell (p := ⟨J, 1, none⟩) hJ).trans c1
          clear hlaid
          go_wp2
          obtain ⟨wo, rfl⟩ : ∃ wo : World, wo = wr := ⟨_, rfl⟩
          go_loopw [66] (fun i wr => ∃ (k : Nat) (buf : List UInt8), k ≤ TS.length ∧ i = .int .i64 k ∧ wr.ownsRow w.heap.size 5 1 (.slice (some ⟨w.heap.size, 0, none⟩) C.length C.length) C.length (buf.map bv) ∧
              Hid (JM.Laid C buf (piecesS SS ++ (piecesT TS).take k)) ∧ Below w.heap.size w wr) (fun i _ => TS.length - (intOf i).toNat)
          case atStart => exact ⟨0, _, by omega, rfl, hown, by rw [List.take_zero, List.append_nil]; exact hlaid0, hbw⟩
          case round =>
            clear hown hbw hbs d1 hlaid0
            obtain ⟨k, buf, hk, rfl, hown, hlaid, hbw⟩ := hrel
            have hbs := hbw.size
            by_cases hlt : k < TS.length
            · obtain ⟨g, rfl, hg, hcell⟩ := hx2 (by omega)
              obtain ⟨t, hp⟩ : ∃ t, TS[k]? = some t := ⟨_, List.getElem?_eq_getElem hlt⟩
              obtain ⟨x1, x2⟩ := tCells_get hp
              have y1 := (hbw.cell (p := ⟨g, k * 2, none⟩) hg).trans (hcell _ _ x1)
              have y2 := (hbw.cell (p := ⟨g, k * 2 + 1, none⟩) hg).trans (hcell _ _ x2)
              have hpp : (piecesT TS)[k]? = some (t.zs, t.off) := by simp [piecesT, hp]
              have hfit := ht.1 (t.zs, t.off) (List.mem_append_right _ (List.mem_of_getElem? hpp))
              have hlay := hide (hlaid.out.lay hfit)
              have hnext : Hid (piecesS SS ++ (piecesT TS).take (k + 1) = piecesS SS ++ (piecesT TS).take k ++ [(t.zs, t.off)]) := hide (by rw [List.take_add_one, hpp, List.append_assoc]; rfl)
              obtain ⟨hz1, hz2⟩ := h5 t (List.mem_of_getElem? hp)
              have hzl := hide hz1.1
              have hz3 := ((hz1.keep (Keep.below hbw)).keep ((Keep.refl 5 wr).alloc (.cells #[.slice t.A t.n t.c, .int .u32 (t.off : Int)] 154))).rd
              have hf1 : t.off + t.n ≤ C.length := by have := hfit.1; rwa [show (t.zs, t.off).1.length = t.n from hz1.1] at this
              have hf2 : t.off + t.zs.length ≤ C.length := by rw [hz1.1]; exact hf1
              have hlo : (t.off : Int) ≤ (C.length : Int) := by omega
              clear x1 x2 hp hpp hfit hlaid hz1
              by_cases hpos : 0 < t.n
              · have hne : ¬ C.length = t.off := by omega
                go_wp2
                go_region_law (first | (refine step_copy_lay rfl _ _ 42 42 rfl 5 Try.underlying42 size5 (hown.alloc _).drew rfl rfl hf2 (by omega) (by intro _; first | rfl | simp) (Src.slice hz3.drew) ?_; intro w2 hown2 hg2))
                all_goals
                  have hbw2 : Below w.heap.size w w2 := ((hbw.alloc hbs _).drew).grown hg2 (by simp; omega) (by intro k hk; simp at hk; omega)
                  go_wp2
                  go_roundw
                  case rel => exact ⟨k + 1, _, by omega, by go_num, hown2, by rw [hnext.out]; exact hlay, hbw2⟩
                  case measure => simp [intOf]; omega
              · go_wp2
                go_region_law (first | (refine step_copy_lay rfl _ _ 42 42 rfl 5 Try.underlying42 size5 (hown.alloc _).drew rfl rfl hf2 (by rw [hzl.out]; omega) (fun h => absurd h (by rw [hzl.out]; omega)) (Src.slice hz3.drew) ?_; intro w2 hown2 hg2))
                all_goals
                  have hbw2 : Below w.heap.size w w2 := ((hbw.alloc hbs _).drew).grown hg2 (by simp; omega) (by intro k hk; simp at hk; omega)
                  go_wp2
                  all_goals go_roundw
                  case rel => exact ⟨k + 1, _, by omega, by go_num, hown2, by rw [hnext.out]; exact hlay, hbw2⟩
                  case measure => simp [intOf]; omega
            · obtain rfl : k = TS.length := by omega
              have hfin : Hid (buf = C) := hide (by
                have h := hlaid.out
                rw [List.take_of_length_le (by simp [piecesT])] at h
                exact h.done ht (fun p hp => hp))
              have hres := hide (own_rdT hown)
              clear hlaid hown
              go_wp2
              go_ret
              have R := hres.out
              rw [hfin.out] at R
              exact ⟨_, _, _, rfl, R, Nat.le_refl _, hbw⟩
end Go.Proofs.Ytpfnonkcjlfibaa
