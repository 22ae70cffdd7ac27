/-
  The walk of FnContainsModel. Conditions: none.
-/
import Derived.Test.YteimbkhclmghhaaJLaw1
namespace Go.Proofs.Yteimbkhclmghhaa
open Go.RowKit

set_option maxHeartbeats 1600000 in
theorem bytes4_any (A D E : Option Addr) (n c m d l q : Nat) (ss : List ByteArray) (s0 : ByteArray) (w : World) (h : RdV w w.heap.size A n (ss.map Value.string)) :
    Calls Try.prog 18 #[.slice A n c, .slice D m d, .string s0, .slice E l q] w (SomeBool w) := by
  by_cases hn : n ≤ 1048576
  · go_enter Try.func18, Try.ntmps18
    go_wp2
    go_loop [9, 10] (fun z i => ∃ k N : Nat, k ≤ n ∧ i = .int .i64 k ∧ z = .int .i64 N ∧ N ≤ 1048576) (fun _ i => n - (intOf i).toNat)
    case atStart => exact ⟨0, n, by omega, rfl, by go_num, hn⟩
    case round =>
      obtain ⟨k, N, hk, rfl, rfl, hz⟩ := hrel
      by_cases hlt : k < n
      · obtain ⟨b, off, s, rfl, hb, hs, hc⟩ := h.str hlt
        clear hs
        by_cases h1 : s.size ≤ 1048576
        · by_cases h2 : N + s.size ≤ 1048576
          · go_wp2
            go_round
            case rel => exact ⟨k + 1, N + s.size, by omega, by go_num, by go_num, h2⟩
            case measure => simp [intOf]; omega
          · go_wp2
            go_ret
            exact ⟨_, rfl, rfl⟩
        · go_wp2
          go_ret
          exact ⟨_, rfl, rfl⟩
      · by_cases hm : m ≤ 1048576
        · by_cases hNm : N + m ≤ 1048576
          · by_cases hs0 : s0.size ≤ 1048576
            · by_cases hNs : N + m + s0.size ≤ 1048576
              · by_cases hl : l ≤ 1048576
                · by_cases hNl : N + m + s0.size + l ≤ 1048576
                  all_goals
                    go_wp2
                    go_ret
                    exact ⟨_, rfl, rfl⟩
                · go_wp2
                  go_ret
                  exact ⟨_, rfl, rfl⟩
              · go_wp2
                go_ret
                exact ⟨_, rfl, rfl⟩
            · go_wp2
              go_ret
              exact ⟨_, rfl, rfl⟩
          · go_wp2
            go_ret
            exact ⟨_, rfl, rfl⟩
        · go_wp2
          go_ret
          exact ⟨_, rfl, rfl⟩
  · go_enter Try.func18, Try.ntmps18
    go_wp2
    go_ret
    exact ⟨_, rfl, rfl⟩

def WantIs (ss : List ByteArray) (ks : List Bool) (s : ByteArray) (bs : List UInt8) (k : Nat) (v : Value) : Prop := ∃ b, v = .bool b ∧ Hid (b = hits ss ks s bs k)

set_option maxHeartbeats 3200000 in
theorem model_any (A D E : Option Addr) (n c m d l q : Nat) (ss : List ByteArray) (ks : List Bool) (s : ByteArray) (bs : List UInt8) (w : World) (hA : RdV w w.heap.size A n (ss.map Value.string)) (hD : RdV w w.heap.size D m (ks.map Value.bool)) (hE : Rd w w.heap.size E l bs) :
    Calls Try.prog 6 #[.slice A n c, .slice D m d, .string s, .slice E l q] w fun e w' => e = .returned (.bool true) ∧ Below w.heap.size w w' := by
  go_enter Try.func6, Try.ntmps6
  go_wp2_with fail
  refine (bytes4_any A D E n c m d l q ss s _ hA).mono ?_
  rintro e w' ⟨b, rfl, rfl⟩
  cases b with
  | false =>
    go_wp2
    go_ret
    exact ⟨rfl, Below.refl _ _⟩
  | true =>
    go_wp2_with fail
    refine (tooBig_any A D n c m d ss _ hA).mono ?_
    rintro e w' ⟨b, rfl, rfl, hsm⟩
    cases b with
    | true =>
      go_wp2
      go_ret
      exact ⟨rfl, Below.refl _ _⟩
    | false =>
      obtain ⟨hn, hm, ht⟩ := hsm rfl
      clear hsm
      by_cases hs : s.size ≤ 256
      · by_cases hl : l ≤ 256
        · go_wp2_with fail
          have hb0 := (Below.refl w.heap.size w).alloc (Nat.le_refl _) (.cells #[.slice none 0 0, .slice none 0 0, .int .u32 0, .int .u8 0] 33)
          refine (build_any w.heap.size A D n c m d ss ks _ (JS.new w) (hA.below hb0) (hD.below hb0) hn ht).mono ?_
          rintro e w2 ⟨rfl, hb2, SS, TS, hjs, hbl⟩
          go_wp2_with (with_reducible refine wpList_bytes rfl (.tmp 34) 9 22 rfl s rfl Try.underlying9 Try.underlying22 Try.underlying5 ?_; intro cp w3 hcp hrt hb3 hsz3)
          have hB2 := hjs.low_le
          have hw3 := hb0.trans (hb2.trans (hb3.mono hB2))
          have hjs3 := hjs.below hb3
          have hlen : Hid (ss.length = n) := hide (by simpa using hA.1)
          have hkl : Hid (ks.length = m) := hide (by simpa using hD.1)
          have hB3 : w.heap.size ≤ w3.heap.size := by omega
          clear hjs
          go_loopw [11, 12] (fun v i wr => ∃ k : Nat, k ≤ n ∧ i = .int .i64 k ∧ WantIs ss ks s bs k v ∧ Below w3.heap.size w3 wr) (fun _ i _ => n - (intOf i).toNat)
          case atStart => exact ⟨0, by omega, rfl, ⟨false, rfl, rfl⟩, Below.refl _ _⟩
          case round =>
            obtain ⟨k, hk, rfl, ⟨b, rfl, hwb⟩, hbw⟩ := hrel
            have hall := hw3.trans (hbw.mono hB3)
            by_cases hlt : k < n
            · obtain ⟨b1, off1, p, rfl, hb1, hp, hc1⟩ := (hA.below hall).str hlt
              have hps := tot_le ss hp
              have hgd : Hid (ss.getD k ByteArray.empty = p) := hide (by simp [List.getD, hp])
              have hst := hide (hits_succ ss ks s bs k)
              have hEr := hE.below hall
              clear hp
              have hbs := hbw.size
              have hbs0 : w.heap.size ≤ wr.heap.size := by omega
              have hDr := hD.below hall
              by_cases hkm : k < m
              · obtain ⟨b2, off2, x, rfl, hb2', hx, hc2⟩ := hDr.boo hkm
                have hkx : Hid (kindAt ks k = x) := hide (by simp [kindAt, List.getD, hx])
                clear hx
                go_upto_region 15 with (with_reducible refine wpList_bytes rfl (.tmp 45) 9 22 rfl p rfl Try.underlying9 Try.underlying22 Try.underlying5 ?_; intro cp4 w4 hcp4 hrt4 hb4 hsz4)
                have hc2' := (hb4.cell (p := ⟨b2, off2 + k, none⟩) (by exact Nat.lt_of_lt_of_le hb2' hbs0)).trans hc2
                have hsr4 := (hrt.keep (Keep.below hbw)).keep (Keep.below hb4)
                cases x with
                | true =>
                  cases hh : JM.hasSub p.data.toList bs with
                  | true =>
                    have hnx : Hid (true = hits ss ks s bs (k + 1)) := hide (by rw [hst.out, show hit ss ks s bs k = true from by unfold hit; rw [hkx.out, hgd.out]; exact hh, Bool.or_true])
                    have hq := sub_any (some ⟨wr.heap.size, 0, none⟩) E p.size cp4 l q p.data.toList bs w4 hrt4.rd ((hEr.below (hb4.mono hbs0)).more (by omega)) (by omega) (by omega)
                    rw [hh] at hq
                    clear hh
                    go_wp2_with (go_at_call 14; refine hq.mono ?_; clear hq; rintro e w5 ⟨rfl, r, rfl⟩)
                    go_roundw
                    case rel => exact ⟨k + 1, by omega, by go_num, ⟨true, rfl, hnx⟩, below_drewN (hbw.trans (hb4.mono hbs)) r⟩
                    case measure => simp [intOf]; omega
                  | false =>
                    have hnx : Hid (b = hits ss ks s bs (k + 1)) := hide (by rw [hst.out, show hit ss ks s bs k = false from by unfold hit; rw [hkx.out, hgd.out]; exact hh, Bool.or_false]; exact hwb)
                    have hq := sub_any (some ⟨wr.heap.size, 0, none⟩) E p.size cp4 l q p.data.toList bs w4 hrt4.rd ((hEr.below (hb4.mono hbs0)).more (by omega)) (by omega) (by omega)
                    rw [hh] at hq
                    clear hh
                    go_wp2_with (go_at_call 14; refine hq.mono ?_; clear hq; rintro e w5 ⟨rfl, r, rfl⟩)
                    go_roundw
                    case rel => exact ⟨k + 1, by omega, by go_num, ⟨b, rfl, hnx⟩, below_drewN (hbw.trans (hb4.mono hbs)) r⟩
                    case measure => simp [intOf]; omega
                | false =>
                  cases hh : JM.hasSub p.data.toList s.data.toList with
                  | true =>
                    have hnx : Hid (true = hits ss ks s bs (k + 1)) := hide (by rw [hst.out, show hit ss ks s bs k = true from by unfold hit; rw [hkx.out, hgd.out]; exact hh, Bool.or_true])
                    have hq := sub_any (some ⟨wr.heap.size, 0, none⟩) (some ⟨w2.heap.size, 0, none⟩) p.size cp4 s.size cp p.data.toList s.data.toList w4 hrt4.rd hsr4.rd (by omega) (by omega)
                    rw [hh] at hq
                    clear hh
                    go_wp2_with (go_at_call 14; refine hq.mono ?_; clear hq; rintro e w5 ⟨rfl, r, rfl⟩)
                    go_roundw
                    case rel => exact ⟨k + 1, by omega, by go_num, ⟨true, rfl, hnx⟩, below_drewN (hbw.trans (hb4.mono hbs)) r⟩
                    case measure => simp [intOf]; omega
                  | false =>
                    have hnx : Hid (b = hits ss ks s bs (k + 1)) := hide (by rw [hst.out, show hit ss ks s bs k = false from by unfold hit; rw [hkx.out, hgd.out]; exact hh, Bool.or_false]; exact hwb)
                    have hq := sub_any (some ⟨wr.heap.size, 0, none⟩) (some ⟨w2.heap.size, 0, none⟩) p.size cp4 s.size cp p.data.toList s.data.toList w4 hrt4.rd hsr4.rd (by omega) (by omega)
                    rw [hh] at hq
                    clear hh
                    go_wp2_with (go_at_call 14; refine hq.mono ?_; clear hq; rintro e w5 ⟨rfl, r, rfl⟩)
                    go_roundw
                    case rel => exact ⟨k + 1, by omega, by go_num, ⟨b, rfl, hnx⟩, below_drewN (hbw.trans (hb4.mono hbs)) r⟩
                    case measure => simp [intOf]; omega
              · have hkx : Hid (kindAt ks k = false) := hide (by
                  unfold kindAt
                  rw [List.getD_eq_getElem?_getD, List.getElem?_eq_none (by rw [hkl.out]; omega)]
                  rfl)
                go_upto_region 15 with (with_reducible refine wpList_bytes rfl (.tmp 45) 9 22 rfl p rfl Try.underlying9 Try.underlying22 Try.underlying5 ?_; intro cp4 w4 hcp4 hrt4 hb4 hsz4)
                have hsr4 := (hrt.keep (Keep.below hbw)).keep (Keep.below hb4)
                cases hh : JM.hasSub p.data.toList s.data.toList with
                | true =>
                  have hnx : Hid (true = hits ss ks s bs (k + 1)) := hide (by rw [hst.out, show hit ss ks s bs k = true from by unfold hit; rw [hkx.out, hgd.out]; exact hh, Bool.or_true])
                  have hq := sub_any (some ⟨wr.heap.size, 0, none⟩) (some ⟨w2.heap.size, 0, none⟩) p.size cp4 s.size cp p.data.toList s.data.toList w4 hrt4.rd hsr4.rd (by omega) (by omega)
                  rw [hh] at hq
                  clear hh
                  go_wp2_with (go_at_call 14; refine hq.mono ?_; clear hq; rintro e w5 ⟨rfl, r, rfl⟩)
                  go_roundw
                  case rel => exact ⟨k + 1, by omega, by go_num, ⟨true, rfl, hnx⟩, below_drewN (hbw.trans (hb4.mono hbs)) r⟩
                  case measure => simp [intOf]; omega
                | false =>
                  have hnx : Hid (b = hits ss ks s bs (k + 1)) := hide (by rw [hst.out, show hit ss ks s bs k = false from by unfold hit; rw [hkx.out, hgd.out]; exact hh, Bool.or_false]; exact hwb)
                  have hq := sub_any (some ⟨wr.heap.size, 0, none⟩) (some ⟨w2.heap.size, 0, none⟩) p.size cp4 s.size cp p.data.toList s.data.toList w4 hrt4.rd hsr4.rd (by omega) (by omega)
                  rw [hh] at hq
                  clear hh
                  go_wp2_with (go_at_call 14; refine hq.mono ?_; clear hq; rintro e w5 ⟨rfl, r, rfl⟩)
                  go_roundw
                  case rel => exact ⟨k + 1, by omega, by go_num, ⟨b, rfl, hnx⟩, below_drewN (hbw.trans (hb4.mono hbs)) r⟩
                  case measure => simp [intOf]; omega
            · obtain rfl : k = n := by omega
              have hS3 : ∀ p ∈ SS, p.1.size ≤ 4294967296 := fun p hp => by have := size_le_tot (hbl.mS p hp); omega
              have hT3 : ∀ t ∈ TS, t.n ≤ 4294967295 := fun t ht' => by
                obtain ⟨s', hs', e⟩ := hbl.mT t ht'
                have := size_le_tot hs'
                omega
              have hnS := hbl.nS
              have hnT := hbl.nT
              have hbs := hbw.size
              have hc := joinContains_any w.heap.size s E l q bs wr (hjs3.below hbw) hS3 hT3 (by omega) ((hE.below hall).more (by omega)) (by omega) (by omega) (by omega)
              rw [hbl.any s bs, ← hwb.out] at hc
              go_wp2_with fail
              refine hc.mono ?_
              clear hc
              rintro e w5 ⟨rfl, hb5⟩
              go_wp2
              go_ret
              exact ⟨by simp, hall.trans (hb5.mono (by omega))⟩
        · go_wp2
          go_ret
          exact ⟨rfl, Below.refl _ _⟩
      · go_wp2
        go_ret
        exact ⟨rfl, Below.refl _ _⟩
end Go.Proofs.Yteimbkhclmghhaa
