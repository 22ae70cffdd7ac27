/-
  The walk of FnContainsImpliesDoneContains. Conditions: none.
-/
import Derived.Test.YteimbkhclmghhaaJBuild
namespace Go.Proofs.Yteimbkhclmghhaa
open Go.RowKit

theorem any_tile {ss : List ByteArray} {ks : List Bool} {k : Nat} {SS : List (ByteArray × Nat)} {TS : List BItem} (h : Built ss ks k SS TS) {s : ByteArray} (ha : (anyS SS s || anyT TS s.data.toList) = true) : JM.hasSub (cat (ss.take k)) s.data.toList = true := by
  rw [Bool.or_eq_true] at ha
  rcases ha with ha | ha
  · unfold anyS at ha
    rw [List.any_eq_true] at ha
    obtain ⟨p, hp, hs⟩ := ha
    exact JM.hasSub_piece (h.tile.1 (p.1.data.toList, p.2) (List.mem_append_left _ (List.mem_map_of_mem hp))) hs
  · unfold anyT at ha
    rw [List.any_eq_true] at ha
    obtain ⟨t, ht, hs⟩ := ha
    exact JM.hasSub_piece (h.tile.1 (t.zs, t.off) (List.mem_append_right _ (List.mem_map_of_mem ht))) hs

theorem size_le_tot {ss : List ByteArray} {s : ByteArray} (h : s ∈ ss) : s.size ≤ tot ss := by
  obtain ⟨i, hi, rfl⟩ := List.mem_iff_getElem.1 h
  have := tot_le ss (List.getElem?_eq_getElem hi)
  omega

set_option maxHeartbeats 3200000 in
theorem implies_any (A D : Option Addr) (n c m d : Nat) (ss : List ByteArray) (ks : List Bool) (s : ByteArray) (w : World) (hA : RdV w w.heap.size A n (ss.map Value.string)) (hD : RdV w w.heap.size D m (ks.map Value.bool)) :
    Calls Try.prog 4 #[.slice A n c, .slice D m d, .string s] w fun e w' => e = .returned (.bool true) ∧ Below w.heap.size w w' := by
  go_enter Try.func4, Try.ntmps4
  go_wp2_with fail
  refine (bytes3_any A D n c m d ss s _ hA).mono ?_
  rintro e w' ⟨b, rfl, rfl⟩
  cases b with
  | false =>
    go_wp2
    go_ret
    exact ⟨rfl, Below.refl _ _⟩
  | true =>
    go_wp2_with fail
    refine (tooBig_any A D n c m d ss _ hA).mono ?_
    rintro e w' ⟨b, rfl, rfl, hsm⟩
    cases b with
    | true =>
      go_wp2
      go_ret
      exact ⟨rfl, Below.refl _ _⟩
    | false =>
      obtain ⟨hn, hm, ht⟩ := hsm rfl
      clear hsm
      by_cases hs : s.size ≤ 256
      · go_wp2_with fail
        have hb0 := (Below.refl w.heap.size w).alloc (Nat.le_refl _) (.cells #[.slice none 0 0, .slice none 0 0, .int .u32 0, .int .u8 0] 33)
        refine (build_any w.heap.size A D n c m d ss ks _ (JS.new w) (hA.below hb0) (hD.below hb0) hn ht).mono ?_
        rintro e w2 ⟨rfl, hb2, SS, TS, hjs, hbl⟩
        go_wp2_with (with_reducible refine wpList_bytes rfl (.tmp 23) 9 22 rfl s rfl Try.underlying9 Try.underlying22 Try.underlying5 ?_; intro cp w3 hcp hrt hb3 hsz3)
        have hlen : Hid (ss.length = n) := hide (by simpa using hA.1)
        have hB2 := hjs.low_le
        have hjs3 := hjs.below hb3
        have hS3 : ∀ p ∈ SS, p.1.size ≤ 4294967296 := fun p hp => by have := size_le_tot (hbl.mS p hp); omega
        have hT3 : ∀ t ∈ TS, t.n ≤ 4294967295 := fun t ht' => by
          obtain ⟨s', hs', e⟩ := hbl.mT t ht'
          have := size_le_tot hs'
          omega
        have hnS := hbl.nS
        have hnT := hbl.nT
        have hc := joinContains_any w.heap.size s (some ⟨w2.heap.size, 0, none⟩) s.size cp s.data.toList w3 hjs3 hS3 hT3 (by omega) hrt.rd (by omega) (by omega) (by omega)
        cases hany : (anyS SS s || anyT TS s.data.toList) with
        | false =>
          rw [hany] at hc
          clear hany
          refine hc.mono ?_
          clear hc
          rintro e w4 ⟨rfl, hb4⟩
          go_wp2
          go_ret
          exact ⟨rfl, (hb0.trans (hb2.trans (hb3.mono hB2))).trans (hb4.mono (by omega))⟩
        | true =>
          have hsub := any_tile hbl hany
          rw [hany] at hc
          clear hany
          refine hc.mono ?_
          clear hc
          rintro e w4 ⟨rfl, hb4⟩
          have hcl := cat_length (ss.take n)
          have hjs4 : JS w4 w.heap.size w.heap.size SS TS (cat (ss.take n)).length := by rw [hcl]; exact hjs3.below hb4
          have hcn : (cat (ss.take n)).length < 4294967296 := by
            rw [hcl, tot_all hlen.out]
            omega
          have HS := hide hsub
          have HT := hide hbl.tile
          clear hsub hcl
          generalize hCat : cat (ss.take n) = C at *
          clear hCat hjs hjs3
          go_wp2_with fail
          refine (done_any w.heap.size C _ hjs4 HT.out hcn (by omega) (by omega)).mono ?_
          rintro e w5 ⟨A5, n5, c5, rfl, hr5, hc5, hb5⟩
          have hn5 := hr5.1
          go_wp2_with (with_reducible refine wpList_bytes rfl (.tmp 28) 9 22 rfl s rfl Try.underlying9 Try.underlying22 Try.underlying5 ?_; intro cp6 w6 hcp6 hrt6 hb6 hsz6)
          have hq := sub_any A5 (some ⟨w5.heap.size, 0, none⟩) n5 c5 s.size cp6 C s.data.toList w6 ((hr5.keep (Keep.below hb6)).rd) hrt6.rd (by omega) (by omega)
          rw [HS.out] at hq
          refine hq.mono ?_
          clear hq
          rintro e w7 ⟨rfl, q, rfl⟩
          go_wp2
          go_ret
          have h4 := hb4.size
          have h5 := hb5.size
          exact ⟨rfl, below_drewN ((((hb0.trans (hb2.trans (hb3.mono hB2))).trans (hb4.mono (by omega))).trans (hb5.mono (by omega))).trans (hb6.mono (by omega))) q⟩
      · go_wp2
        go_ret
        exact ⟨rfl, Below.refl _ _⟩
end Go.Proofs.Yteimbkhclmghhaa
