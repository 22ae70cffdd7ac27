/-
  The walk of Decode over the encoder's text. Conditions: sizes.
-/
import Derived.Test.YtfimnjdfchdldaaFmtLst
import Derived.OwnWalk
import Derived.Deep.RegionWith
namespace Go.Proofs.YtfimnjdfchdldaaFmt
open Go.RowKit

set_option maxHeartbeats 8000000 in
set_option maxRecDepth 100000 in
theorem decode_any (E g N cap b n cs : Nat) (zs L0 : List UInt8) (w : World) {base : Nat} (hE : StdAt w E) (hown : w.ownsRow base 5 1 (.slice (some ⟨g, 0, none⟩) N cap) N (L0.map bv)) (hr : Rd w w.heap.size (some ⟨b, 0, none⟩) n (BM.enc zs))
    (hcs : n ≤ cs) (hbg : b ≠ g) (h0 : 0 < zs.length) (hz : zs.length ≤ 1048576) (hN : N = 3 * ((zs.length + 2) / 3)) (hNc : N ≤ cap) :
    Calls Tryf.prog 51 #[.pointer (some ⟨E, 0, none⟩), .slice (some ⟨g, 0, none⟩) N cap, .slice (some ⟨b, 0, none⟩) n cs] w (DecTo w base g N cap zs) := by
  obtain ⟨Q, hQ⟩ : ∃ Q, Q = (zs.length + 2) / 3 := ⟨_, rfl⟩
  have hn : n = 4 * Q := by rw [← hr.len, BM.enc_length, hQ]
  rw [← hQ] at hN
  have hQ0 : 0 < Q := by omega
  have hQb : Q ≤ 349526 := by omega
  have hz1 : zs.length ≤ 3 * Q := by omega
  have hz2 : 3 * Q < zs.length + 3 := by omega
  have hN1 : N ≤ 3 * Q := by omega
  have hN2 : 3 * Q ≤ N := by omega
  have hn1 : n ≤ 4 * Q := by omega
  have hn2 : 4 * Q ≤ n := by omega
  clear hQ hN hn
  go_enter Tryf.func51, Tryf.ntmps51
  go_upto_region 4 with (with_reducible refine wpList_load73 rfl (.tmp 23) rfl E rfl hE ?_; intro X)
  go_wp2
  go_loopw [6, 7, 8] (fun s6 s7 s8 wr => ∃ (G : Nat) (L : List UInt8), G < Q ∧ s7 = .nilIface ∧ s6 = .int .i64 (3 * G : Nat) ∧ s8 = .int .i64 (4 * G : Nat) ∧ wr.ownsRow base 5 1 (.slice (some ⟨g, 0, none⟩) N cap) N (L.map bv) ∧ Hid (Front zs L (3 * G)) ∧ Hid (StdAt wr E) ∧ Hid (Rd wr w.heap.size (some ⟨b, 0, none⟩) n (BM.enc zs)) ∧ w.grownBy wr (some g)) (fun _ _ s8 _ => n - (intOf s8).toNat)
  case atStart => exact ⟨0, L0, hQ0, rfl, rfl, rfl, hown, hide (Front.zero _ _), hide hE, hide hr, grown_same _ _⟩
  case round =>
    clear hown hr
    obtain ⟨G, L, hG, rfl, rfl, rfl, hown, hF, hE', hr, hg⟩ := hrel
    by_cases h3 : G + 3 ≤ Q
    · as_aux_lemma =>
        obtain ⟨p0, hp0⟩ : ∃ x, zs[3 * G]? = some x := ⟨_, List.getElem?_eq_getElem (by omega)⟩
        obtain ⟨p1, hp1⟩ : ∃ x, zs[3 * G + 1]? = some x := ⟨_, List.getElem?_eq_getElem (by omega)⟩
        obtain ⟨p2, hp2⟩ : ∃ x, zs[3 * G + 2]? = some x := ⟨_, List.getElem?_eq_getElem (by omega)⟩
        obtain ⟨p3, hp3⟩ : ∃ x, zs[3 * (G + 1)]? = some x := ⟨_, List.getElem?_eq_getElem (by omega)⟩
        obtain ⟨p4, hp4⟩ : ∃ x, zs[3 * (G + 1) + 1]? = some x := ⟨_, List.getElem?_eq_getElem (by omega)⟩
        obtain ⟨p5, hp5⟩ : ∃ x, zs[3 * (G + 1) + 2]? = some x := ⟨_, List.getElem?_eq_getElem (by omega)⟩
        obtain ⟨f0, f1, f2, f3⟩ := enc_full hp0 hp1 hp2
        obtain ⟨f4, f5, f6, f7⟩ := enc_full hp3 hp4 hp5
        have hV0 := BM.v3_lt p0 p1 p2
        have hV1 := BM.v3_lt p3 p4 p5
        have hD : Hid (∀ j, j < 6 → (beBytes 8 ((BM.v3 p0 p1 p2 * 16777216 + BM.v3 p3 p4 p5) * 65536))[j]? = zs[3 * G + j]?) := hide (fun j hj => by
          rw [word64 p0 p1 p2 p3 p4 p5 j hj]
          match j, hj with
          | 0, _ => exact hp0.symm
          | 1, _ => exact hp1.symm
          | 2, _ => exact hp2.symm
          | 3, _ => exact hp3.symm
          | 4, _ => exact hp4.symm
          | 5, _ => exact hp5.symm)
        obtain ⟨V0, hVe0⟩ : ∃ V, V = BM.v3 p0 p1 p2 := ⟨_, rfl⟩
        obtain ⟨V1, hVe1⟩ : ∃ V, V = BM.v3 p3 p4 p5 := ⟨_, rfl⟩
        rw [← hVe0, ← hVe1] at hD
        rw [← hVe0] at f0 f1 f2 f3 hV0
        rw [← hVe1] at f4 f5 f6 f7 hV1
        clear hp0 hp1 hp2 hp3 hp4 hp5 hVe0 hVe1
        obtain ⟨t0, t1, t2, t3, -⟩ := BM.digits_val hV0
        obtain ⟨t4, t5, t6, t7, -⟩ := BM.digits_val hV1
        have hcl := (hr.out.all (show 0 < n by omega))
        obtain ⟨b', off', hbe, _, hcell⟩ := hcl
        cases hbe
        have g0 := hcell _ _ f0
        have g1 := hcell _ _ f1
        have g2 := hcell _ _ f2
        have g3 := hcell _ _ f3
        have g4 := hcell _ _ f4
        have g5 := hcell _ _ f5
        have g6 := hcell _ _ f6
        have g7 := hcell _ _ f7
        have m0 := std_map hE'.out t0
        have m1 := std_map hE'.out t1
        have m2 := std_map hE'.out t2
        have m3 := std_map hE'.out t3
        have m4 := std_map hE'.out t4
        have m5 := std_map hE'.out t5
        have m6 := std_map hE'.out t6
        have m7 := std_map hE'.out t7
        have hval := assemble64_any _ _ _ _ _ _ _ _ t0 t1 t2 t3 t4 t5 t6 t7
        rw [show 4 * (G + 1) = 4 * G + 4 by omega] at g4 g5 g6 g7
        simp only [Nat.zero_add, Nat.add_assoc, Nat.reduceAdd] at g0 g1 g2 g3 g4 g5 g6 g7
        have hback : ((((((((V0 / 262144) * 64 + V0 / 4096 % 64) * 64 + V0 / 64 % 64) * 64 + V0 % 64) * 64 + V1 / 262144) * 64 + V1 / 4096 % 64) * 64 + V1 / 64 % 64) * 64 + V1 % 64) = V0 * 16777216 + V1 := by omega
        rw [hback] at hval
        obtain ⟨DN, hDN⟩ : ∃ DN, DN = (V0 * 16777216 + V1) * 65536 := ⟨_, rfl⟩
        rw [← hDN] at hval hD
        clear hDN
        clear hcell f0 f1 f2 f3 f4 f5 f6 f7 hback
        have l0 := (BM.al (V0 / 262144)).toNat_lt
        generalize (BM.al (V0 / 262144)).toNat = c0 at g0 m0 l0
        have l1 := (BM.al (V0 / 4096 % 64)).toNat_lt
        generalize (BM.al (V0 / 4096 % 64)).toNat = c1 at g1 m1 l1
        have l2 := (BM.al (V0 / 64 % 64)).toNat_lt
        generalize (BM.al (V0 / 64 % 64)).toNat = c2 at g2 m2 l2
        have l3 := (BM.al (V0 % 64)).toNat_lt
        generalize (BM.al (V0 % 64)).toNat = c3 at g3 m3 l3
        have l4 := (BM.al (V1 / 262144)).toNat_lt
        generalize (BM.al (V1 / 262144)).toNat = c4 at g4 m4 l4
        have l5 := (BM.al (V1 / 4096 % 64)).toNat_lt
        generalize (BM.al (V1 / 4096 % 64)).toNat = c5 at g5 m5 l5
        have l6 := (BM.al (V1 / 64 % 64)).toNat_lt
        generalize (BM.al (V1 / 64 % 64)).toNat = c6 at g6 m6 l6
        have l7 := (BM.al (V1 % 64)).toNat_lt
        generalize (BM.al (V1 % 64)).toNat = c7 at g7 m7 l7
        generalize V0 / 262144 = d0 at m0 t0 hval
        generalize V0 / 4096 % 64 = d1 at m1 t1 hval
        generalize V0 / 64 % 64 = d2 at m2 t2 hval
        generalize V0 % 64 = d3 at m3 t3 hval
        generalize V1 / 262144 = d4 at m4 t4 hval
        generalize V1 / 4096 % 64 = d5 at m5 t5 hval
        generalize V1 / 64 % 64 = d6 at m6 t6 hval
        generalize V1 % 64 = d7 at m7 t7 hval
        clear hV0 hV1 t0 t1 t2 t3 t4 t5 t6 t7
        go_upto_region 7 with (fail)
        have h8 : 4 * G + 8 - 4 * G = 8 := by omega
        have k0 : c0 ≤ 255 := by omega
        have k1 : c1 ≤ 255 := by omega
        have k2 : c2 ≤ 255 := by omega
        have k3 : c3 ≤ 255 := by omega
        have k4 : c4 ≤ 255 := by omega
        have k5 : c5 ≤ 255 := by omega
        have k6 : c6 ≤ 255 := by omega
        have k7 : c7 ≤ 255 := by omega
        clear l0 l1 l2 l3 l4 l5 l6 l7
        have i0 := idx73 E c0 k0
        have i1 := idx73 E c1 k1
        have i2 := idx73 E c2 k2
        have i3 := idx73 E c3 k3
        have i4 := idx73 E c4 k4
        have i5 := idx73 E c5 k5
        have i6 := idx73 E c6 k6
        have i7 := idx73 E c7 k7
        rw [h8]
        go_cut [10, 11] (fun s10 s11 wx => s10 = .int .u64 (DN : Int) ∧ s11 = .bool true ∧ ∃ q, wx = wr.drewN q)
        case first =>
          go_quiet ((go_at_call 61; exact Calls.quiet_of_same ((hval _).mono fun _ _ h => ⟨h.1, h.2.symm⟩)))
          all_goals go_wp2
          all_goals go_meet
          all_goals exact ⟨rfl, rfl, _, rfl⟩
        case rest =>
          obtain ⟨rfl, rfl, q, rfl⟩ := hcut
          clear i0 i1 i2 i3 i4 i5 i6 i7 m0 m1 m2 m3 m4 m5 m6 m7 g0 g1 g2 g3 g4 g5 g6 g7 hval h8
          go_wp2_with fail
          refine (bePut64_any DN L g N cap (3 * G) (cap - 3 * G) (wr.drewN q) (base := base) hown (by omega) (by omega)).mono ?_
          intro e w1 hp
          obtain ⟨hF1, hE1, hr1, hg1⟩ := put_next hE'.out hown hr.out hF.out hg hbg hD.out (by rw [beBytes_length]; omega) (by rw [beBytes_length]; omega) hp
          obtain ⟨rfl, hown1, -⟩ := hp
          clear hown hr hF hg hE'
          replace hF1 := hide hF1
          replace hE1 := hide hE1
          replace hr1 := hide hr1
          go_wp2
          go_roundw
          case rel => exact ⟨G + 2, _, by omega, rfl, by go_num, by go_num, hown1, hF1, hE1, hr1, hg1⟩
          case measure => simp [intOf]; omega
    · obtain ⟨wo, rfl⟩ : ∃ wo : World, wo = wr := ⟨_, rfl⟩
      go_wp2
      all_goals
        go_loopw [6, 7, 8] (fun s6 s7 s8 wr => ∃ (G : Nat) (L : List UInt8), G < Q ∧ s7 = .nilIface ∧ s6 = .int .i64 (3 * G : Nat) ∧ s8 = .int .i64 (4 * G : Nat) ∧ wr.ownsRow base 5 1 (.slice (some ⟨g, 0, none⟩) N cap) N (L.map bv) ∧ Hid (Front zs L (3 * G)) ∧ Hid (StdAt wr E) ∧ Hid (Rd wr w.heap.size (some ⟨b, 0, none⟩) n (BM.enc zs)) ∧ w.grownBy wr (some g)) (fun _ _ s8 _ => n - (intOf s8).toNat)
        case atStart => exact ⟨G, L, hG, rfl, rfl, rfl, hown, hF, hE', hr, hg⟩
        case round =>
          clear hown hr hF hE' hg
          clear hG h3
          obtain ⟨G, L, hG, rfl, rfl, rfl, hown, hF, hE', hr, hg⟩ := hrel
          by_cases h2 : G + 2 ≤ Q
          · as_aux_lemma =>
              obtain ⟨p0, hp0⟩ : ∃ x, zs[3 * G]? = some x := ⟨_, List.getElem?_eq_getElem (by omega)⟩
              obtain ⟨p1, hp1⟩ : ∃ x, zs[3 * G + 1]? = some x := ⟨_, List.getElem?_eq_getElem (by omega)⟩
              obtain ⟨p2, hp2⟩ : ∃ x, zs[3 * G + 2]? = some x := ⟨_, List.getElem?_eq_getElem (by omega)⟩
              obtain ⟨f0, f1, f2, f3⟩ := enc_full hp0 hp1 hp2
              have hV0 := BM.v3_lt p0 p1 p2
              have hD : Hid (∀ j, j < 3 → (beBytes 4 (BM.v3 p0 p1 p2 * 256))[j]? = zs[3 * G + j]?) := hide (fun j hj => by
                rw [word32 p0 p1 p2 j hj]
                match j, hj with
                | 0, _ => exact hp0.symm
                | 1, _ => exact hp1.symm
                | 2, _ => exact hp2.symm)
              obtain ⟨V0, hVe0⟩ : ∃ V, V = BM.v3 p0 p1 p2 := ⟨_, rfl⟩
              rw [← hVe0] at hD f0 f1 f2 f3 hV0
              clear hp0 hp1 hp2 hVe0
              obtain ⟨t0, t1, t2, t3, -⟩ := BM.digits_val hV0
              have hcl := (hr.out.all (show 0 < n by omega))
              obtain ⟨b', off', hbe, _, hcell⟩ := hcl
              cases hbe
              have g0 := hcell _ _ f0
              have g1 := hcell _ _ f1
              have g2 := hcell _ _ f2
              have g3 := hcell _ _ f3
              have m0 := std_map hE'.out t0
              have m1 := std_map hE'.out t1
              have m2 := std_map hE'.out t2
              have m3 := std_map hE'.out t3
              have hval := assemble32_any _ _ _ _ t0 t1 t2 t3
              simp only [Nat.zero_add] at g0 g1 g2 g3
              rw [digits_back hV0] at hval
              obtain ⟨DN, hDN⟩ : ∃ DN, DN = V0 * 256 := ⟨_, rfl⟩
              rw [← hDN] at hval hD
              clear hDN
              clear hcell f0 f1 f2 f3
              have l0 := (BM.al (V0 / 262144)).toNat_lt
              generalize (BM.al (V0 / 262144)).toNat = c0 at g0 m0 l0
              have l1 := (BM.al (V0 / 4096 % 64)).toNat_lt
              generalize (BM.al (V0 / 4096 % 64)).toNat = c1 at g1 m1 l1
              have l2 := (BM.al (V0 / 64 % 64)).toNat_lt
              generalize (BM.al (V0 / 64 % 64)).toNat = c2 at g2 m2 l2
              have l3 := (BM.al (V0 % 64)).toNat_lt
              generalize (BM.al (V0 % 64)).toNat = c3 at g3 m3 l3
              generalize V0 / 262144 = d0 at m0 t0 hval
              generalize V0 / 4096 % 64 = d1 at m1 t1 hval
              generalize V0 / 64 % 64 = d2 at m2 t2 hval
              generalize V0 % 64 = d3 at m3 t3 hval
              clear t0 t1 t2 t3
              go_upto_region 19 with (fail)
              all_goals
                have h8 : 4 * G + 4 - 4 * G = 4 := by omega
                have k0 : c0 ≤ 255 := by omega
                have k1 : c1 ≤ 255 := by omega
                have k2 : c2 ≤ 255 := by omega
                have k3 : c3 ≤ 255 := by omega
                clear l0 l1 l2 l3
                have i0 := idx73 E c0 k0
                have i1 := idx73 E c1 k1
                have i2 := idx73 E c2 k2
                have i3 := idx73 E c3 k3
                rw [h8]
                go_cut [14, 15] (fun s14 s15 wx => s14 = .int .u32 (DN : Int) ∧ s15 = .bool true ∧ ∃ q, wx = wr.drewN q)
                case first =>
                  go_quiet ((go_at_call 64; exact Calls.quiet_of_same ((hval _).mono fun _ _ h => ⟨h.1, h.2.symm⟩)))
                  all_goals go_wp2
                  all_goals go_meet
                  all_goals exact ⟨rfl, rfl, _, rfl⟩
                case rest =>
                  obtain ⟨rfl, rfl, q, rfl⟩ := hcut
                  clear i0 i1 i2 i3 m0 m1 m2 m3 g0 g1 g2 g3 hval h8
                  go_wp2_with fail
                  refine (bePut32_any DN L g N cap (3 * G) (cap - 3 * G) (wr.drewN q) (base := base) hown (by omega) (by omega)).mono ?_
                  intro e w1 hp
                  obtain ⟨hF1, hE1, hr1, hg1⟩ := put_next hE'.out hown hr.out hF.out hg hbg hD.out (by rw [beBytes_length]; omega) (by rw [beBytes_length]; omega) hp
                  obtain ⟨rfl, hown1, -⟩ := hp
                  clear hown hr hF hg hE'
                  replace hF1 := hide hF1
                  replace hE1 := hide hE1
                  replace hr1 := hide hr1
                  go_wp2
                  go_roundw
                  case rel => exact ⟨G + 1, _, by omega, rfl, by go_num, by go_num, hown1, hF1, hE1, hr1, hg1⟩
                  case measure => simp [intOf]; omega
          · as_aux_lemma =>
              have hG1 : Q = G + 1 := by omega
              have hlast := fun c => last_any E g N cap c b n cs G w.heap.size zs L wr hE'.out hown hr.out hF.out (by omega) (by omega) (by omega) (by omega) (by omega)
              replace hlast := hide hlast
              clear hF hE' hr hown
              go_wp2
              all_goals
                refine wp_loop_rounds 2 ?_
                rw [rounds_succ]
                go_wp2_with fail
                have hl := hlast.out (cap - 3 * G)
                rw [show ((4 * G : Nat) : Int) = 4 * (G : Int) by omega] at hl
                refine hl.mono ?_
                rintro e w1 ⟨rfl, L1, hown1, hF1, hg1⟩
                replace hF1 := hide hF1
                replace hg1 := hide (hg.trans hg1)
                replace hown1 := hide hown1
                clear hg hlast hl
                go_wp2
                rw [rounds_succ]
                go_wp2
                go_ret2
                exact ⟨L1, by go_num, hown1.out, hF1.out, hg1.out⟩
end Go.Proofs.YtfimnjdfchdldaaFmt
