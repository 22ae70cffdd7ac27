/-
  The walk of the law: breaking is the unique decomposition at keys. Conditions: none.
-/
import Derived.Test.YtpfnonkcjlfibaaLHelpA
import Derived.Test.YtpfnonkcjlfibaaLHelpB
import Derived.Test.YtpfnonkcjlfibaaLHelpC
import Derived.Test.YtpfnonkcjlfibaaLHelpD
import Derived.Test.YtpfnonkcjlfibaaLBytes
import Derived.Deep.RegionWith
namespace Go.Proofs.Ytpfnonkcjlfibaa
open Go.RowKit

theorem out_box (w : World) (v : Value) : Blk (w.alloc (.cells #[v, .slice none 0 0, .slice none 0 0, .int .u32 0, .int .u8 0] 35)) w.heap.size 35 #[v, .slice none 0 0, .slice none 0 0, .int .u32 0, .int .u8 0] ∧
    Below w.heap.size w (w.alloc (.cells #[v, .slice none 0 0, .slice none 0 0, .int .u32 0, .int .u8 0] 35)) ∧ (w.alloc (.cells #[v, .slice none 0 0, .slice none 0 0, .int .u32 0, .int .u8 0] 35)).heap.size = w.heap.size + 1 :=
  ⟨Blk.new _ _ _, (Below.refl _ _).alloc (Nat.le_refl _) _, by simp⟩

theorem own_below {w w' : World} {base : Nat} {e : TypeId} {size n : Nat} {v : Value} {xs : List Value} (h : w.ownsRow base e size v n xs) (hb : Below w.heap.size w w') : w'.ownsRow base e size v n xs :=
  h.kept (below_grownBy hb) (by cases v.ownBlock <;> simp)

set_option maxHeartbeats 16000000 in
set_option maxRecDepth 100000 in
theorem law59_any (p : ByteArray) (nf nc : Nat) (A : Option Addr) (n c : Nat) (zs : List UInt8) (w : World) (hr : Rd w w.heap.size A n zs) (hc : n ≤ c) (hsz : p.size + n ≤ 1048576) (hp0 : 0 < p.size) (hnf : nf ≤ 65536) (hnc : nc ≤ 65536) :
    Calls Try.prog 6 #[.string p, .int .i64 nf, .int .i64 nc, .slice A n c] w fun e w' => e = .returned (.bool true) ∧ Below w.heap.size w w' := by
  have hd : decide (p.size + n ≤ 1048576) = true := by simpa using hsz
  go_enter Try.func6, Try.ntmps6
  go_wp2_with fail
  refine (bytes28_any p nf nc A n c w (by unfold maxLen; omega) (by unfold maxLen; omega)).mono ?_
  rintro e w' ⟨rfl, rfl⟩
  rw [hd]
  clear hd
  go_wp2_with fail
  refine (clone_any A n c zs w hr hc (by omega)).mono ?_
  rintro e w1 ⟨A1, c1, rfl, hc1, hr1, hb1⟩
  go_wp2_with (with_reducible refine wpList_bytes rfl (.tmp 54) 9 42 rfl p rfl Try.underlying9 Try.underlying42 Try.underlying5 ?_; intro cp w2 hcp hrp hb2 hsz2)
  have hr2 := hr1.keep (Keep.below hb2)
  refine (newLinker_any p _ nf nc w2 hnf hnc).mono ?_
  rintro e w3 ⟨K, rfl, hL, hb3⟩
  have hr3 : Rd w3 w3.heap.size A1 n zs := (hr2.rd.below hb3).more hb3.size
  have hp3 : Rd w3 w3.heap.size (some ⟨w1.heap.size, 0, none⟩) p.size p.data.toList := (hrp.rd.below hb3).more hb3.size
  have hb03 : Below w.heap.size w w3 := (hb1.trans (hb2.mono hb1.size)).trans (hb3.mono (Nat.le_trans hb1.size hb2.size))
  go_wp2_with fail
  refine (breakOut_any K A1 n c1 zs p nf nc w3 hL hr3 hc1 (by omega) (by omega) hnf hnc).mono ?_
  rintro e w4 ⟨v1, ps, rfl, hH1, hlen1, hbrk, hb4⟩
  have hr4 := (hr3.below hb4).more hb4.size
  have hp4 := (hp3.below hb4).more hb4.size
  have hb04 : Below w.heap.size w w4 := hb03.trans (hb4.mono hb03.size)
  have hps0 := brk_pos hbrk
  have hH1' := hH1
  obtain ⟨g1, cap1, hv1, hcap1, hg1, _, _⟩ := hH1'
  subst hv1
  clear hr hb1 hb2 hb3 hr1 hr2 hL hsz2 hrp hr3 hp3 hb4 hb03 hcap1
  generalize w1.heap.size = P1 at *
  go_wp2_with fail
  obtain ⟨hR, hb5, hs5⟩ := out_box w4 (.slice (some ⟨g1, 0, none⟩) ps.length cap1)
  generalize w4.alloc (.cells #[.slice (some ⟨g1, 0, none⟩) ps.length cap1, .slice none 0 0, .slice none 0 0, .int .u32 0, .int .u8 0] 35) = w5 at *
  have hr5 := (hr4.below hb5).more hb5.size
  have hp5 := (hp4.below hb5).more hb5.size
  have hH5 := (hH1.below hb5).more hb5.size
  have hb05 : Below w.heap.size w w5 := hb04.trans (hb5.mono hb04.size)
  generalize w4.heap.size = R1 at *
  clear hr4 hp4 hH1 hb5 hb04 hs5
  refine (isPieces_any hH5).mono ?_
  rintro e w6 ⟨rfl, hb6⟩
  obtain ⟨⟨d0, d1, d2, d3, d4⟩, _⟩ := out_cells (hR.below hb6 hR.lt)
  go_wp2_with fail
  refine (count_any ((hH5.below hb6).more hb6.size)).mono ?_
  rintro e w7 ⟨rfl, hb7⟩
  have hb57 := hb6.trans (hb7.mono hb6.size)
  have hr7 := (hr5.below hb57).more hb57.size
  have hp7 := (hp5.below hb57).more hb57.size
  have hH7 := (hH5.below hb57).more hb57.size
  have hR7 := hR.below hb57 hR.lt
  have hb07 : Below w.heap.size w w7 := hb05.trans (hb57.mono hb05.size)
  clear hr5 hp5 hH5 hR hb57 hb6 hb7 d0 d1 d2 d3 d4 hb05
  have hpl : ps.length ≤ n + 1 := by rw [hr7.len] at hlen1; exact hlen1
  have hzl : Hid (zs.length = n) := hide hr7.len
  have hpr : Hid (LM.render p.data.toList (pks ps) = zs) := hide hbrk.render
  have heach := hide hbrk.each
  have hpz : Hid (p.data.toList.length = p.size) := hide (len_data p)
  have hbrk := hide hbrk
  clear hlen1
  go_wp2
  go_loopw [13, 14] (fun v i wr => ∃ (k : Nat) (L : List UInt8), k ≤ ps.length ∧ i = .int .i64 k ∧ wr.ownsRow w7.heap.size 5 1 v L.length (L.map bv) ∧ Hid (L ++ LM.render p.data.toList ((pks ps).drop k) = zs) ∧ Below w7.heap.size w7 wr) (fun _ i _ => ps.length - (intOf i).toNat)
  case atStart => exact ⟨0, [], by omega, rfl, own_nil _ _, hpr, Below.refl _ _⟩
  case round =>
    obtain ⟨k, L, hk, rfl, hown, hLz, hb⟩ := hrel
    have hbs := hb.size
    by_cases hkl : k < ps.length
    · obtain ⟨x, hx⟩ : ∃ x, ps[k]? = some x := ⟨_, List.getElem?_eq_getElem hkl⟩
      have hLl : Hid (L.length + x.zs.length ≤ n) := hide (by
        have h1 := congrArg List.length hLz.out
        rw [LM.drop_here (pks_get hx), hzl.out, List.length_append] at h1
        have h2 : x.zs.length ≤ (LM.render p.data.toList ((x.zs, x.idx, x.kind) :: (pks ps).drop (k + 1))).length := by
          cases (pks ps).drop (k + 1) with
          | nil => exact Nat.le_refl _
          | cons q qs => simp [LM.render]
        omega)
      obtain ⟨⟨d0, d1, d2, d3, d4⟩, _⟩ := out_cells (hR7.below hb hR7.lt)
      go_wp2_with fail
      refine (data_any ((hH7.below hb).more hb.size) hx).mono ?_
      rintro e wa ⟨rfl, hba⟩
      replace hown := own_below hown hba
      replace hb := hb.trans (hba.mono hbs)
      replace hbs := hb.size
      clear hba d0 d1 d2 d3 d4
      obtain ⟨⟨d0, d1, d2, d3, d4⟩, _⟩ := out_cells (hR7.below hb hR7.lt)
      go_wp2_with fail
      refine (kind_any ((hH7.below hb).more hb.size) hx).mono ?_
      rintro e wb ⟨rfl, hba⟩
      replace hown := own_below hown hba
      replace hb := hb.trans (hba.mono hbs)
      replace hbs := hb.size
      clear hba d0 d1 d2 d3 d4
      obtain ⟨⟨d0, d1, d2, d3, d4⟩, _⟩ := out_cells (hR7.below hb hR7.lt)
      go_wp2_with fail
      refine (index_of_any ((hH7.below hb).more hb.size) hx).mono ?_
      rintro e wd ⟨rfl, hba⟩
      replace hown := own_below hown hba
      replace hb := hb.trans (hba.mono hbs)
      replace hbs := hb.size
      clear hba d0 d1 d2 d3 d4
      have hxr : Rd wd wd.heap.size x.A x.n x.zs := by
        obtain ⟨_, _, _, _, _, _, i1⟩ := (hH7.below hb).more hb.size
        exact (i1 x (List.mem_of_getElem? hx)).1
      have hlx : Hid (L.length + x.n ≤ n) := hide (by rw [← hxr.len]; exact hLl.out)
      obtain ⟨hE1, hE2⟩ := heach.out k _ (pks_get hx)
      rw [pks_length] at hE1 hE2
      simp only at hE1 hE2
      have hpx := hide (pks_get hx)
      replace hE1 := hide hE1
      replace hE2 := hide hE2
      clear hx
      go_upto_region 26 with (at_builtin; refine wpList_app E42 rfl (.tmp 84) (.tmp 85) rfl L hown rfl hxr rfl (by have := hlx.out; omega) hbs ?_; intro v2 w8 hown2 hg2; have hb8 : Below w7.heap.size w7 w8 := hb.grown hg2 (by omega) (fun k hk => (hown.lt k hk).1); have hbs8 := hb8.size; replace hown2 : w8.ownsRow w7.heap.size 5 1 v2 (L ++ x.zs).length ((L ++ x.zs).map bv) := (by rw [List.length_append, hxr.len]; exact hown2); clear hg2 hown)
      by_cases hlast : k + 1 = ps.length
      · obtain ⟨hi0, hk0⟩ : x.idx = 0 ∧ x.kind = 0 := by
          have := hE1.out hlast
          exact ⟨congrArg Prod.fst this, congrArg Prod.snd this⟩
        have hz2 : Hid ((L ++ x.zs) ++ LM.render p.data.toList ((pks ps).drop (k + 1)) = zs) := hide (by
          have h1 := hLz.out
          rw [LM.render_last hpx.out (by rw [pks_length]; exact hlast)] at h1
          rw [List.drop_eq_nil_of_le (by rw [pks_length]; omega)]
          rw [← h1]
          exact List.append_nil _)
        go_wp2
        go_roundw
        case rel => exact ⟨k + 1, _, by omega, by go_num, hown2, hz2, hb8⟩
        case measure => simp [intOf]; omega
      · obtain ⟨hkd, hi8, hk1, hk2⟩ := hE2.out (by omega)
        have hz2 : Hid (((L ++ x.zs) ++ LM.keyBytes p.data.toList x.idx x.kind) ++ LM.render p.data.toList ((pks ps).drop (k + 1)) = zs) := hide (by
          have h1 := hLz.out
          rw [LM.render_step hpx.out (by rw [pks_length]; omega)] at h1
          rw [← h1]
          simp only [List.append_assoc])
        have hl2 : (L ++ x.zs).length + p.size ≤ 4000000000 := by
          have := hlx.out
          rw [List.length_append, hxr.len]
          omega
        clear hE1 hE2
        have hge : ¬ ((100000000:Int) ≤ (x.idx:Int)) := by omega
        rcases hkd with hkd | hkd
        · have hlt := hk1 hkd
          rw [hkd] at hz2
          have hC := appendKey_any v2 (L ++ x.zs) (some ⟨P1, 0, none⟩) p.size cp p.data.toList 1 x.idx w8 hown2 (hp7.below hb8) hbs8 hl2 (by decide) (by omega)
          have hw1 : IntKind.u64.wrap (x.idx : Int) = x.idx := by unfold IntKind.wrap; simp [IntKind.bits, IntKind.signed]; omega
          have hw2 : IntKind.u64.wrap (nf : Int) = nf := by unfold IntKind.wrap; simp [IntKind.bits, IntKind.signed]; omega
          clear hk1 hk2
          go_upto_region 31 with (fail)
          revert hge
          generalize (100000000:Int) = G
          intro hge
          go_upto_region 37 with (fail)
          go_wp2_with fail
          refine hC.mono ?_
          clear hC
          rintro e w9 ⟨v3, rfl, hown3, hb9⟩
          go_wp2
          go_roundw
          case rel => exact ⟨k + 1, _, by omega, by go_num, hown3, hz2, hb8.trans hb9⟩
          case measure => simp [intOf]; omega
        · have hlt := hk2 hkd
          rw [hkd] at hz2
          have hC := appendKey_any v2 (L ++ x.zs) (some ⟨P1, 0, none⟩) p.size cp p.data.toList 2 x.idx w8 hown2 (hp7.below hb8) hbs8 hl2 (by decide) (by omega)
          have hw1 : IntKind.u64.wrap (x.idx : Int) = x.idx := by unfold IntKind.wrap; simp [IntKind.bits, IntKind.signed]; omega
          have hw2 : IntKind.u64.wrap (nc : Int) = nc := by unfold IntKind.wrap; simp [IntKind.bits, IntKind.signed]; omega
          clear hk1 hk2
          go_upto_region 31 with (fail)
          revert hge
          generalize (100000000:Int) = G
          intro hge
          go_upto_region 37 with (fail)
          go_wp2_with fail
          refine hC.mono ?_
          clear hC
          rintro e w9 ⟨v3, rfl, hown3, hb9⟩
          go_wp2
          go_roundw
          case rel => exact ⟨k + 1, _, by omega, by go_num, hown3, hz2, hb8.trans hb9⟩
          case measure => simp [intOf]; omega
    · obtain rfl : k = ps.length := by omega
      have hLe : Hid (L = zs) := hide (by
        have h1 := hLz.out
        rw [List.drop_eq_nil_of_le (by rw [pks_length]; omega)] at h1
        rw [← h1]
        exact (List.append_nil _).symm)
      obtain ⟨Av, cv, rfl, hcv, hrv⟩ := own_rd hown
      have hr8 := (hr7.below hb).more hbs
      have hrl : Hid (L.length = n) := hide (by rw [hLe.out]; exact hzl.out)
      have hC := equal_any Av A1 L.length cv n c1 L zs wr hrv hr8 (by rw [hrl.out]; omega) (by omega)
      rw [show decide (L = zs) = true from decide_eq_true hLe.out] at hC
      go_wp2_with fail
      refine hC.mono ?_
      clear hC
      rintro e w9 ⟨rfl, q9, rfl⟩
      have hb9 := below_drewN hb q9
      clear hb hr8 hrv hLz hLe hrl hown hcv
      generalize wr.drewN q9 = wo at *
      have hbo := hb9.size
      go_wp2
      go_loopw [18, 19] (fun q i wr => ∃ (k pos : Nat), k ≤ ps.length ∧ i = .int .i64 k ∧ q = .int .i64 pos ∧ pos ≤ n ∧ Hid (k < ps.length → LM.Brk p.data.toList nf nc (zs.drop pos) ((pks ps).drop k)) ∧ Below w7.heap.size w7 wr) (fun _ i _ => ps.length - (intOf i).toNat)
      case atStart => exact ⟨0, 0, by omega, rfl, rfl, by omega, hide (fun _ => hbrk.out), hb9⟩
      case round =>
        obtain ⟨k, pos, hk, rfl, rfl, hpos, hat, hb⟩ := hrel
        have hbs := hb.size
        by_cases hkl : k < ps.length
        · obtain ⟨x, hx⟩ : ∃ x, ps[k]? = some x := ⟨_, List.getElem?_eq_getElem hkl⟩
          obtain ⟨⟨d0, d1, d2, d3, d4⟩, _⟩ := out_cells (hR7.below hb hR7.lt)
          go_wp2_with fail
          refine (data_any ((hH7.below hb).more hb.size) hx).mono ?_
          rintro e wa ⟨rfl, hba⟩
          replace hb := hb.trans (hba.mono hbs)
          replace hbs := hb.size
          clear hba d0 d1 d2 d3 d4
          have hxr : Rd wa wa.heap.size x.A x.n x.zs := by
            obtain ⟨_, _, _, _, _, _, i1⟩ := (hH7.below hb).more hb.size
            exact (i1 x (List.mem_of_getElem? hx)).1
          have hxn := hxr.len
          obtain ⟨hE1, hE2⟩ := LM.Brk.at (hat.out hkl) (pks_get hx)
          rw [pks_length] at hE1 hE2
          simp only at hE1 hE2
          have hr8 := (hr7.below hb).more hbs
          have hp8 := (hp7.below hb).more hbs
          have hfrom := hide (hr8.from_ hpos hc1)
          clear hr8 hx hat
          replace hE1 := hide hE1
          replace hE2 := hide hE2
          go_upto_region 45 with (fail)
          go_cut [21] (fun s wx => (∃ A2, s = .slice A2 (n - pos) (c1 - pos) ∧ Rd wa wa.heap.size A2 (n - pos) (zs.drop pos)) ∧ wa = wx)
          case first =>
            by_cases hcm : c1 = pos
            · have hfr := hide (show Rd wa wa.heap.size A1 (n - pos) (zs.drop pos) by have := hfrom.out; rw [if_pos hcm] at this; exact this)
              clear hfrom
              subst hcm
              go_wp2
              go_meet
              exact ⟨⟨_, by rw [Nat.sub_self, show n - c1 = 0 by omega], hfr.out⟩, rfl⟩
            · have hfr := hide (show Rd wa wa.heap.size (A1.map (·.add pos)) (n - pos) (zs.drop pos) by have := hfrom.out; rw [if_neg hcm] at this; exact this)
              clear hfrom
              go_wp2
              go_meet
              exact ⟨⟨_, rfl, hfr.out⟩, rfl⟩
          case rest =>
            obtain ⟨⟨A2, rfl, hr2⟩, rfl⟩ := hcut
            go_wp2_with fail
            refine (first_any A2 (some ⟨P1, 0, none⟩) (n - pos) (c1 - pos) p.size cp (zs.drop pos) p.data.toList wa hr2 hp8 (by omega) (by omega)).mono ?_
            rintro e wb ⟨r, q, rfl, hfound, rfl⟩
            replace hb := below_drewN hb q
            have hr2 := hr2.drewN q
            by_cases hlast : k + 1 = ps.length
            · obtain ⟨_, hno⟩ := hE1.out hlast
              rcases hfound with ⟨b, rfl, hf⟩ | ⟨rfl, _⟩
              · have hbl := hf.1
                rw [List.length_drop, hzl.out, hpz.out] at hbl
                have hkey := hno b hf
                rw [hpz.out] at hkey
                have hC := keyAt_any A2 (n - pos) (c1 - pos) (b + p.size) nf nc (zs.drop pos) (wa.drewN q) hr2 (by omega) (by omega) hnf hnc
                rw [hkey] at hC
                clear hE1 hE2 hno hkey hf hfrom
                go_wp2_with fail
                refine hC.mono ?_
                clear hC
                rintro e wb ⟨rfl, rfl⟩
                go_wp2
                go_roundw
                case rel => exact ⟨k + 1, pos, by omega, by go_num, rfl, by omega, hide (fun h => absurd h (by omega)), hb⟩
                case measure => simp [intOf]; omega
              · clear hE1 hE2 hno hfrom
                go_wp2
                go_roundw
                case rel => exact ⟨k + 1, pos, by omega, by go_num, rfl, by omega, hide (fun h => absurd h (by omega)), hb⟩
                case measure => simp [intOf]; omega
            · obtain ⟨hf1, hle, hnext⟩ := hE2.out (by omega)
              rcases hfound with ⟨b, rfl, hf⟩ | ⟨rfl, hf⟩
              · obtain rfl : b = x.n := by rw [← hxn]; exact hf.one hf1
                rw [hxn, hzl.out, hpz.out] at hle
                rw [hxn, hpz.out] at hnext
                have hn2 : Hid (k + 1 < ps.length → LM.Brk p.data.toList nf nc (zs.drop (pos + (x.n + p.size + 9))) ((pks ps).drop (k + 1))) := hide (fun _ => hnext)
                clear hE1 hE2 hnext hf hf1 hfrom
                go_wp2
                go_roundw
                case rel => exact ⟨k + 1, pos + (x.n + p.size + 9), by omega, by go_num, by go_num, by omega, hn2, hb⟩
                case measure => simp [intOf]; omega
              · exact absurd hf1 (hf _)
        · obtain rfl : k = ps.length := by omega
          go_wp2
          go_ret
          exact ⟨rfl, hb07.trans (hb.mono hb07.size)⟩
end Go.Proofs.Ytpfnonkcjlfibaa
