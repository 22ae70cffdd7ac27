/-
  The walks of the model's percent decoder and prefix test. Conditions: sizes.
-/
import Derived.Test.YtfimnjdfchdldaaFmtBtw
import Derived.Test.YtfimnjdfchdldaaFmtSml
import Derived.Test.YtfimnjdfchdldaaFmtPdu
namespace Go.Proofs.YtfimnjdfchdldaaFmt
open Go.RowKit

namespace PE
/-- what the decoder's loop keeps -/
def Di (zs X : List UInt8) (i : Nat) : Prop := X ++ pdl (zs.drop i) = pdl zs
theorem Di.start (zs : List UInt8) : Di zs [] 0 := by simp [Di]
theorem Di.hex {zs X : List UInt8} {i : Nat} {c a b : UInt8} (h : Di zs X i) (hc : zs[i]? = some c) (ha : zs[i + 1]? = some a) (hb : zs[i + 2]? = some b) (h37 : c.toNat = 37) (hh : (PM.isHex a && PM.isHex b) = true) : Di zs (X ++ [PM.byteOf a b]) (i + 3) := by
  unfold Di at h ⊢
  rw [BM.drop3 hc ha hb, pdl_hex h37 hh] at h
  rw [← h]
  simp
theorem Di.plain {zs X : List UInt8} {i : Nat} {c : UInt8} (h : Di zs X i) (hc : zs[i]? = some c) (hp : c.toNat ≠ 37 ∨ hex2 (zs.drop (i + 1)) = false) : Di zs (X ++ [c]) (i + 1) := by
  have hk := (List.getElem?_eq_some_iff.1 hc).1
  have hd : zs.drop i = c :: zs.drop (i + 1) := by rw [List.drop_eq_getElem_cons hk, (List.getElem?_eq_some_iff.1 hc).2]
  unfold Di at h ⊢
  rw [hd] at h
  rw [← h]
  rcases hp with hp | hp
  · rw [pdl_plain hp]
    simp
  · rw [pdl_lone hp]
    simp
theorem Di.done {zs X : List UInt8} {i : Nat} (h : Di zs X i) (hi : zs.length ≤ i) : X = pdl zs := by
  unfold Di at h
  rw [List.drop_eq_nil_of_le hi, pdl.eq_1, List.append_nil] at h
  exact h
end PE

set_option maxRecDepth 100000 in
theorem or16b_all : ∀ (a : Fin 16) (b : Fin 16), Go.bits .or .u8 (((a.val : Nat) : Int) * 16) ((b.val : Nat) : Int) = ((a.val * 16 + b.val : Nat) : Int) := by decide

/-- the prefix test -/
theorem prefix21_yes (s p : ByteArray) (w : World) (h : p.size ≤ s.size) (e : s.extract 0 p.size = p) :
    Calls Tryf.prog 21 #[.string s, .string p] w fun e w' => e = .returned (.bool true) ∧ w = w' := by
  go_enter Tryf.func21, Tryf.ntmps21
  go_wp2
  go_ret
  exact ⟨ret_bool (by simp), rfl⟩
theorem prefix21_no (s p : ByteArray) (w : World) (h : s.size < p.size ∨ (s.extract 0 p.size).data.toList ≠ p.data.toList) :
    Calls Tryf.prog 21 #[.string s, .string p] w fun e w' => e = .returned (.bool false) ∧ w = w' := by
  by_cases hlt : s.size < p.size
  · clear h
    go_enter Tryf.func21, Tryf.ntmps21
    go_wp2
    go_ret
    exact ⟨ret_bool (by simp), rfl⟩
  · have hne : ((s.extract 0 p.size).toList == p.toList) = false := by
      rw [ByteArray.toList_eq, ByteArray.toList_eq]
      rcases h with h | h
      · exact absurd h hlt
      · simpa using h
    have hle : p.size ≤ s.size := by omega
    clear h hlt
    go_enter Tryf.func21, Tryf.ntmps21
    go_wp2
    go_ret
    exact ⟨ret_bool (by simp), rfl⟩

set_option maxHeartbeats 8000000 in
set_option maxRecDepth 100000 in
theorem pctback_any (s : ByteArray) (w : World) (hs : s.size ≤ 4194304) :
    Calls Tryf.prog 23 #[.string s] w fun e w' => e = .returned (.string (ofBytes (PE.pdl s.data.toList))) ∧ Below w.heap.size w w' := by
  obtain ⟨zs, hz⟩ : ∃ zs, zs = s.data.toList := ⟨_, rfl⟩
  have hzl : Hid (zs.length = s.size) := hide (by rw [hz, ba_len])
  rw [← hz]
  replace hz := hide hz
  go_enter Tryf.func23, Tryf.ntmps23
  go_wp2_with fail
  go_loopw [3, 4] (fun v s4 wr => ∃ (i : Nat) (L : List UInt8), i ≤ s.size ∧ L.length ≤ i ∧ s4 = .int .i64 i ∧ Hid (wr.ownsRow w.heap.size 5 1 v L.length (L.map bv)) ∧ Hid (PE.Di zs L i) ∧ Hid (Below w.heap.size w wr)) (fun _ s4 _ => s.size - (intOf s4).toNat)
  case atStart => exact ⟨0, [], Nat.zero_le _, Nat.le_refl _, rfl, hide (own_nil _ _), hide (PE.Di.start _), hide (Below.refl _ _)⟩
  case round =>
    obtain ⟨i, L, hi, hLi, rfl, hown, hD, hb⟩ := hrel
    have hbs := hb.out.size
    by_cases hin : i < s.size
    · have hx := ba_get s i hin
      rw [← hz.out] at hx
      have ix := idx_at s i i rfl hin
      generalize s[i]'hin = c at hx ix
      obtain ⟨H, hH⟩ : ∃ H, H = (decide (c.toNat = 37) && PE.hex2 (zs.drop (i + 1))) := ⟨_, rfl⟩
      obtain ⟨n, hn⟩ : ∃ n, n = c.toNat := ⟨_, rfl⟩
      rw [← hn] at ix hH
      have hnl : n < 256 := by rw [hn]; exact c.toNat_lt
      have hH0 := hH
      rw [hn] at hH0
      replace hH0 := hide hH0
      replace hn := hide hn
      replace hx := hide hx
      go_upto_region 4 with (fail)
      go_cut [33] (fun s33 wx => s33 = .bool H ∧ wr = wx)
      case first =>
        clear hown hD hb hH0
        by_cases h : n = 37
        · rw [decide_eq_true h, Bool.true_and] at hH
          subst h
          by_cases h2 : i + 2 < s.size
          · have hxa := ba_get s (i + 1) (by omega)
            have hxb := ba_get s (i + 2) h2
            rw [← hz.out] at hxa hxb
            have ia := idx_at s (i + 1) ((i : Int) + 1) (by omega) (by omega)
            have ib := idx_at s (i + 2) ((i : Int) + 2) (by omega) h2
            rw [PE.hex2_drop hxa hxb] at hH
            generalize s[i + 1] = a at hxa ia hH
            generalize s[i + 2] = b at hxb ib hH
            clear hxa hxb
            cases ha : PM.isHex a
            · rw [ha, Bool.false_and] at hH
              subst hH
              go_wp2_with (go_at_call 35; (with_reducible refine (hex35_any _ _).mono ?_); rintro e w' ⟨rfl, rfl⟩)
              go_meet
              exact ⟨rfl, rfl⟩
            · rw [ha, Bool.true_and] at hH
              cases hbx : PM.isHex b
              · rw [hbx] at hH
                subst hH
                go_wp2_with (go_at_call 35; (with_reducible refine (hex35_any _ _).mono ?_); rintro e w' ⟨rfl, rfl⟩)
                go_meet
                exact ⟨rfl, rfl⟩
              · rw [hbx] at hH
                subst hH
                go_wp2_with (go_at_call 35; (with_reducible refine (hex35_any _ _).mono ?_); rintro e w' ⟨rfl, rfl⟩)
                go_meet
                exact ⟨rfl, rfl⟩
          · rw [PE.hex2_short (by rw [hzl.out]; omega)] at hH
            subst hH
            go_wp2
            go_meet
            exact ⟨rfl, rfl⟩
        · rw [decide_eq_false h, Bool.false_and] at hH
          subst hH
          have b37 : ((n : Int) == 37) = false := by simp; omega
          clear h
          go_wp2
          go_meet
          exact ⟨rfl, rfl⟩
      case rest =>
        obtain ⟨rfl, rfl⟩ := hcut
        clear hH
        cases H
        · have hD1 : Hid (PE.Di zs (L ++ [c]) (i + 1)) := hide (hD.out.plain hx.out (by
            have := hH0.out
            by_cases h37 : c.toNat = 37
            · right
              rw [decide_eq_true h37, Bool.true_and] at this
              exact this.symm
            · exact .inl h37))
          go_wp2_with (at_builtin; refine wpList_push E39 rfl (.tmp 51) (.tmp 55) rfl hown.out rfl #[.int .u8 (n : Int)] rfl rfl (one_byte _) ?c4 (by decide) ?c5 ?_)
          case c4 => omega
          case c5 => exact hbs
          intro v1 w1 hownN hgN
          have hbN := hb.out.grown hgN hbs (fun g hgb => (hown.out.lt g hgb).1)
          replace hownN := own_push hownN (x := c) (congrArg (fun n : Nat => (n : Int)) hn.out)
          have hlen : (L ++ [c]).length ≤ i + 1 := by simp; omega
          replace hownN := hide hownN
          replace hbN := hide hbN
          replace hlen := hide hlen
          clear hown hb hgN hD
          go_wp2
          go_roundw
          case rel => exact ⟨i + 1, L ++ [c], by omega, hlen.out, by go_num, hownN, hD1, hbN⟩
          case measure => simp [intOf]; omega
        · obtain ⟨h37, hh⟩ := Bool.and_eq_true_iff.1 hH0.out.symm
          have h37 := of_decide_eq_true h37
          have h2 : i + 2 < s.size := by
            rcases Nat.lt_or_ge (i + 2) s.size with h | h
            · exact h
            · rw [PE.hex2_short (by rw [hzl.out]; omega)] at hh
              cases hh
          have hxa := ba_get s (i + 1) (by omega)
          have hxb := ba_get s (i + 2) h2
          rw [← hz.out] at hxa hxb
          have ia := idx_at s (i + 1) ((i : Int) + 1) (by omega) (by omega)
          have ib := idx_at s (i + 2) ((i : Int) + 2) (by omega) h2
          rw [PE.hex2_drop hxa hxb] at hh
          generalize s[i + 1] = a at hxa ia hh
          generalize s[i + 2] = b at hxb ib hh
          have hD1 : Hid (PE.Di zs (L ++ [PM.byteOf a b]) (i + 3)) := hide (hD.out.hex hx.out hxa hxb h37 hh)
          obtain ⟨hha, hhb⟩ := Bool.and_eq_true_iff.1 hh
          have va := PM.hexV_lt hha
          have vb := PM.hexV_lt hhb
          have Ca := fun wx => hexv40_any a hha wx
          have Cb := fun wx => hexv40_any b hhb wx
          have hob : Go.bits .or .u8 ((PM.hexV a : Int) * 16) (PM.hexV b : Int) = ((PM.byteOf a b).toNat : Int) := by
            refine (or16b_all ⟨PM.hexV a, va⟩ ⟨PM.hexV b, vb⟩).trans ?_
            unfold PM.byteOf
            rw [UInt8.toNat_ofNat', Nat.mod_eq_of_lt (by omega)]
          have w1 : IntKind.i64.wrap ((i : Int) + 1) = (i : Int) + 1 := IntWalk.i64_in _ (by omega)
          have w2 : IntKind.i64.wrap ((i : Int) + 2) = (i : Int) + 2 := IntWalk.i64_in _ (by omega)
          have w3 : IntKind.u8.wrap ((PM.hexV a : Int) * 16) = (PM.hexV a : Int) * 16 := IntWalk.u8_in _ (by omega)
          replace Ca := hide Ca
          replace Cb := hide Cb
          have hdrew : wr.drew.ownsRow w.heap.size 5 1 u3 L.length (L.map bv) := hown.out
          clear hha hhb hh hxa hxb h37 hD hH0
          go_upto_region 5 with (fail)
          go_cut [3] (fun s3 wx => wx.ownsRow w.heap.size 5 1 s3 (L ++ [PM.byteOf a b]).length ((L ++ [PM.byteOf a b]).map bv) ∧ Hid (Below w.heap.size w wx))
          case first =>
            go_region_law (first
              | (refine step_push E39 rfl _ _ rfl hdrew rfl #[_] rfl rfl (one_byte _) (by omega) (by decide) hbs ?_; intro g cap w1 hown1 hg)
              | (go_simp; go_at_call 40; (with_reducible refine (Ca.out _).mono ?_); rintro e w' ⟨rfl, rfl⟩)
              | (go_simp; go_at_call 40; (with_reducible refine (Cb.out _).mono ?_); rintro e w' ⟨rfl, rfl⟩))
            all_goals
              have hown2 := own_push hown1 (x := PM.byteOf a b) rfl
              have hb2 := hb.out.drew.grown hg hbs (fun g hgb => (hown.out.lt g hgb).1)
              replace hown2 := hide hown2
              replace hb2 := hide hb2
              clear hown1 hg
              go_wp2
              go_meet
              exact ⟨hown2.out, hb2⟩
          case rest =>
            obtain ⟨hown2, hb2⟩ := hcut
            have hlen : (L ++ [PM.byteOf a b]).length ≤ i + 3 := by simp; omega
            replace hlen := hide hlen
            replace hown2 := hide hown2
            clear hown hb hdrew
            go_wp2
            go_roundw
            case rel => exact ⟨i + 3, L ++ [PM.byteOf a b], by omega, hlen.out, by go_num, hown2, hD1, hb2⟩
            case measure => simp [intOf]; omega
    · have hfin : Hid (L = PE.pdl zs) := hide (hD.out.done (by rw [hzl.out]; omega))
      have hown2 := hown.out
      rw [hfin.out] at hown2
      obtain ⟨A2, c2, hA2, hc2, hrd⟩ := own_rd hown2
      subst hA2
      have hst := hrd.string 39 5 9 c2 Tryf.underlying39 Tryf.underlying5 Tryf.underlying9
      clear hown hown2 hrd hc2
      go_wp2
      go_ret
      exact ⟨rfl, hb.out⟩
end Go.Proofs.YtfimnjdfchdldaaFmt
