/-
  The walk of EncodeStringAsPercentEscapedDataURL. Conditions: sizes; the tables of unicode/utf8.
-/
import Derived.Test.YtfimnjdfchdldaaFmtInv
import Derived.Test.YtfimnjdfchdldaaFmtSml
import Derived.Test.YtfimnjdfchdldaaFmtBld
import Derived.Test.YtfimnjdfchdldaaFmtShelf
import Derived.Test.YtfimnjdfchdldaaFmtStd
import Derived.Outline
import Derived.Deep.CutBlock
namespace Go.Proofs.YtfimnjdfchdldaaFmt
open Go.RowKit

theorem tabs_below {w w' : World} (h : Lib.Utf8Tabs 0 1 w) (hb : Below w.heap.size w w') : Lib.Utf8Tabs 0 1 w' :=
  ⟨fun c hc => (hb.cell (p := ⟨0, c, none⟩) (World.block_lt_of_cell? w _ (h.1 c hc))).trans (h.1 c hc),
   fun i hi => ⟨(hb.cell (p := ⟨1, 2 * i, none⟩) (World.block_lt_of_cell? w _ (h.2 i hi).1)).trans (h.2 i hi).1, (hb.cell (p := ⟨1, 2 * i + 1, none⟩) (World.block_lt_of_cell? w _ (h.2 i hi).2)).trans (h.2 i hi).2⟩⟩
theorem Bu.below {B b : Nat} {l : List UInt8} {w w' : World} (h : Bu B b l w) (hb : Below w.heap.size w w') : Bu B b l w' := by
  have hx : ∀ p, Lib.BuilderAt 56 5 B b p (l.map bv) w → Lib.BuilderAt 56 5 B b p (l.map bv) w' := fun p ⟨hB, v, hbk, hown, hne⟩ =>
    ⟨hB, v, (hb.block b (Array.getElem?_eq_some_iff.1 hbk).1).trans hbk, hown.kept (row := none) (below_grownBy hb) (by cases v.ownBlock <;> simp), hne⟩
  rcases h with h | h
  · exact .inl (hx _ h)
  · exact .inr (hx _ h)

/-- the digits' text -/
theorem hexidx (v : Nat) (hv : v < 16) (w : World) : (Instr.index 9 (.string ⟨#[48, 49, 50, 51, 52, 53, 54, 55, 56, 57, 65, 66, 67, 68, 69, 70]⟩) (.int .i32 v)).run Tryf.prog w = .ok (.int .u8 ((PE.hd v).toNat : Int)) w := by
  have hk : (0 : Int) ≤ (v : Int) ∧ (v : Int) < ((⟨#[48, 49, 50, 51, 52, 53, 54, 55, 56, 57, 65, 66, 67, 68, 69, 70]⟩ : ByteArray).size : Int) := ⟨by omega, by show (v : Int) < 16; omega⟩
  rw [run_index_string (P := Tryf.prog) (w := w) 9 _ .i32 v Tryf.underlying9, dif_pos hk]
  have h16 : ∀ i : Fin 16, ((⟨#[48, 49, 50, 51, 52, 53, 54, 55, 56, 57, 65, 66, 67, 68, 69, 70]⟩ : ByteArray)[i.val]'(by have := i.isLt; exact this)).toNat = (PE.hd i.val).toNat := by decide
  have h := h16 ⟨v, hv⟩
  simp only [Int.toNat_natCast]
  rw [h]

set_option maxRecDepth 100000 in
theorem and15_all : ∀ x : Fin 256, Go.bits .and .i32 ((x.val : Nat) : Int) 15 = ((x.val % 16 : Nat) : Int) := by decide
theorem and15 (n : Nat) (h : n < 256) : Go.bits .and .i32 (n : Int) 15 = ((n % 16 : Nat) : Int) := and15_all ⟨n, h⟩

/-- the escaped URL -/
def pctURL (m zs : List UInt8) : List UInt8 := [100, 97, 116, 97, 58] ++ (m ++ [44]) ++ PE.esc (PE.ts zs) zs
/-- what the encoder leaves -/
def PctTo (w : World) (m zs : List UInt8) (e : Ending) (w' : World) : Prop :=
  (U8.validU zs = true → e = .returned (.tuple #[.string (ofBytes (pctURL m zs)), .bool true])) ∧ (U8.validU zs = false → e = .returned (.tuple #[.string ⟨#[]⟩, .bool false])) ∧ Below w.heap.size w w'

set_option maxHeartbeats 8000000 in
set_option maxRecDepth 100000 in
theorem percent_any (m s : ByteArray) (w : World) (hT : Lib.Utf8Tabs 0 1 w) (hm : m.size ≤ 1048576) (hs : s.size ≤ 1048576) :
    Calls Tryf.prog 24 #[.string m, .string s] w (PctTo w m.data.toList s.data.toList) := by
  obtain ⟨zs, hz⟩ : ∃ zs, zs = s.data.toList := ⟨_, rfl⟩
  obtain ⟨T, hTs⟩ : ∃ T, T = PE.ts zs := ⟨_, rfl⟩
  have hzl : Hid (zs.length = s.size) := hide (by rw [hz, ba_len])
  have hTl : T ≤ s.size := by rw [hTs, ← hzl.out]; exact PE.ts_le zs
  rw [← hz]
  obtain ⟨P, hP⟩ : ∃ P, P = [100, 97, 116, 97, 58] ++ (m.data.toList ++ [44]) := ⟨_, rfl⟩
  have hPd : Hid (pctURL m.data.toList zs = P ++ PE.esc (PE.ts zs) zs) := hide (by rw [hP]; rfl)
  have hPl : P.length ≤ 1048582 := by rw [hP]; simp; omega
  replace hP := hide hP
  replace hz := hide hz
  replace hTs := hide hTs
  replace hT := hide hT
  go_enter Tryf.func24, Tryf.ntmps24
  go_wp2_with fail
  have hu0 := Bu.new w
  refine (writeString_any w.heap.size w.heap.size [] _ _ hu0 (by decide) (by simp)).mono ?_
  rintro e w1 ⟨rfl, hu1, hb1⟩
  replace hu1 := hide hu1
  replace hb1 := hide (((Below.refl _ _).alloc (Nat.le_refl _) _).trans hb1)
  clear hu0
  go_wp2_with fail
  refine (writeString_any w.heap.size w.heap.size _ _ _ hu1.out (by simp; omega) hb1.out.size).mono ?_
  rintro e w2 ⟨rfl, hu2, hb2⟩
  replace hu2 := hide hu2
  replace hb2 := hide (hb1.out.trans hb2)
  clear hu1 hb1
  go_wp2_with fail
  refine (writeByte_any w.heap.size w.heap.size _ 44 _ _ rfl hu2.out (by simp; omega) hb2.out.size).mono ?_
  rintro e w3 ⟨rfl, hu3, hb3⟩
  replace hu3 := hide hu3
  replace hb3 := hide (hb2.out.trans hb3)
  clear hu2 hb2
  go_upto_block 0 with (fail)
  go_cut [11] (fun s11 wx => s11 = .int .i64 T ∧ w3 = wx)
  case first =>
    go_wp2_with fail
    go_loop [11] (fun s11 => ∃ k : Nat, k ≤ s.size ∧ s11 = .int .i64 k ∧ Hid (PE.ts (zs.take k) = T)) (fun s11 => (intOf s11).toNat)
    case atStart => exact ⟨s.size, Nat.le_refl _, rfl, hide (by rw [← hzl.out, List.take_length, hTs.out])⟩
    case round =>
      obtain ⟨k, hk, rfl, hkT⟩ := hrel
      rcases Nat.eq_zero_or_pos k with rfl | hk0
      · have hT0 : Hid (T = 0) := hide hkT.out.symm
        go_wp2
        go_meet
        exact ⟨by rw [hT0.out]; rfl, rfl⟩
      · obtain ⟨j, rfl⟩ : ∃ j, k = j + 1 := ⟨k - 1, by omega⟩
        have hj1 : (j : Int) + 1 - 1 = j := by omega
        have hjs : j < s.size := by omega
        have hx := ba_get s j hjs
        rw [← hz.out] at hx
        have htt := PE.ts_take hx
        have hi := idx_at s j j rfl hjs
        obtain ⟨x, hxe⟩ : ∃ x, x = s[j]'hjs := ⟨_, rfl⟩
        rw [← hxe] at htt hi
        clear hx hxe
        have hxl := x.toNat_lt
        obtain ⟨n, hn⟩ : ∃ n, n = x.toNat := ⟨_, rfl⟩
        rw [← hn] at hi hxl
        by_cases hb : n ≤ 32 ∧ n ≠ 9 ∧ n ≠ 10 ∧ n ≠ 13
        · have hbl : PE.blank x = true := by unfold PE.blank; rw [← hn]; exact decide_eq_true hb
          rw [hbl, if_pos rfl] at htt
          have hkT' : Hid (PE.ts (zs.take j) = T) := hide (htt.symm.trans hkT.out)
          obtain ⟨h1, h2, h3, h4⟩ := hb
          have b2 : ((n : Int) == 9) = false := by simp; omega
          have b3 : ((n : Int) == 10) = false := by simp; omega
          have b4 : ((n : Int) == 13) = false := by simp; omega
          clear h2 h3 h4 hn htt hbl hkT
          go_wp2
          go_round
          case rel => exact ⟨j, by omega, by go_num, hkT'⟩
          case measure => simp [intOf]
        · have hbl : PE.blank x = false := by unfold PE.blank; rw [← hn]; exact decide_eq_false hb
          rw [hbl, if_neg (by simp)] at htt
          have hkT' : Hid (T = j + 1) := hide (hkT.out.symm.trans htt)
          have h : 32 < n ∨ n = 9 ∨ n = 10 ∨ n = 13 := by omega
          clear hn htt hbl hkT hb
          rcases h with h | rfl | rfl | rfl
          all_goals
            go_wp2
            go_meet
            exact ⟨by rw [hkT'.out]; go_num, rfl⟩
  case rest =>
    obtain ⟨rfl, rfl⟩ := hcut
    have hu3 : Hid (Bu w.heap.size w.heap.size P w3) := hide (by
      have := hu3.out
      rw [List.nil_append, List.append_assoc] at this
      rw [hP.out]
      exact this)
    go_wp2_with fail
    go_loopw [9, 10] (fun s9 s10 wr => ∃ (i r : Nat) (X : List UInt8), i ≤ s.size ∧ r ≤ i ∧ s9 = .int .i64 i ∧ s10 = .int .i64 r ∧ Hid (Bu w.heap.size w.heap.size X wr) ∧ Hid (PE.Inv P zs X r i) ∧ Hid (U8.validU zs = U8.validU (zs.drop i)) ∧ Hid (Below w.heap.size w wr)) (fun s9 _ _ => s.size - (intOf s9).toNat)
    case atStart => exact ⟨0, 0, P, Nat.zero_le _, Nat.le_refl _, rfl, rfl, hu3, hide (PE.Inv.start _ _), hide rfl, hb3⟩
    case round =>
      clear hu3 hb3
      obtain ⟨i, r, X, hi, hr, rfl, rfl, hu, hI, hv, hb⟩ := hrel
      by_cases hin : i < s.size
      · obtain ⟨Y, hY⟩ : ∃ Y, Y = s.extract i s.size := ⟨_, rfl⟩
        have hYl : Y.data.toList = zs.drop i := by
          have hs2 : s = ofBytes zs := by rw [hz.out, ofBytes_self]
          rw [hY, hs2, ofBytes_extract, ofBytes_data, ofBytes_size, List.take_length]
        have hne : zs.drop i ≠ [] := fun e => by
          have := congrArg List.length e
          rw [List.length_drop, hzl.out] at this
          simp at this
          omega
        have hD := U8.decode_vlen Y
        rw [hYl] at hD
        have hdg : Lib.decodeGo Y = Utf8.decode Y 0 := by
          unfold Lib.decodeGo
          rw [if_neg]
          intro e
          rw [← ba_len, hYl] at e
          exact hne (List.eq_nil_of_length_eq_zero e)
        have hvl := U8.vlen_le _ hne
        rw [List.length_drop, hzl.out] at hvl
        have hTr : Hid (Lib.Utf8Tabs 0 1 wr) := hide (tabs_below hT.out hb.out)
        obtain ⟨hD0, hD1, hD2⟩ := hD
        rcases (by omega : U8.vlen (zs.drop i) = 0 ∨ U8.vlen (zs.drop i) = 1 ∨ 2 ≤ U8.vlen (zs.drop i)) with h0 | h1 | h2
        · have hd := hdg.trans (hD0 h0)
          have hvf : Hid (U8.validU zs = false) := hide (hv.out.trans (U8.validU_bad hne h0))
          replace hY := hide hY
          clear hD0 hD1 hD2 hdg hYl hne hvl hI hv h0
          go_wp2_with fail
          rw [← hY.out]
          refine (Tryf.utf8_DecodeRuneInString Y _ hTr.out).mono ?_
          rintro e wq ⟨rfl, hbq⟩
          rw [hd]
          replace hbq := hide (hb.out.trans (hbq.mono hb.out.size))
          clear hd hu hb
          go_wp2
          go_ret2
          exact ⟨fun h => absurd (h.symm.trans hvf.out) (by simp), fun _ => rfl, hbq.out⟩
        · obtain ⟨hx128, hD1⟩ := hD1 h1
          have hd := hdg.trans hD1
          have hx := ba_get s i hin
          rw [← hz.out] at hx
          obtain ⟨x, hxe⟩ : ∃ x, x = s[i]'hin := ⟨_, rfl⟩
          rw [← hxe] at hx
          have hat : U8.at_ (zs.drop i) 0 = x.toNat := by
            unfold U8.at_
            rw [List.getD_eq_getElem?_getD, List.getElem?_drop, Nat.add_zero, hx]
            rfl
          obtain ⟨n, hn⟩ : ∃ n, n = x.toNat := ⟨_, rfl⟩
          rw [hat, ← hn] at hd hx128
          have hv1 : Hid (U8.validU zs = U8.validU (zs.drop (i + 1))) := hide (by
            rw [hv.out, U8.validU_more hne (by omega), h1, List.drop_drop])
          obtain ⟨M, hM⟩ : ∃ M, M = PE.must (T - i) x (zs.drop (i + 1)) := ⟨_, rfl⟩
          have hM0 := hM
          rw [hTs.out] at hM0
          replace hM0 := hide hM0
          have hxl : x.toNat < 256 := x.toNat_lt
          replace hY := hide hY
          replace hx := hide hx
          have b65 : ((n : Int) == 65533) = false := by simp; omega
          replace hn := hide hn
          clear hD0 hD2 hdg hYl hvl hv h1 hD1 hat hxe hne hxl
          go_wp2_with fail
          rw [← hY.out]
          refine (Tryf.utf8_DecodeRuneInString Y _ hTr.out).mono ?_
          rintro e wq ⟨rfl, hbq⟩
          rw [hd]
          replace hu := hide (hu.out.below hbq)
          replace hb := hide (hb.out.trans (hbq.mono hb.out.size))
          clear hd hTr hbq
          go_upto_region 18 with (fail)
          go_cut [103] (fun s103 wx => s103 = .bool M ∧ wq = wx)
          case first =>
            clear hI hu hb hM0
            by_cases h4 : n = 9 ∨ n = 10 ∨ n = 13 ∨ n = 35
            · have hMt : M = true := by
                have := hn.out
                rw [hM]
                unfold PE.must
                rw [decide_eq_true (by omega)]
                rfl
              subst hMt
              clear hM
              rcases h4 with rfl | rfl | rfl | rfl
              all_goals
                go_wp2
                go_meet
                exact ⟨rfl, rfl⟩
            · have b9 : ((n : Int) == 9) = false := by simp; omega
              have b10 : ((n : Int) == 10) = false := by simp; omega
              have b13 : ((n : Int) == 13) = false := by simp; omega
              have b35 : ((n : Int) == 35) = false := by simp; omega
              by_cases hiT : T ≤ i
              · have hMt : M = true := by
                  rw [hM]
                  unfold PE.must
                  rw [decide_eq_true (by omega)]
                  rfl
                subst hMt
                clear hM h4
                go_wp2
                go_meet
                exact ⟨rfl, rfl⟩
              · have hM1 : M = (decide (n = 37) && PE.hex2 (zs.drop (i + 1))) := by
                  have := hn.out
                  rw [hM]
                  unfold PE.must
                  rw [decide_eq_false (by omega), ← this]
                  rfl
                clear hM h4
                by_cases h37 : n = 37
                · rw [decide_eq_true h37, Bool.true_and] at hM1
                  subst h37
                  clear b9 b10 b13 b35 b65
                  by_cases h2 : i + 2 < s.size
                  · have hxa := ba_get s (i + 1) (by omega)
                    have hxb := ba_get s (i + 2) h2
                    rw [← hz.out] at hxa hxb
                    have ia := idx_at s (i + 1) ((i : Int) + 1) (by omega) (by omega)
                    have ib := idx_at s (i + 2) ((i : Int) + 2) (by omega) h2
                    rw [PE.hex2_drop hxa hxb] at hM1
                    generalize s[i + 1] = a at hxa ia hM1
                    generalize s[i + 2] = b at hxb ib hM1
                    clear hxa hxb
                    cases ha : PM.isHex a
                    · rw [ha, Bool.false_and] at hM1
                      subst hM1
                      go_wp2_with (go_at_call 44; (with_reducible refine (hex44_any _ _).mono ?_); rintro e w' ⟨rfl, rfl⟩)
                      go_meet
                      exact ⟨rfl, rfl⟩
                    · rw [ha, Bool.true_and] at hM1
                      subst hM1
                      go_wp2_with (go_at_call 44; (with_reducible refine (hex44_any _ _).mono ?_); rintro e w' ⟨rfl, rfl⟩)
                      go_meet
                      exact ⟨rfl, rfl⟩
                  · rw [PE.hex2_short (by rw [hzl.out]; omega)] at hM1
                    subst hM1
                    go_wp2
                    go_meet
                    exact ⟨rfl, rfl⟩
                · rw [decide_eq_false h37, Bool.false_and] at hM1
                  subst hM1
                  have b37 : ((n : Int) == 37) = false := by simp; omega
                  clear h37
                  go_wp2
                  go_meet
                  exact ⟨rfl, rfl⟩
          case rest =>
            obtain ⟨rfl, rfl⟩ := hcut
            clear hM
            cases M
            · have hI1 : Hid (PE.Inv P zs X r (i + 1)) := hide (hI.out.plain hx.out hr hM0.out.symm)
              go_wp2
              go_roundw
              case rel => exact ⟨i + 1, r, X, by omega, by omega, by go_num, rfl, hu, hI1, hv1, hb⟩
              case measure => simp [intOf]; omega
            · have hI1 : Hid (PE.Inv P zs (X ++ (zs.take i).drop r ++ PE.three x) (i + 1) (i + 1)) := hide (hI.out.esc hx.out hM0.out.symm)
              have hXl := hI.out.length hr (by rw [hzl.out]; omega)
              have hel := PE.esc_length zs (PE.ts zs)
              rw [hzl.out] at hel
              have hn256 : n < 256 := by omega
              have hx1 : ∀ wx, (Instr.index 9 (.string ⟨#[48, 49, 50, 51, 52, 53, 54, 55, 56, 57, 65, 66, 67, 68, 69, 70]⟩) (.int .i32 ((n : Int) / 16))).run Tryf.prog wx = .ok (.int .u8 ((PE.hd (n / 16)).toNat : Int)) wx := fun wx => hexidx (n / 16) (by omega) wx
              have hx2 : ∀ wx, (Instr.index 9 (.string ⟨#[48, 49, 50, 51, 52, 53, 54, 55, 56, 57, 65, 66, 67, 68, 69, 70]⟩) (.int .i32 (Go.bits .and .i32 (n : Int) 15))).run Tryf.prog wx = .ok (.int .u8 ((PE.hd (n % 16)).toNat : Int)) wx := fun wx => by
                rw [and15 n hn256]
                exact hexidx (n % 16) (by omega) wx
              have hsub : Hid ((s.extract r i).data.toList = (zs.take i).drop r) := hide (by
                have hs2 : s = ofBytes zs := by rw [hz.out, ofBytes_self]
                rw [hs2, ofBytes_extract, ofBytes_data])
              have hsl : (s.extract r i).size ≤ i := by
                rw [← ba_len, hsub.out, List.length_drop, List.length_take]
                omega
              obtain ⟨X1, hX1⟩ : ∃ X1, X1 = X ++ (zs.take i).drop r := ⟨_, rfl⟩
              have hX1l : X1.length ≤ 8000000 := by
                rw [hX1, List.length_append, List.length_drop, List.length_take]
                omega
              have hI2 : Hid (PE.Inv P zs (X1 ++ PE.three x) (i + 1) (i + 1)) := hide (by rw [hX1]; exact hI1.out)
              have hXl2 : X.length ≤ 8000000 := by omega
              replace hX1 := hide hX1
              clear hI1 hI hXl hel
              by_cases hri : r < i
              · go_wp2_with fail
                refine (writeString_any w.heap.size w.heap.size X (s.extract r i) _ hu.out (by omega) hb.out.size).mono ?_
                rintro e v1 ⟨rfl, hu1, hb1⟩
                rw [hsub.out, ← hX1.out] at hu1
                replace hu := hide hu1
                replace hb := hide (hb.out.trans hb1)
                clear hu1 hb1
                as_aux_lemma =>
                  go_wp2_with fail
                  refine (writeByte_any w.heap.size w.heap.size X1 37 _ _ rfl hu.out (by omega) hb.out.size).mono ?_
                  rintro e v2 ⟨rfl, hu2, hb2⟩
                  replace hu2 := hide hu2
                  replace hb2 := hide (hb.out.trans hb2)
                  clear hu hb
                  go_wp2_with fail
                  refine (writeByte_any w.heap.size w.heap.size _ (PE.hd (n / 16)) _ _ rfl hu2.out (by simp; omega) hb2.out.size).mono ?_
                  rintro e v3 ⟨rfl, hu3, hb3⟩
                  replace hu3 := hide hu3
                  replace hb3 := hide (hb2.out.trans hb3)
                  clear hu2 hb2
                  go_wp2_with fail
                  refine (writeByte_any w.heap.size w.heap.size _ (PE.hd (n % 16)) _ _ rfl hu3.out (by simp; omega) hb3.out.size).mono ?_
                  rintro e v4 ⟨rfl, hu4, hb4⟩
                  replace hu4 : Hid (Bu w.heap.size w.heap.size (X1 ++ PE.three x) v4) := hide (by
                    unfold PE.three
                    rw [← hn.out]
                    rw [List.append_assoc, List.append_assoc] at hu4
                    exact hu4)
                  replace hb4 := hide (hb3.out.trans hb4)
                  clear hu3 hb3 hx1 hx2
                  go_wp2
                  go_roundw
                  case rel => exact ⟨i + 1, i + 1, X1 ++ PE.three x, by omega, by omega, by go_num, by go_num, hu4, hI2, hv1, hb4⟩
                  case measure => simp [intOf]; omega
              · have hu1 : Hid (Bu w.heap.size w.heap.size X1 wq) := hide (by
                  have e : (zs.take i).drop r = [] := List.drop_eq_nil_of_le (by rw [List.length_take]; omega)
                  rw [hX1.out, e, List.append_nil]
                  exact hu.out)
                clear hu
                as_aux_lemma =>
                  have hu := hu1
                  clear hu1
                  go_wp2_with fail
                  refine (writeByte_any w.heap.size w.heap.size X1 37 _ _ rfl hu.out (by omega) hb.out.size).mono ?_
                  rintro e v2 ⟨rfl, hu2, hb2⟩
                  replace hu2 := hide hu2
                  replace hb2 := hide (hb.out.trans hb2)
                  clear hu hb
                  go_wp2_with fail
                  refine (writeByte_any w.heap.size w.heap.size _ (PE.hd (n / 16)) _ _ rfl hu2.out (by simp; omega) hb2.out.size).mono ?_
                  rintro e v3 ⟨rfl, hu3, hb3⟩
                  replace hu3 := hide hu3
                  replace hb3 := hide (hb2.out.trans hb3)
                  clear hu2 hb2
                  go_wp2_with fail
                  refine (writeByte_any w.heap.size w.heap.size _ (PE.hd (n % 16)) _ _ rfl hu3.out (by simp; omega) hb3.out.size).mono ?_
                  rintro e v4 ⟨rfl, hu4, hb4⟩
                  replace hu4 : Hid (Bu w.heap.size w.heap.size (X1 ++ PE.three x) v4) := hide (by
                    unfold PE.three
                    rw [← hn.out]
                    rw [List.append_assoc, List.append_assoc] at hu4
                    exact hu4)
                  replace hb4 := hide (hb3.out.trans hb4)
                  clear hu3 hb3 hx1 hx2
                  go_wp2
                  go_roundw
                  case rel => exact ⟨i + 1, i + 1, X1 ++ PE.three x, by omega, by omega, by go_num, by go_num, hu4, hI2, hv1, hb4⟩
                  case measure => simp [intOf]; omega
        · obtain ⟨c, hc1, hc2, hc3, hD2⟩ := hD2 h2
          have hd := hdg.trans hD2
          have hby := PE.vlen_bytes h2
          obtain ⟨wd, hwd⟩ : ∃ wd, wd = U8.vlen (zs.drop i) := ⟨_, rfl⟩
          have hv1 : Hid (U8.validU zs = U8.validU (zs.drop (i + wd))) := hide (by
            rw [hv.out, U8.validU_more hne (by omega), hwd, List.drop_drop])
          have hI1 : Hid (PE.Inv P zs X r (i + wd)) := hide (hI.out.big wd i hr (fun k hk => by
            obtain ⟨y, hy, hyb⟩ := hby k (by omega)
            exact ⟨y, by rw [← hy, List.getElem?_drop], hyb⟩))
          obtain ⟨y, hy, hyb⟩ := hby 0 (by omega)
          rw [List.getElem?_drop, Nat.add_zero] at hy
          have hiT : i < T := by rw [hTs.out]; exact PE.ts_behind hy (by unfold PE.blank; exact decide_eq_false (by omega))
          rw [← hwd] at hd hvl h2
          replace hY := hide hY
          have b9 : ((c : Int) == 9) = false := by simp; omega
          have b10 : ((c : Int) == 10) = false := by simp; omega
          have b13 : ((c : Int) == 13) = false := by simp; omega
          have b35 : ((c : Int) == 35) = false := by simp; omega
          have b37 : ((c : Int) == 37) = false := by simp; omega
          have bw : ((wd : Int) == 1) = false := by simp; omega
          clear hD0 hD1 hdg hYl hv hD2 hby hwd hne hI hy hyb hc3
          by_cases h65 : c = 65533
          all_goals
            have b65 : ((c : Int) == 65533) = decide (c = 65533) := by rw [Bool.eq_iff_iff]; simp; omega
            first | rw [decide_eq_true h65] at b65 | rw [decide_eq_false h65] at b65
            replace h65 := hide h65
            go_wp2_with fail
            rw [← hY.out]
            refine (Tryf.utf8_DecodeRuneInString Y _ hTr.out).mono ?_
            rintro e wq ⟨rfl, hbq⟩
            rw [hd]
            replace hu := hide (hu.out.below hbq)
            replace hb := hide (hb.out.trans (hbq.mono hb.out.size))
            clear hd hTr hbq
            go_wp2
            go_roundw
            case rel => exact ⟨i + wd, r, X, by omega, by omega, by go_num, rfl, hu, hI1, hv1, hb⟩
            case measure => simp [intOf]; omega
      · have hin' : i = s.size := by omega
        have hvt : Hid (U8.validU zs = true) := hide (by
          rw [hv.out, List.drop_eq_nil_of_le (by rw [hzl.out]; omega)]
          exact U8.validU_nil)
        have hX : Hid (X ++ zs.drop r = pctURL m.data.toList zs) := hide (by rw [hPd.out]; exact hI.out.done (by rw [hzl.out]; omega))
        have hXl := hI.out.length hr (by rw [hzl.out]; omega)
        have hel := PE.esc_length zs (PE.ts zs)
        rw [hzl.out] at hel
        clear hI hv
        have hXl2 : X.length ≤ 8000000 := by omega
        by_cases hrs : r < s.size
        · have hsub : Hid ((s.extract r s.size).data.toList = zs.drop r) := hide (by
            have hs2 : s = ofBytes zs := by rw [hz.out, ofBytes_self]
            rw [hs2, ofBytes_extract, ofBytes_data, ofBytes_size, List.take_length])
          have hsl : (s.extract r s.size).size ≤ s.size := by
            rw [← ba_len, hsub.out, List.length_drop, hzl.out]
            omega
          go_wp2_with fail
          refine (writeString_any w.heap.size w.heap.size X (s.extract r s.size) _ hu.out (by omega) hb.out.size).mono ?_
          rintro e v1 ⟨rfl, hu1, hb1⟩
          rw [hsub.out, hX.out] at hu1
          replace hu := hide hu1
          replace hb := hide (hb.out.trans hb1)
          clear hu1 hb1
          go_wp2_with fail
          refine (Tryf.Builder_String_any w.heap.size w.heap.size (pctURL m.data.toList zs) v1 hu.out hb.out.size).mono ?_
          rintro e v2 ⟨rfl, hb2⟩
          replace hb := hide (hb.out.trans hb2)
          clear hb2
          go_wp2
          go_ret2
          exact ⟨fun _ => rfl, fun h => absurd (hvt.out.symm.trans h) (by simp), hb.out⟩
        · have hu1 : Hid (Bu w.heap.size w.heap.size (pctURL m.data.toList zs) wr) := hide (by
            have e : zs.drop r = [] := List.drop_eq_nil_of_le (by rw [hzl.out]; omega)
            have := hX.out
            rw [e, List.append_nil] at this
            rw [← this]
            exact hu.out)
          clear hu
          go_wp2_with fail
          refine (Tryf.Builder_String_any w.heap.size w.heap.size (pctURL m.data.toList zs) wr hu1.out hb.out.size).mono ?_
          rintro e v2 ⟨rfl, hb2⟩
          replace hb := hide (hb.out.trans hb2)
          clear hb2
          go_wp2
          go_ret2
          exact ⟨fun _ => rfl, fun h => absurd (hvt.out.symm.trans h) (by simp), hb.out⟩
end Go.Proofs.YtfimnjdfchdldaaFmt
