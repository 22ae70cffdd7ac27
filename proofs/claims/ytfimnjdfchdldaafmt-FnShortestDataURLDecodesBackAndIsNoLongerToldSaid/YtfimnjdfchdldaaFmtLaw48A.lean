/-
  The walk of FnShortestDataURLDecodesBackAndIsNoLonger. Conditions: none.
-/
import Derived.Test.YtfimnjdfchdldaaFmtLaw21A
import Derived.Test.YtfimnjdfchdldaaFmtPdk
import Derived.Test.YtfimnjdfchdldaaFmtBkd
namespace Go.Proofs.YtfimnjdfchdldaaFmt
open Go.RowKit Go.Extern.Stop Go.Stop Go.Extern

set_option maxHeartbeats 400000 in
theorem bytes20_any (m s : ByteArray) (w : World) (hm : m.size ≤ maxLen) (hs : s.size ≤ maxLen) :
    Calls Tryf.prog 20 #[.string m, .string s] w fun e w' => (e = .returned (.bool (decide (m.size + s.size ≤ 1048576)))) ∧ w = w' := by
  unfold maxLen at hm hs
  go_enter Tryf.func20, Tryf.ntmps20
  by_cases h1 : m.size + s.size ≤ 1048576
  · rw [decide_eq_true h1]
    go_wp2
    go_ret
    exact ⟨rfl, rfl⟩
  · rw [decide_eq_false h1]
    by_cases h2 : m.size ≤ 1048576
    · by_cases h3 : s.size ≤ 1048576
      · go_wp2
        go_ret
        exact ⟨rfl, rfl⟩
      · go_wp2
        go_ret
        exact ⟨rfl, rfl⟩
    · go_wp2
      go_ret
      exact ⟨rfl, rfl⟩

theorem ext_front {a b : List UInt8} {n : Nat} (h : n = a.length) : (ofBytes (a ++ b)).extract 0 n = ofBytes a := by
  rw [ofBytes_extract, h]
  simp
theorem ext_back {a b : List UInt8} {n k : Nat} (h : n = a.length) (hk : k = a.length + b.length) : (ofBytes (a ++ b)).extract n k = ofBytes b := by
  rw [ofBytes_extract, h, hk, List.take_of_length_le (by simp)]
  simp

theorem ne_pre (a es r : List UInt8) (k : Nat) : (a ++ (44 :: es)).take k ≠ a ++ (59 :: r) := by
  intro h
  have h2 := congrArg (List.drop a.length) h
  rw [List.drop_take, List.drop_left, List.drop_left] at h2
  cases e : k - a.length with
  | zero => rw [e] at h2; simp at h2
  | succ n => rw [e] at h2; simp at h2

set_option maxHeartbeats 3200000 in
set_option maxRecDepth 100000 in
theorem law48_all (F : Interp) (m s : ByteArray) (w : World) (hF : F.told.answers w.tape) (hT : Lib.Utf8Tabs 0 1 w) (hm : m.size ≤ maxLen) (hs : s.size ≤ maxLen) :
    Calls Tryf.prog 6 #[.string m, .string s] w fun e w' => e = .returned (.bool true) ∧ Below w.heap.size w w' := by
  have hm' := hm
  have hs' := hs
  unfold maxLen at hm hs
  replace hF := hide hF
  replace hT := hide hT
  by_cases hTot : m.size + s.size ≤ 1048576
  · by_cases hL : m.size ≤ 524288 ∧ s.size ≤ 524288
    · obtain ⟨hL1, hL2⟩ := hL
      obtain ⟨zs, hz⟩ : ∃ zs, zs = s.data.toList := ⟨_, rfl⟩
      have hzs : s = ofBytes zs := by rw [hz, ofBytes_self]
      have hzl : zs.length = s.size := by rw [hz, ba_len]
      obtain ⟨ms, hms⟩ : ∃ ms, ms = m.data.toList := ⟨_, rfl⟩
      have hml : ms.length = m.size := by rw [hms, ba_len]
      -- the two prefixes
      obtain ⟨p64, hp64⟩ : ∃ p, p = [100, 97, 116, 97, 58] ++ ms ++ [59, 98, 97, 115, 101, 54, 52, 44] := ⟨_, rfl⟩
      obtain ⟨pP, hpP⟩ : ∃ p, p = [100, 97, 116, 97, 58] ++ ms ++ [44] := ⟨_, rfl⟩
      have h64l : p64.length = m.size + 13 := by rw [hp64]; simp; omega
      have hPl : pP.length = m.size + 6 := by rw [hpP]; simp; omega
      obtain ⟨A64s, hA64⟩ : ∃ A, A = ofBytes p64 := ⟨_, rfl⟩
      obtain ⟨APs, hAP⟩ : ∃ A, A = ofBytes pP := ⟨_, rfl⟩
      have hA64l : A64s.size = m.size + 13 := by rw [hA64, ofBytes_size, h64l]
      have hAPl : APs.size = m.size + 6 := by rw [hAP, ofBytes_size, hPl]
      have hc64 : (⟨#[100, 97, 116, 97, 58]⟩ : ByteArray) ++ m ++ ⟨#[59, 98, 97, 115, 101, 54, 52, 44]⟩ = A64s := by
        rw [hA64, hp64]
        apply ofBytes_eq
        simp [hms]
      have hcP : (⟨#[100, 97, 116, 97, 58]⟩ : ByteArray) ++ m ++ ⟨#[44]⟩ = APs := by
        rw [hAP, hpP]
        apply ofBytes_eq
        simp [hms]
      obtain ⟨G, hG⟩ : ∃ G, G = ofBytes (shortURL ms zs) := ⟨_, rfl⟩
      have hb64 : b64URL ms zs = p64 ++ BM.enc zs := by rw [hp64]; unfold b64URL; simp
      have hpct : pctURL ms zs = pP ++ PE.esc (PE.ts zs) zs := by rw [hpP]; unfold pctURL; simp
      have hel := BM.enc_length zs
      have hesl := PE.esc_length zs (PE.ts zs)
      have hGc : (U8.validU zs = true ∧ (pctURL ms zs).length < (b64URL ms zs).length ∧ G = ofBytes (pctURL ms zs)) ∨ (U8.validU zs = true ∧ (b64URL ms zs).length ≤ (pctURL ms zs).length ∧ G = ofBytes (b64URL ms zs)) ∨ (U8.validU zs = false ∧ G = ofBytes (b64URL ms zs)) := by
        cases hv : U8.validU zs
        · refine .inr (.inr ⟨rfl, ?_⟩)
          rw [hG]
          unfold shortURL
          rw [if_neg (by rw [hv]; simp)]
        · by_cases hlt : (pctURL ms zs).length < (b64URL ms zs).length
          · refine .inl ⟨rfl, hlt, ?_⟩
            rw [hG]
            unfold shortURL
            rw [if_pos ⟨hv, hlt⟩]
          · refine .inr (.inl ⟨rfl, by omega, ?_⟩)
            rw [hG]
            unfold shortURL
            rw [if_neg (fun e => hlt e.2)]
      have hgo : ∀ (P : ByteArray → World → Prop), True := fun _ => trivial
      clear hgo
      replace hc64 := hide hc64
      replace hcP := hide hcP
      replace hG := hide hG
      replace hz := hide hz
      replace hms := hide hms
      replace hzs := hide hzs
      replace hb64 := hide hb64
      replace hpct := hide hpct
      replace hp64 := hide hp64
      replace hpP := hide hpP
      replace hA64 := hide hA64
      replace hAP := hide hAP
      replace hel := hide hel
      replace hesl := hide hesl
      replace hzl := hide hzl
      replace hml := hide hml
      replace h64l := hide h64l
      replace hPl := hide hPl
      replace hGc := hide hGc
      go_enter Tryf.func6, Tryf.ntmps6
      go_wp2_with fail
      refine (bytes20_any m s _ hm' hs').mono ?_
      rintro e w' ⟨rfl, rfl⟩
      rw [decide_eq_true hTot]
      go_wp2_with fail
      refine (shortest_any F m s w hF.out hT.out hL1 hL2).mono ?_
      rintro e w1 ⟨rfl, hb1⟩
      have hT1 : Hid (Lib.Utf8Tabs 0 1 w1) := hide (tabs_below hT.out hb1)
      replace hb1 := hide hb1
      rw [← hz.out, ← hms.out, ← hG.out]
      go_upto_region 9 with (fail)
      rw [hc64.out]
      go_upto_region 11 with (fail)
      rw [hcP.out]
      have hbin : (G = ofBytes (b64URL ms zs) ∧ (U8.validU zs = true → (b64URL ms zs).length ≤ (pctURL ms zs).length)) ∨ (U8.validU zs = true ∧ (pctURL ms zs).length < (b64URL ms zs).length ∧ G = ofBytes (pctURL ms zs)) := by
        rcases hGc.out with h | h | h
        · exact .inr h
        · exact .inl ⟨h.2.2, fun _ => h.2.1⟩
        · exact .inl ⟨h.2, fun hv => by rw [h.1] at hv; exact Bool.noConfusion hv⟩
      rcases hbin with ⟨h, hle⟩ | ⟨hv, hlt, h⟩
      · -- the base64 form
        rw [hb64.out] at h
        have hGs : G.size = m.size + 13 + (BM.enc zs).length := by rw [h, ofBytes_size, List.length_append, h64l.out]
        have e1 : G.extract 0 A64s.size = A64s := by rw [h, hA64.out, ext_front (by rw [ofBytes_size])]
        obtain ⟨X, hX⟩ : ∃ X, X = ofBytes (BM.enc zs) := ⟨_, rfl⟩
        have e2 : G.extract (m.size + 13) (m.size + 13 + (BM.enc zs).length) = X := by rw [h, hX, ext_back h64l.out.symm (by rw [h64l.out])]
        have hXl : Hid (X.data.toList = BM.enc zs) := hide (by rw [hX, ofBytes_data])
        have hGl : G.size = (b64URL ms zs).length := by rw [hGs, hb64.out, List.length_append, h64l.out]
        replace hle : Hid (U8.validU zs = true → G.size ≤ (pctURL ms zs).length) := hide (by rw [hGl]; exact hle)
        clear hGl h
        obtain ⟨N, hN⟩ : ∃ N, N = (BM.enc zs).length := ⟨_, rfl⟩
        rw [← hN] at hGs e2
        have hN4 : N = 4 * ((s.size + 2) / 3) := by rw [hN, hel.out, hzl.out]
        clear hX
        replace hN := hide hN
        have hpre : A64s.size ≤ G.size := by omega
        go_wp2_with fail
        refine (prefix21_yes G A64s _ hpre e1).mono ?_
        rintro e w' ⟨rfl, rfl⟩
        replace e1 := hide e1
        rw [hN4] at e2
        replace e2 := hide e2
        go_wp2_with fail
        rw [e2.out]
        refine (b64back_any X zs _ hXl.out (by rw [hzl.out]; exact hL2)).mono ?_
        rintro e w2 ⟨rfl, hb2⟩
        rw [← hzs.out]
        have hT2 : Hid (Lib.Utf8Tabs 0 1 w2) := hide (tabs_below hT1.out hb2)
        replace hb2 := hide (hb1.out.trans (hb2.mono hb1.out.size))
        clear hb1 hT1
        go_wp2_with fail
        refine (percent_any m s _ hT2.out (by omega) (by omega)).mono ?_
        rintro e w3 ⟨hy, hn, hb3⟩
        rw [← hz.out, ← hms.out] at hy
        rw [← hz.out] at hn
        replace hb3 := hide (hb2.out.trans (hb3.mono hb2.out.size))
        clear hb2 hT2
        cases hv : U8.validU zs
        · obtain rfl := hn hv
          clear hy hn hv
          go_wp2
          go_ret
          exact ⟨rfl, hb3.out⟩
        · obtain rfl := hy hv
          obtain ⟨Y, hY⟩ : ∃ Y, Y = ofBytes (pctURL ms zs) := ⟨_, rfl⟩
          rw [← hY]
          have hGY : G.size ≤ Y.size := by rw [hY, ofBytes_size]; exact hle.out hv
          have hYs : Y.size ≤ 3000000 := by rw [hY, ofBytes_size, hpct.out, List.length_append, hPl.out]; have := hesl.out; have := hzl.out; omega
          replace hY := hide hY
          clear hy hn hv hle
          go_wp2
          go_ret
          exact ⟨rfl, hb3.out⟩
      · -- the percent form
        rw [hpct.out] at h
        obtain ⟨es, hes⟩ : ∃ es, es = PE.esc (PE.ts zs) zs := ⟨_, rfl⟩
        rw [← hes] at h
        have hesz : es.length ≤ 3 * s.size := by rw [hes, ← hzl.out]; exact hesl.out
        have hGs : G.size = m.size + 6 + es.length := by rw [h, ofBytes_size, List.length_append, hPl.out]
        have e1 : G.extract 0 APs.size = APs := by rw [h, hAP.out, ext_front (by rw [ofBytes_size])]
        obtain ⟨X, hX⟩ : ∃ X, X = ofBytes es := ⟨_, rfl⟩
        have e2 : G.extract (m.size + 6) (m.size + 6 + es.length) = X := by rw [h, hX, ext_back hPl.out.symm (by rw [hPl.out])]
        have hXd : Hid (ofBytes (PE.pdl X.data.toList) = s) := hide (by rw [hX, ofBytes_data, hes, PE.pdl_esc, ← hzs.out])
        have hXs : X.size = es.length := by rw [hX, ofBytes_size]
        have hne : (G.extract 0 A64s.size).data.toList ≠ A64s.data.toList := by
          rw [h, hA64.out, ofBytes_extract, ofBytes_data, ofBytes_data, ofBytes_size]
          rw [hp64.out, hpP.out]
          have := ne_pre ([100, 97, 116, 97, 58] ++ ms) es [98, 97, 115, 101, 54, 52, 44] ([100, 97, 116, 97, 58] ++ ms ++ [59, 98, 97, 115, 101, 54, 52, 44]).length
          simpa using this
        have hlt2 : G.size < m.size + 13 + 4 * ((s.size + 2) / 3) := by
          rw [hb64.out, hpct.out, List.length_append, List.length_append, hPl.out, h64l.out, hel.out, hzl.out, ← hes] at hlt
          omega
        have hGl : G = ofBytes (pctURL ms zs) := by rw [h, hpct.out, ← hes]
        replace hGl := hide hGl
        replace hes := hide hes
        clear hX hlt h
        go_wp2_with fail
        refine (prefix21_no G A64s _ (.inr hne)).mono ?_
        clear hne
        rintro e w' ⟨rfl, rfl⟩
        replace e1 := hide e1
        replace e2 := hide e2
        go_wp2_with fail
        refine (prefix21_yes G APs _ (by omega) e1.out).mono ?_
        rintro e w' ⟨rfl, rfl⟩
        go_wp2_with fail
        rw [e2.out]
        refine (pctback_any X _ (by omega)).mono ?_
        rintro e w2 ⟨rfl, hb2⟩
        rw [hXd.out]
        have hT2 : Hid (Lib.Utf8Tabs 0 1 w2) := hide (tabs_below hT1.out hb2)
        replace hb2 := hide (hb1.out.trans (hb2.mono hb1.out.size))
        clear hb1 hT1
        go_wp2_with fail
        refine (percent_any m s _ hT2.out (by omega) (by omega)).mono ?_
        rintro e w3 ⟨hy, hn, hb3⟩
        rw [← hz.out, ← hms.out] at hy
        clear hn
        replace hb3 := hide (hb2.out.trans (hb3.mono hb2.out.size))
        clear hb2 hT2
        obtain rfl := hy hv
        rw [← hGl.out]
        clear hy
        go_wp2
        go_ret
        exact ⟨rfl, hb3.out⟩
    · go_enter Tryf.func6, Tryf.ntmps6
      go_wp2_with fail
      refine (bytes20_any m s _ hm' hs').mono ?_
      rintro e w' ⟨rfl, rfl⟩
      rw [decide_eq_true hTot]
      by_cases hL1 : m.size ≤ 524288
      · have hL2 : 524288 < s.size := by omega
        clear hL
        go_wp2
        go_ret
        exact ⟨rfl, Below.refl _ _⟩
      · clear hL
        go_wp2
        go_ret
        exact ⟨rfl, Below.refl _ _⟩
  · go_enter Tryf.func6, Tryf.ntmps6
    go_wp2_with fail
    refine (bytes20_any m s _ hm' hs').mono ?_
    rintro e w' ⟨rfl, rfl⟩
    rw [decide_eq_false hTot]
    go_wp2
    go_ret
    exact ⟨rfl, Below.refl _ _⟩
end Go.Proofs.YtfimnjdfchdldaaFmt
