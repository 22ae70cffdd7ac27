/-
  The walk of FnShortestDataURLIsShorterOfTwoForms. Conditions: none.
-/
import Derived.Test.YtfimnjdfchdldaaFmtSht
import Derived.Test.YtfimnjdfchdldaaFmtBtw
import Derived.Test.YtfimnjdfchdldaaFmtMod
import Derived.Test.YtfimnjdfchdldaaFmtVld
namespace Go.Proofs.YtfimnjdfchdldaaFmt
open Go.RowKit Go.Extern.Stop Go.Stop Go.Extern

set_option maxHeartbeats 400000 in
theorem bytes12_any (m s : ByteArray) (w : World) (hm : m.size ≤ maxLen) (hs : s.size ≤ maxLen) :
    Calls Tryf.prog 12 #[.string m, .string s] w fun e w' => (e = .returned (.bool (decide (m.size + s.size ≤ 1048576)))) ∧ w = w' := by
  unfold maxLen at hm hs
  go_enter Tryf.func12, Tryf.ntmps12
  by_cases h1 : m.size + s.size ≤ 1048576
  · rw [decide_eq_true h1]
    go_wp2
    go_ret
    exact ⟨rfl, rfl⟩
  · rw [decide_eq_false h1]
    by_cases h2 : m.size ≤ 1048576
    · by_cases h3 : s.size ≤ 1048576
      · go_wp2
        go_ret
        exact ⟨rfl, rfl⟩
      · go_wp2
        go_ret
        exact ⟨rfl, rfl⟩
    · go_wp2
      go_ret
      exact ⟨rfl, rfl⟩

theorem cat_b64 (m : ByteArray) (zs : List UInt8) : (⟨#[100, 97, 116, 97, 58]⟩ : ByteArray) ++ m ++ ⟨#[59, 98, 97, 115, 101, 54, 52, 44]⟩ ++ ofBytes (BM.enc zs) = ofBytes (b64URL m.data.toList zs) := by
  apply ofBytes_eq
  unfold b64URL
  simp [ofBytes_data]

set_option maxHeartbeats 1600000 in
set_option maxRecDepth 100000 in
theorem law21_all (F : Interp) (m s : ByteArray) (w : World) (hF : F.told.answers w.tape) (hT : Lib.Utf8Tabs 0 1 w) (hm : m.size ≤ maxLen) (hs : s.size ≤ maxLen) :
    Calls Tryf.prog 4 #[.string m, .string s] w fun e w' => e = .returned (.bool true) ∧ Below w.heap.size w w' := by
  have hm' := hm
  have hs' := hs
  unfold maxLen at hm hs
  replace hF := hide hF
  replace hT := hide hT
  by_cases hTot : m.size + s.size ≤ 1048576
  · by_cases hL : m.size ≤ 524288 ∧ s.size ≤ 524288
    · obtain ⟨hL1, hL2⟩ := hL
      obtain ⟨zs, hz⟩ : ∃ zs, zs = s.data.toList := ⟨_, rfl⟩
      obtain ⟨X, hX⟩ : ∃ X, X = ofBytes (BM.enc zs) := ⟨_, rfl⟩
      have hXs : X.size ≤ 800000 := by rw [hX, ofBytes_size, BM.enc_length, hz, ba_len]; omega
      obtain ⟨W, hW⟩ : ∃ W, W = ofBytes (b64URL m.data.toList zs) := ⟨_, rfl⟩
      obtain ⟨Y, hY⟩ : ∃ Y, Y = ofBytes (pctURL m.data.toList zs) := ⟨_, rfl⟩
      obtain ⟨G, hG⟩ : ∃ G, G = ofBytes (shortURL m.data.toList zs) := ⟨_, rfl⟩
      have hcat := cat_b64 m zs
      rw [← hX, ← hW] at hcat
      have hWl : W.size = (b64URL m.data.toList zs).length := by rw [hW, ofBytes_size]
      have hYl : Y.size = (pctURL m.data.toList zs).length := by rw [hY, ofBytes_size]
      have hGc : (U8.validU zs = true ∧ Y.size < W.size ∧ G = Y) ∨ (U8.validU zs = true ∧ W.size ≤ Y.size ∧ G = W) ∨ (U8.validU zs = false ∧ G = W) := by
        cases hv : U8.validU zs
        · refine .inr (.inr ⟨rfl, ?_⟩)
          rw [hG, hW]
          unfold shortURL
          rw [if_neg (by rw [hv]; simp)]
        · by_cases hlt : Y.size < W.size
          · refine .inl ⟨rfl, hlt, ?_⟩
            rw [hG, hY]
            unfold shortURL
            rw [if_pos ⟨hv, by rw [← hYl, ← hWl]; exact hlt⟩]
          · refine .inr (.inl ⟨rfl, by omega, ?_⟩)
            rw [hG, hW]
            unfold shortURL
            rw [if_neg (fun e => hlt (by rw [hYl, hWl]; exact e.2))]
      replace hcat := hide hcat
      replace hX := hide hX
      replace hW := hide hW
      replace hY := hide hY
      replace hG := hide hG
      replace hz := hide hz
      clear hWl hYl
      go_enter Tryf.func4, Tryf.ntmps4
      go_wp2_with fail
      refine (bytes12_any m s _ hm' hs').mono ?_
      rintro e w' ⟨rfl, rfl⟩
      rw [decide_eq_true hTot]
      go_wp2_with fail
      refine (shortest_any F m s w hF.out hT.out hL1 hL2).mono ?_
      rintro e w1 ⟨rfl, hb1⟩
      replace hb1 := hide hb1
      rw [← hz.out, ← hG.out]
      go_wp2_with fail
      refine (base64b_any s w1 (by omega)).mono ?_
      rintro e w2 ⟨rfl, hb2⟩
      replace hb2 := hide (hb1.out.trans (hb2.mono hb1.out.size))
      rw [← hz.out, ← hX.out]
      clear hb1
      go_upto_region 9 with (fail)
      rw [hcat.out]
      go_wp2_with fail
      refine (valid_any s w2 (by omega)).mono ?_
      rintro e w3 ⟨rfl, rfl⟩
      rw [← hz.out]
      rcases hGc with ⟨hv, hlt, rfl⟩ | ⟨hv, hlt, rfl⟩ | ⟨hv, rfl⟩
      · rw [hv]
        go_wp2_with fail
        refine (model_any m s w2 (by omega) (by omega)).mono ?_
        rintro e w4 ⟨rfl, hb4⟩
        replace hb4 := hide (hb2.out.trans (hb4.mono hb2.out.size))
        rw [← hz.out, ← hY.out]
        clear hb2 hv
        go_wp2
        go_ret
        exact ⟨ret_bool (by simp), hb4.out⟩
      · rw [hv]
        go_wp2_with fail
        refine (model_any m s w2 (by omega) (by omega)).mono ?_
        rintro e w4 ⟨rfl, hb4⟩
        replace hb4 := hide (hb2.out.trans (hb4.mono hb2.out.size))
        rw [← hz.out, ← hY.out]
        clear hb2 hv
        go_wp2
        go_ret
        exact ⟨ret_bool (by simp), hb4.out⟩
      · rw [hv]
        clear hv
        go_wp2
        go_ret
        exact ⟨ret_bool (by simp), hb2.out⟩
    · go_enter Tryf.func4, Tryf.ntmps4
      go_wp2_with fail
      refine (bytes12_any m s _ hm' hs').mono ?_
      rintro e w' ⟨rfl, rfl⟩
      rw [decide_eq_true hTot]
      by_cases hL1 : m.size ≤ 524288
      · have hL2 : 524288 < s.size := by omega
        clear hL
        go_wp2
        go_ret
        exact ⟨rfl, Below.refl _ _⟩
      · clear hL
        go_wp2
        go_ret
        exact ⟨rfl, Below.refl _ _⟩
  · go_enter Tryf.func4, Tryf.ntmps4
    go_wp2_with fail
    refine (bytes12_any m s _ hm' hs').mono ?_
    rintro e w' ⟨rfl, rfl⟩
    rw [decide_eq_false hTot]
    go_wp2
    go_ret
    exact ⟨rfl, Below.refl _ _⟩
end Go.Proofs.YtfimnjdfchdldaaFmt
