/-
  The walk of FnErrorsToStringBlockCarriesText. Conditions: none.
-/
import Derived.Test.YtcmajdimggdkoaaFmtHlq
namespace Go.Proofs.YtcmajdimggdkoaaFmt
open Go.RowKit Go.Extern.Stop Go.Stop Go.Extern

theorem at_report (s : ByteArray) : AtP (ofBytes (reportOf [s])) s 12 := by
  intro j x hj
  have hl : j < s.data.toList.length := (List.getElem?_eq_some_iff.1 hj).1
  have e : reportOf [s] = textOf false s := by simp [reportOf]
  rw [ofBytes_data, e, textOf_err, ← List.append_assoc, ← List.append_assoc, List.getElem?_append_left (by simp; simp at hl; omega), List.getElem?_append_right (by simp)]
  simp
  simpa using hj
theorem last_report (s : ByteArray) (U : ByteArray) (hU : U = ofBytes (reportOf [s])) (h : U.size - 1 < U.size) : U[U.size - 1] = 10 := by
  have e : reportOf [s] = textOf false s := by simp [reportOf]
  have h2 := ba_get U (U.size - 1) h
  have h3 : U.data.toList[U.size - 1]? = some 10 := by
    have hs : U.size = s.size + 14 := by rw [hU, ofBytes_size, e, textOf_err]; simp
    rw [hs, hU, ofBytes_data, e, textOf_err]
    rw [List.getElem?_append_right (by simp), List.getElem?_append_right (by simp)]
    simp
  rw [h2] at h3
  exact Option.some.inj h3

theorem below_drewN {B : Nat} {w w' : World} (h : Below B w w') (m : Nat) : Below B w (w'.drewN m) := by
  induction m with
  | zero => exact h
  | succ m ih => exact ih.drew

set_option maxHeartbeats 3200000 in
set_option maxRecDepth 100000 in
theorem law15_all (F : Interp) (s : ByteArray) (w : World) (hF : F.told.answers w.tape) (hs : s.size ≤ maxLen) :
    Calls Tryf.prog 3 #[.string s] w fun e w' => e = .returned (.bool true) ∧ Below w.heap.size w w' := by
  have hs' := hs
  unfold maxLen at hs
  replace hF := hide hF
  by_cases hTot : s.size ≤ 1048576
  · go_enter Tryf.func3, Tryf.ntmps3
    go_wp2_with fail
    refine (bytes7_any s _ hs').mono ?_
    rintro e w' ⟨rfl, rfl⟩
    rw [decide_eq_true hTot]
    go_wp2_with fail
    go_loop [3] (fun i => ∃ k : Nat, k ≤ s.size ∧ i = .int .i64 k) (fun i => s.size - (intOf i).toNat)
    case atStart => exact ⟨0, by omega, rfl⟩
    case round =>
      obtain ⟨k, hk, rfl⟩ := hrel
      by_cases hks : k < s.size
      · have hlt := (s[k]'hks).toNat_lt
        by_cases hc : 32 ≤ (s[k]'hks).toNat
        · by_cases hc2 : (s[k]'hks).toNat ≤ 126
          · go_wp2
            exact ⟨⟨k + 1, by omega, by go_num⟩, by simp [intOf]; omega⟩
          · go_wp2
            go_ret
            exact ⟨rfl, Below.refl _ _⟩
        · go_wp2
          go_ret
          exact ⟨rfl, Below.refl _ _⟩
      · have hF0 := hF.out
        have r0 : (ofBytes (reportOf [])) = ⟨#[]⟩ := rfl
        go_wp2_with fail
        refine (report8_few F none 0 0 [] _ ?_ ⟨rfl, fun h => absurd h (by omega)⟩ (by omega) (by simp)).mono ?_
        exact hF.out
        rintro e w1 ⟨rfl, hb1⟩
        rw [r0]
        have hF1 : F.told.answers w1.tape := by rw [hb1.tape]; exact hF.out
        replace hF1 := hide hF1
        replace hb1 := hide hb1
        go_wp2_with fail
        refine (report8_few F _ 0 0 [] _ ?_ ⟨rfl, fun h => absurd h (by omega)⟩ (by omega) (by simp)).mono ?_
        exact hF1.out
        rintro e w2 ⟨rfl, hb2⟩
        rw [r0]
        have hb3 := (hb1.out.alloc hb1.out.size (.cells #[] 28)).trans (hb2.mono (by have := hb1.out.size; simp; omega))
        have hF2 : F.told.answers w2.tape := by rw [hb3.tape]; exact hF.out
        replace hF2 := hide hF2
        replace hb3 := hide hb3
        clear hb2 hb1 hF1 r0 hF0
        go_wp2_with fail
        refine (report8_few F _ 1 1 [s] _ ?_ (msgs_one rfl) (by omega) (by intro u hu; simp at hu; subst hu; exact hTot)).mono ?_
        exact hF2.out
        rintro e w3 ⟨rfl, hb4⟩
        have hb5 := (hb3.out.alloc hb3.out.size (.cells #[.string ⟨#[]⟩, .string ⟨#[]⟩, .string s, .pointer none, .slice none 0 0, .nilIface] 28)).trans (hb4.mono (by have := hb3.out.size; simp; omega))
        replace hb5 := hide hb5
        clear hb4 hb3 hF2
        have hat := at_report s
        obtain ⟨U, hU⟩ : ∃ U, U = ofBytes (reportOf [s]) := ⟨_, rfl⟩
        rw [← hU] at hat ⊢
        have hUl : U.size = s.size + 14 := by rw [hU, ofBytes_size]; simp [reportOf, textOf_err]
        have g1 : s.size < U.size := by omega
        have g2 : U.size ≤ 1048590 := by omega
        have g3 : 12 + s.size ≤ U.size := by omega
        have g4 : U.size - 1 < U.size := by omega
        have hl := last_report s U hU g4
        have hl2 : (((U[U.size - 1]'g4).toNat : Int) == 10) = true := by rw [hl]; rfl
        replace hat := hide hat
        clear hl hUl hU
        go_wp2_with fail
        refine (contains9_yes U s _ 12 (by omega) (by omega) g3 hat.out).mono ?_
        rintro e w4 ⟨rfl, m, rfl⟩
        replace hb5 := hide (below_drewN hb5.out m)
        go_wp2_with fail
        go_ret
        exact ⟨rfl, hb5.out⟩
  · go_enter Tryf.func3, Tryf.ntmps3
    go_wp2_with fail
    refine (bytes7_any s _ hs').mono ?_
    rintro e w' ⟨rfl, rfl⟩
    rw [decide_eq_false hTot]
    go_wp2
    go_ret
    exact ⟨rfl, Below.refl _ _⟩
end Go.Proofs.YtcmajdimggdkoaaFmt
