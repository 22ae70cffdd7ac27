/-
  The walk of the model's percent URL. Conditions: sizes.
-/
import Derived.Test.YtfimnjdfchdldaaFmtMrk
import Derived.Test.YtfimnjdfchdldaaFmtPes
namespace Go.Proofs.YtfimnjdfchdldaaFmt
open Go.RowKit

namespace PE
/-- what the model's loop keeps -/
def Mi (P zs X : List UInt8) (p : Nat) : Prop := X ++ esc (ts zs - p) (zs.drop p) = P ++ esc (ts zs) zs
theorem Mi.start (P zs : List UInt8) : Mi P zs P 0 := by simp [Mi]
theorem Mi.esc {P zs X : List UInt8} {p : Nat} {x : UInt8} (h : Mi P zs X p) (hx : zs[p]? = some x) (hm : must (ts zs - p) x (zs.drop (p + 1)) = true) : Mi P zs (X ++ three x) (p + 1) := by
  unfold Mi at h ⊢
  rw [esc_at hx, hm] at h
  rw [← h]
  simp
theorem Mi.plain {P zs X : List UInt8} {p : Nat} {x : UInt8} (h : Mi P zs X p) (hx : zs[p]? = some x) (hm : must (ts zs - p) x (zs.drop (p + 1)) = false) : Mi P zs (X ++ [x]) (p + 1) := by
  unfold Mi at h ⊢
  rw [esc_at hx, hm] at h
  rw [← h]
  simp
theorem Mi.done {P zs X : List UInt8} {p : Nat} (h : Mi P zs X p) (hp : zs.length ≤ p) : X = P ++ PE.esc (ts zs) zs := by
  unfold Mi at h
  rw [esc_end _ hp, List.append_nil] at h
  exact h
theorem Mi.length {P zs X : List UInt8} {p : Nat} (h : Mi P zs X p) : X.length ≤ P.length + (PE.esc (ts zs) zs).length := by
  have := congrArg List.length h
  simp only [List.length_append] at this
  omega
end PE

set_option maxRecDepth 100000 in
theorem and15m_all : ∀ x : Fin 256, Go.bits .and .u8 ((x.val : Nat) : Int) 15 = ((x.val % 16 : Nat) : Int) := by decide

set_option maxHeartbeats 8000000 in
set_option maxRecDepth 1000000 in
theorem model_any (m s : ByteArray) (w : World) (hm : m.size ≤ 1048576) (hs : s.size ≤ 1048576) :
    Calls Tryf.prog 16 #[.string m, .string s] w fun e w' => e = .returned (.string (ofBytes (pctURL m.data.toList s.data.toList))) ∧ Below w.heap.size w w' := by
  obtain ⟨zs, hz⟩ : ∃ zs, zs = s.data.toList := ⟨_, rfl⟩
  obtain ⟨T, hTs⟩ : ∃ T, T = PE.ts zs := ⟨_, rfl⟩
  have hzl : Hid (zs.length = s.size) := hide (by rw [hz, ba_len])
  have hTl : T ≤ s.size := by rw [hTs, ← hzl.out]; exact PE.ts_le zs
  rw [← hz]
  obtain ⟨P, hP⟩ : ∃ P, P = [100, 97, 116, 97, 58] ++ (m.data.toList ++ [44]) := ⟨_, rfl⟩
  have hPd : Hid (pctURL m.data.toList zs = P ++ PE.esc (PE.ts zs) zs) := hide (by rw [hP]; rfl)
  have hPl : P.length ≤ 1048582 := by rw [hP]; simp; omega
  replace hP := hide hP
  replace hz := hide hz
  replace hTs := hide hTs
  go_enter Tryf.func16, Tryf.ntmps16
  go_wp2_with fail
  go_loop [6, 7] (fun s6 s7 => ∃ p t : Nat, p ≤ s.size ∧ t ≤ p ∧ s7 = .int .i64 p ∧ s6 = .int .i64 t ∧ Hid (PE.ts (zs.take p) = t)) (fun _ s7 => s.size - (intOf s7).toNat)
  case atStart => exact ⟨0, 0, Nat.zero_le _, Nat.le_refl _, rfl, rfl, hide rfl⟩
  case round =>
    obtain ⟨p, t, hp, htp, rfl, rfl, ht⟩ := hrel
    by_cases hin : p < s.size
    · have hx := ba_get s p hin
      rw [← hz.out] at hx
      have ix := idx_at s p p rfl hin
      generalize s[p]'hin = x at hx ix
      have htt := PE.ts_take hx
      rw [ht.out] at htt
      cases hb : PE.blank x
      · rw [hb, if_neg (by simp)] at htt
        replace htt := hide htt
        clear hx ht
        go_wp2_with (go_at_call 34; (with_reducible refine (blank34_any _ _).mono ?_); rintro e w' ⟨rfl, rfl⟩)
        go_round
        case rel => exact ⟨p + 1, p + 1, by omega, by omega, by go_num, by go_num, htt⟩
        case measure => simp [intOf]; omega
      · rw [hb, if_pos rfl] at htt
        replace htt := hide htt
        clear hx ht
        go_wp2_with (go_at_call 34; (with_reducible refine (blank34_any _ _).mono ?_); rintro e w' ⟨rfl, rfl⟩)
        go_round
        case rel => exact ⟨p + 1, t, by omega, by omega, by go_num, rfl, htt⟩
        case measure => simp [intOf]; omega
    · obtain rfl : T = t := by
        rw [hTs.out, ← ht.out, List.take_of_length_le (by rw [hzl.out]; omega)]
      clear ht
      go_wp2_with (with_reducible refine wpList_bytes_mk rfl (.tmp 28) rfl _ rfl ?c1 Tryf.underlying9 Tryf.underlying39 Tryf.underlying5 ?_)
      case c1 => omega
      intro v1 w1 hown1 hb1 hsz1
      have hown : Hid (OwnM w1 w.heap.size v1 P) := hide (by rw [hP.out]; exact hown1)
      replace hb1 := hide hb1
      clear hown1 hsz1 htp hin hp
      go_wp2_with fail
      go_loopw [8, 9] (fun s8 s9 wr => ∃ (p : Nat) (X : List UInt8), p ≤ s.size ∧ s9 = .int .i64 p ∧ Hid (OwnM wr w.heap.size s8 X) ∧ Hid (PE.Mi P zs X p) ∧ Hid (Below w.heap.size w wr)) (fun _ s9 _ => s.size - (intOf s9).toNat)
      case atStart => exact ⟨0, P, Nat.zero_le _, rfl, hown, hide (PE.Mi.start _ _), hb1⟩
      case round =>
        clear hown hb1
        obtain ⟨p, X, hp, rfl, hown, hI, hb⟩ := hrel
        by_cases hin : p < s.size
        · have hx := ba_get s p hin
          rw [← hz.out] at hx
          have ix := idx_at s p p rfl hin
          generalize s[p]'hin = x at hx ix
          obtain ⟨M, hM⟩ : ∃ M, M = PE.must (T - p) x (zs.drop (p + 1)) := ⟨_, rfl⟩
          have hM0 := hM
          rw [hTs.out] at hM0
          replace hM0 := hide hM0
          have hxl := x.toNat_lt
          obtain ⟨n, hn⟩ : ∃ n, n = x.toNat := ⟨_, rfl⟩
          rw [← hn] at ix hxl
          have hXl := hI.out.length
          have hel := PE.esc_length zs (PE.ts zs)
          rw [hzl.out] at hel
          have hXl2 : X.length ≤ 8000000 := by omega
          replace hn := hide hn
          replace hx := hide hx
          clear hXl hel
          obtain ⟨M1, hM1⟩ : ∃ M1, M1 = decide (n = 9 ∨ n = 10 ∨ n = 13 ∨ n = 35 ∨ T ≤ p) := ⟨_, rfl⟩
          go_upto_region 13 with (fail)
          go_cut [11] (fun s11 wx => s11 = .bool M1 ∧ wr = wx)
          case first =>
            by_cases h4 : n = 9 ∨ n = 10 ∨ n = 13 ∨ n = 35
            · obtain rfl : M1 = true := by rw [hM1]; exact decide_eq_true (by omega)
              clear hM0 hM hM1
              rcases h4 with rfl | rfl | rfl | rfl
              all_goals
                go_wp2
                go_meet
                exact ⟨rfl, rfl⟩
            · have b9 : ((n : Int) == 9) = false := by simp; omega
              have b10 : ((n : Int) == 10) = false := by simp; omega
              have b13 : ((n : Int) == 13) = false := by simp; omega
              have b35 : ((n : Int) == 35) = false := by simp; omega
              by_cases hiT : T ≤ p
              · obtain rfl : M1 = true := by rw [hM1]; exact decide_eq_true (by omega)
                clear h4 hM1
                go_wp2
                go_meet
                exact ⟨rfl, rfl⟩
              · obtain rfl : M1 = false := by rw [hM1]; exact decide_eq_false (by omega)
                clear h4 hM1
                go_wp2
                go_meet
                exact ⟨rfl, rfl⟩
          case rest =>
            obtain ⟨rfl, rfl⟩ := hcut
            obtain ⟨H, hH⟩ : ∃ H, H = (decide (n = 37) && PE.hex2 (zs.drop (p + 1))) := ⟨_, rfl⟩
            have hM2 : M = (M1 || H) := by
              rw [hM, hM1, hH]
              unfold PE.must
              rw [← hn.out]
              congr 1
              rw [decide_eq_decide]
              omega
            clear hM hM1
            replace hM2 := hide hM2
            go_upto_region 14 with (fail)
            go_cut [78] (fun s78 wx => s78 = .bool H ∧ wr = wx)
            case first =>
              clear hI hown hb hM0 hM2
              by_cases h : n = 37
              · rw [decide_eq_true h, Bool.true_and] at hH
                subst h
                by_cases h2 : p + 2 < s.size
                · have hxa := ba_get s (p + 1) (by omega)
                  have hxb := ba_get s (p + 2) h2
                  rw [← hz.out] at hxa hxb
                  have ia := idx_at s (p + 1) ((p : Int) + 1) (by omega) (by omega)
                  have ib := idx_at s (p + 2) ((p : Int) + 2) (by omega) h2
                  rw [PE.hex2_drop hxa hxb] at hH
                  generalize s[p + 1] = a at hxa ia hH
                  generalize s[p + 2] = b at hxb ib hH
                  clear hxa hxb ix
                  cases ha : PM.isHex a
                  · rw [ha, Bool.false_and] at hH
                    subst hH
                    go_wp2_with (go_at_call 35; (with_reducible refine (hex35_any _ _).mono ?_); rintro e w' ⟨rfl, rfl⟩)
                    go_meet
                    exact ⟨rfl, rfl⟩
                  · rw [ha, Bool.true_and] at hH
                    cases hbx : PM.isHex b
                    · rw [hbx] at hH
                      subst hH
                      go_wp2_with (go_at_call 35; (with_reducible refine (hex35_any _ _).mono ?_); rintro e w' ⟨rfl, rfl⟩)
                      go_meet
                      exact ⟨rfl, rfl⟩
                    · rw [hbx] at hH
                      subst hH
                      go_wp2_with (go_at_call 35; (with_reducible refine (hex35_any _ _).mono ?_); rintro e w' ⟨rfl, rfl⟩)
                      go_meet
                      exact ⟨rfl, rfl⟩
                · rw [PE.hex2_short (by rw [hzl.out]; omega)] at hH
                  subst hH
                  clear ix
                  go_wp2
                  go_meet
                  exact ⟨rfl, rfl⟩
              · rw [decide_eq_false h, Bool.false_and] at hH
                subst hH
                have b37 : ((n : Int) == 37) = false := by simp; omega
                clear h ix
                go_wp2
                go_meet
                exact ⟨rfl, rfl⟩
            case rest =>
              obtain ⟨rfl, rfl⟩ := hcut
              clear ix hH
              have hbs := hb.out.size
              have hgr : ∀ k, u8.ownBlock = some k → w.heap.size ≤ k := fun k hk => by
                obtain ⟨g, cap, cur, fz, e, hbg, hh, r⟩ := hown.out
                rw [e] at hk
                cases hk
                exact hbg
              replace hgr := hide hgr
              have hn16 : n / 16 < 16 := by omega
              have hn15 : n % 16 < 16 := by omega
              have a15 : Go.bits .and .u8 (n : Int) 15 = ((n % 16 : Nat) : Int) := and15m_all ⟨n, hxl⟩
              obtain ⟨q1, hq1⟩ : ∃ q, q = n / 16 := ⟨_, rfl⟩
              obtain ⟨q2, hq2⟩ : ∃ q, q = n % 16 := ⟨_, rfl⟩
              have d16 : (n : Int) / 16 = (q1 : Int) := by omega
              rw [← hq2] at a15 hn15
              rw [← hq1] at hn16
              cases M1 <;> cases H
              · have hMf : M = false := hM2.out
                rw [hMf] at hM0
                have hI1 : Hid (PE.Mi P zs (X ++ [x]) (p + 1)) := hide (hI.out.plain hx.out hM0.out.symm)
                clear d16 a15 hq1 hq2
                go_wp2_with (at_builtin; refine wpList_push_mk E39 rfl (.tmp 89) (.tmp 91) rfl hown.out rfl [x] _ ?c1 1 rfl rfl ?c2 hbs ?_)
                case c1 => rw [hn.out]; rfl
                case c2 => omega
                intro v2 w2 hown2 hg2
                have hb2 := hb.out.grown hg2 hbs hgr.out
                replace hown2 := hide hown2
                replace hb2 := hide hb2
                clear hg2 hown hb hI
                go_wp2
                go_roundw
                case rel => exact ⟨p + 1, X ++ [x], by omega, by go_num, hown2, hI1, hb2⟩
                case measure => simp [intOf]; omega
              all_goals
                have hMf : M = true := hM2.out
                rw [hMf] at hM0
                have hI1 : Hid (PE.Mi P zs (X ++ PE.three x) (p + 1)) := hide (hI.out.esc hx.out hM0.out.symm)
                replace hq1 := hide hq1
                replace hq2 := hide hq2
                go_wp2_with (first
                  | (go_at_call 36; (with_reducible refine (digit36_any _ (by assumption) _).mono ?_); rintro e w' ⟨rfl, rfl⟩)
                  | (at_builtin; refine wpList_push_mk E39 rfl (.tmp 80) (.tmp 87) rfl hown.out rfl (PE.three x) _ ?c1 3 rfl rfl ?c2 hbs ?_))
                case c1 => unfold PE.three; rw [← hn.out, ← hq1.out, ← hq2.out]; rfl
                case c2 => omega
                intro v2 w2 hown2 hg2
                have hb2 := hb.out.grown hg2 hbs hgr.out
                replace hown2 := hide hown2
                replace hb2 := hide hb2
                clear hg2 hown hb hI d16 a15
                go_wp2
                go_roundw
                case rel => exact ⟨p + 1, X ++ PE.three x, by omega, by go_num, hown2, hI1, hb2⟩
                case measure => simp [intOf]; omega
        · have hfin : Hid (X = pctURL m.data.toList zs) := hide (by rw [hPd.out]; exact hI.out.done (by rw [hzl.out]; omega))
          obtain ⟨A, c, hA, hAc, hrd⟩ := hown.out.rd
          subst hA
          rw [hfin.out] at hrd
          have hst := hrd.string 39 5 9 c Tryf.underlying39 Tryf.underlying5 Tryf.underlying9
          rw [hfin.out]
          clear hrd hown hI
          go_wp2
          go_ret
          exact ⟨rfl, hb.out⟩
end Go.Proofs.YtfimnjdfchdldaaFmt
