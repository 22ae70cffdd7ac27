/-
  The walk of the model's UTF-8 test. Conditions: sizes.
-/
import Derived.Test.YtfimnjdfchdldaaFmtInv
import Derived.Test.YtfimnjdfchdldaaFmtSml
import Derived.Test.YtfimnjdfchdldaaFmtEnc
import Derived.Laws.BitsAllLaws
import Derived.LoopN
import Derived.Outline
namespace Go.Proofs.YtfimnjdfchdldaaFmt
open Go.RowKit

namespace U8
theorem vl_one {l : List UInt8} (h : at_ l 0 < 128) : vlen l = 1 := by unfold vlen; rw [if_pos h]
theorem vl_none {l : List UInt8} (h : 128 ≤ at_ l 0 ∧ at_ l 0 < 194 ∨ 244 < at_ l 0) : vlen l = 0 := by
  unfold vlen
  rw [if_neg (by omega), if_neg (by omega), if_neg (by omega), if_neg (by omega)]
theorem vl_two {l : List UInt8} (h : 194 ≤ at_ l 0 ∧ at_ l 0 ≤ 223) : vlen l = if cont l 1 = true then 2 else 0 := by
  unfold vlen
  rw [if_neg (by omega)]
  by_cases c : cont l 1 = true
  · rw [if_pos ⟨h.1, h.2, c⟩, if_pos c]
  · rw [if_neg (fun e => c e.2.2), if_neg (by omega), if_neg (by omega), if_neg c]
theorem vl_three {l : List UInt8} (h : 224 ≤ at_ l 0 ∧ at_ l 0 ≤ 239) : vlen l = if cont l 1 = true ∧ cont l 2 = true ∧ 2048 ≤ c3 l ∧ ¬ (55296 ≤ c3 l ∧ c3 l ≤ 57343) then 3 else 0 := by
  unfold vlen
  rw [if_neg (by omega), if_neg (by omega)]
  by_cases c : cont l 1 = true ∧ cont l 2 = true ∧ 2048 ≤ c3 l ∧ ¬ (55296 ≤ c3 l ∧ c3 l ≤ 57343)
  · rw [if_pos ⟨h.1, h.2, c⟩, if_pos c]
  · rw [if_neg (fun e => c e.2.2), if_neg (by omega), if_neg c]
theorem vl_four {l : List UInt8} (h : 240 ≤ at_ l 0 ∧ at_ l 0 ≤ 244) : vlen l = if cont l 1 = true ∧ cont l 2 = true ∧ cont l 3 = true ∧ 65536 ≤ c4 l ∧ c4 l ≤ 1114111 then 4 else 0 := by
  unfold vlen
  rw [if_neg (by omega), if_neg (by omega), if_neg (by omega)]
  by_cases c : cont l 1 = true ∧ cont l 2 = true ∧ cont l 3 = true ∧ 65536 ≤ c4 l ∧ c4 l ≤ 1114111
  · rw [if_pos ⟨h.1, h.2, c⟩, if_pos c]
  · rw [if_neg (fun e => c e.2.2), if_neg c]
theorem at_drop {zs : List UInt8} {i k : Nat} {x : UInt8} (h : zs[i + k]? = some x) : at_ (zs.drop i) k = x.toNat := by
  unfold at_
  rw [List.getD_eq_getElem?_getD, List.getElem?_drop, h]
  rfl
theorem cont_drop {zs : List UInt8} {i k : Nat} {x : UInt8} (h : zs[i + k]? = some x) : cont (zs.drop i) k = decide (128 ≤ x.toNat ∧ x.toNat < 192) := by
  unfold cont
  rw [at_drop h, decide_eq_true (by rw [List.length_drop]; have := (List.getElem?_eq_some_iff.1 h).1; omega), Bool.true_and]
theorem cont_short {zs : List UInt8} {i k : Nat} (h : zs.length ≤ i + k) : cont (zs.drop i) k = false := by
  unfold cont
  rw [decide_eq_false (by rw [List.length_drop]; omega), Bool.false_and]
end U8

set_option maxRecDepth 100000 in
theorem and192_all : ∀ x : Fin 256, Go.bits .and .u8 ((x.val : Nat) : Int) 192 = ((x.val / 64 * 64 : Nat) : Int) := by decide
set_option maxRecDepth 100000 in
theorem and63b_all : ∀ x : Fin 256, Go.bits .and .u8 ((x.val : Nat) : Int) 63 = ((x.val % 64 : Nat) : Int) := by decide
set_option maxRecDepth 100000 in
theorem and31b_all : ∀ x : Fin 256, Go.bits .and .u8 ((x.val : Nat) : Int) 31 = ((x.val % 32 : Nat) : Int) := by decide
set_option maxRecDepth 100000 in
theorem and15b_all : ∀ x : Fin 256, Go.bits .and .u8 ((x.val : Nat) : Int) 15 = ((x.val % 16 : Nat) : Int) := by decide
set_option maxRecDepth 100000 in
theorem and7b_all : ∀ x : Fin 256, Go.bits .and .u8 ((x.val : Nat) : Int) 7 = ((x.val % 8 : Nat) : Int) := by decide
theorem step6 (R e : Nat) (hR : R < 1048576) (he : e < 64) : Go.bits .or .i32 ((R : Int) * 64) (e : Int) = ((R * 64 + e : Nat) : Int) := by
  exact (i32_or6 (x := (R : Int) * 64) (y := (e : Int)) (by omega) (by omega) (by omega) (by omega) (by omega)).trans (by omega)

/-- the facts on a continuation byte d, good or bad -/
theorem cb_good (d : Nat) (h : 128 ≤ d ∧ d < 192) : (Go.bits .and .u8 (d : Int) 192 != 128) = false := by
  rw [and192_all ⟨d, by omega⟩]
  simp
  omega
theorem cb_bad (d : Nat) (hd : d < 256) (h : ¬ (128 ≤ d ∧ d < 192)) : (Go.bits .and .u8 (d : Int) 192 != 128) = true := by
  rw [and192_all ⟨d, hd⟩]
  simp
  omega

set_option maxHeartbeats 8000000 in
set_option maxRecDepth 2000000 in
theorem valid_any (s : ByteArray) (w : World) (hs : s.size ≤ 1048576) :
    Calls Tryf.prog 15 #[.string s] w fun e w' => e = .returned (.bool (U8.validU s.data.toList)) ∧ w = w' := by
  obtain ⟨zs, hz⟩ : ∃ zs, zs = s.data.toList := ⟨_, rfl⟩
  have hzl : Hid (zs.length = s.size) := hide (by rw [hz, ba_len])
  rw [← hz]
  replace hz := hide hz
  go_enter Tryf.func15, Tryf.ntmps15
  go_wp2_with fail
  go_loop [3] (fun s3 => ∃ i : Nat, i ≤ s.size ∧ s3 = .int .i64 i ∧ Hid (U8.validU zs = U8.validU (zs.drop i))) (fun s3 => s.size - (intOf s3).toNat)
  case atStart => exact ⟨0, Nat.zero_le _, rfl, hide rfl⟩
  case round =>
    obtain ⟨i, hi, rfl, hv⟩ := hrel
    by_cases hin : i < s.size
    · have hne : zs.drop i ≠ [] := fun e => by
        have := congrArg List.length e
        rw [List.length_drop, hzl.out] at this
        simp at this
        omega
      have hx := ba_get s i hin
      rw [← hz.out] at hx
      have ix := idx_at s i i rfl hin
      generalize s[i]'hin = x at hx ix
      have hat := U8.at_drop (k := 0) (by rw [Nat.add_zero]; exact hx)
      have hxl := x.toNat_lt
      obtain ⟨a, ha⟩ : ∃ a, a = x.toNat := ⟨_, rfl⟩
      rw [← ha] at hat ix hxl
      clear hx ha
      rcases (by omega : a < 128 ∨ (128 ≤ a ∧ a < 194) ∨ (194 ≤ a ∧ a ≤ 223) ∨ (224 ≤ a ∧ a ≤ 239) ∨ (240 ≤ a ∧ a ≤ 244) ∨ 244 < a) with h | h | h | h | h | h
      · have hv1 : Hid (U8.validU zs = U8.validU (zs.drop (i + 1))) := hide (by
          have h1 := U8.vl_one (l := zs.drop i) (by omega)
          rw [hv.out, U8.validU_more hne (by omega), h1, List.drop_drop])
        clear hv hne hat
        go_wp2
        go_round
        case rel => exact ⟨i + 1, by omega, by go_num, hv1⟩
        case measure => simp [intOf]; omega
      · have hvf : Hid (U8.validU zs = false) := hide (hv.out.trans (U8.validU_bad hne (U8.vl_none (by omega))))
        obtain ⟨h, h'⟩ := h
        clear hv hne hat
        go_wp2
        go_ret
        exact ⟨ret_bool hvf.out.symm, rfl⟩
      · have hvl := U8.vl_two (l := zs.drop i) (by omega)
        obtain ⟨h, h'⟩ := h
        have a1 : Go.bits .and .u8 (a : Int) 31 = _ := and31b_all ⟨a, hxl⟩
        obtain ⟨r0, hr0⟩ : ∃ r, r = a % 32 := ⟨_, rfl⟩
        simp only at a1
        rw [← hr0] at a1
        have hr0l : r0 < 32 := by omega
        by_cases hsh : i + 1 < s.size
        · have hy := ba_get s (i + 1) hsh
          rw [← hz.out] at hy
          have iy := idx_at s (i + 1) ((i : Int) + 1) (by omega) hsh
          generalize s[i + 1]'hsh = y at hy iy
          have hcy := U8.cont_drop hy
          have hyl := y.toNat_lt
          obtain ⟨d, hd⟩ : ∃ d, d = y.toNat := ⟨_, rfl⟩
          rw [← hd] at hcy iy hyl
          by_cases hg : 128 ≤ d ∧ d < 192
          · rw [hcy, decide_eq_true hg, if_pos rfl] at hvl
            have hv1 : Hid (U8.validU zs = U8.validU (zs.drop (i + 2))) := hide (by
              rw [hv.out, U8.validU_more hne (by omega), hvl, List.drop_drop])
            have hb := cb_good d hg
            have b1 : Go.bits .and .u8 (d : Int) 63 = _ := and63b_all ⟨d, hyl⟩
            obtain ⟨e1, he1⟩ : ∃ r, r = d % 64 := ⟨_, rfl⟩
            simp only at b1
            rw [← he1] at b1
            have he1l : e1 < 64 := by omega
            have st := step6 r0 e1 (by omega) he1l
            obtain ⟨R, hR⟩ : ∃ R, R = r0 * 64 + e1 := ⟨_, rfl⟩
            have hRb : 128 ≤ R ∧ R ≤ 2047 := by omega
            obtain ⟨hR1, hR2⟩ := hRb
            rw [← hR] at st
            clear hv hne hat hvl hy hcy hd hg hR he1 hr0
            go_upto_region 25 with (fail)
            refine wp_loop_rounds 2 ?_
            rw [rounds_succ]
            go_wp2
            rw [rounds_succ]
            go_wp2
            go_round
            case rel => exact ⟨i + 2, by omega, by go_num, hv1⟩
            case measure => simp [intOf]; omega
          · rw [hcy, decide_eq_false hg, if_neg (by simp)] at hvl
            have hvf : Hid (U8.validU zs = false) := hide (hv.out.trans (U8.validU_bad hne hvl))
            have hb := cb_bad d hyl hg
            clear hv hne hat hvl hy hcy hd hg hr0
            go_upto_region 25 with (fail)
            refine wp_loop_rounds 2 ?_
            rw [rounds_succ]
            go_wp2
            go_ret
            exact ⟨ret_bool hvf.out.symm, rfl⟩
        · rw [U8.cont_short (by rw [hzl.out]; omega), if_neg (by simp)] at hvl
          have hvf : Hid (U8.validU zs = false) := hide (hv.out.trans (U8.validU_bad hne hvl))
          clear hv hne hat hvl hr0
          go_wp2
          go_ret
          exact ⟨ret_bool hvf.out.symm, rfl⟩
      · as_aux_lemma =>
          have hvl := U8.vl_three (l := zs.drop i) (by omega)
          have ha1 := h.1
          have ha2 := h.2
          clear h
          have a1 : Go.bits .and .u8 (a : Int) 15 = _ := and15b_all ⟨a, hxl⟩
          obtain ⟨R0, hR0⟩ : ∃ r, r = a % 16 := ⟨_, rfl⟩
          simp only at a1
          rw [← hR0] at a1
          have hR0l : R0 < 16 := by omega
          by_cases hsh : i + 2 < s.size
          · have hy1 := ba_get s (i + 1) (by omega)
            rw [← hz.out] at hy1
            have iy1 := idx_at s (i + 1) ((i : Int) + 1) (by omega) (by omega)
            generalize s[i + 1] = y1 at hy1 iy1
            have hcy1 := U8.cont_drop hy1
            have hat1 := U8.at_drop hy1
            have hyl1 := y1.toNat_lt
            obtain ⟨d1, hd1⟩ : ∃ d, d = y1.toNat := ⟨_, rfl⟩
            rw [← hd1] at hcy1 iy1 hyl1 hat1
            have hy2 := ba_get s (i + 2) (by omega)
            rw [← hz.out] at hy2
            have iy2 := idx_at s (i + 2) ((i : Int) + 2) (by omega) (by omega)
            generalize s[i + 2] = y2 at hy2 iy2
            have hcy2 := U8.cont_drop hy2
            have hat2 := U8.at_drop hy2
            have hyl2 := y2.toNat_lt
            obtain ⟨d2, hd2⟩ : ∃ d, d = y2.toNat := ⟨_, rfl⟩
            rw [← hd2] at hcy2 iy2 hyl2 hat2
            by_cases hg1 : 128 ≤ d1 ∧ d1 < 192
            · have hb1 := cb_good d1 hg1
              have b1 : Go.bits .and .u8 (d1 : Int) 63 = _ := and63b_all ⟨d1, hyl1⟩
              obtain ⟨e1, he1⟩ : ∃ r, r = d1 % 64 := ⟨_, rfl⟩
              simp only at b1
              rw [← he1] at b1
              have he1l : e1 < 64 := by omega
              have st1 := step6 R0 e1 (by omega) he1l
              obtain ⟨R1, hR1⟩ : ∃ R, R = R0 * 64 + e1 := ⟨_, rfl⟩
              rw [← hR1] at st1
              have hRl1 : R1 < 1024 := by omega
              by_cases hg2 : 128 ≤ d2 ∧ d2 < 192
              · have hb2 := cb_good d2 hg2
                have b2 : Go.bits .and .u8 (d2 : Int) 63 = _ := and63b_all ⟨d2, hyl2⟩
                obtain ⟨e2, he2⟩ : ∃ r, r = d2 % 64 := ⟨_, rfl⟩
                simp only at b2
                rw [← he2] at b2
                have he2l : e2 < 64 := by omega
                have st2 := step6 R1 e2 (by omega) he2l
                obtain ⟨R2, hR2⟩ : ∃ R, R = R1 * 64 + e2 := ⟨_, rfl⟩
                rw [← hR2] at st2
                have hRl2 : R2 < 65536 := by omega
                have hc3 : U8.c3 (zs.drop i) = R2 := by unfold U8.c3; rw [hat, hat1, hat2]; omega
                rw [hc3] at hvl
                by_cases hok : 2048 ≤ R2 ∧ ¬ (55296 ≤ R2 ∧ R2 ≤ 57343)
                · rw [if_pos ⟨by rw [hcy1]; exact decide_eq_true hg1, by rw [hcy2]; exact decide_eq_true hg2, hok⟩] at hvl
                  have hv1 : Hid (U8.validU zs = U8.validU (zs.drop (i + 3))) := hide (by
                    rw [hv.out, U8.validU_more hne (by omega), hvl, List.drop_drop])
                  clear hv hne hat hvl hy1 hcy1 hat1 hd1 hy2 hcy2 hat2 hd2 hR0 hc3 hR1 he1 hg1 hR2 he2 hg2
                  rcases (by omega : (2048 ≤ R2 ∧ R2 < 55296) ∨ (57343 < R2 ∧ R2 < 65536)) with ⟨ho1, ho2⟩ | ⟨ho1, ho2⟩
                  all_goals
                    clear hok
                    go_upto_region 25 with (fail)
                    refine wp_loop_rounds 3 ?_
                    rw [rounds_succ]
                    go_wp2
                    rw [rounds_succ]
                    go_wp2
                    rw [rounds_succ]
                    go_wp2
                    go_round
                    case rel => exact ⟨i + 3, by omega, by go_num, hv1⟩
                    case measure => simp [intOf]; omega
                · rw [if_neg (fun e => hok e.2.2)] at hvl
                  have hvf : Hid (U8.validU zs = false) := hide (hv.out.trans (U8.validU_bad hne hvl))
                  clear hv hne hat hvl hy1 hcy1 hat1 hd1 hy2 hcy2 hat2 hd2 hR0 hc3 hR1 he1 hg1 hR2 he2 hg2
                  rcases (by omega : R2 < 2048 ∨ (55296 ≤ R2 ∧ R2 ≤ 57343)) with ho1 | ⟨ho1, ho2⟩
                  all_goals
                    clear hok
                    go_upto_region 25 with (fail)
                    refine wp_loop_rounds 3 ?_
                    rw [rounds_succ]
                    go_wp2
                    rw [rounds_succ]
                    go_wp2
                    rw [rounds_succ]
                    go_wp2
                    go_ret
                    exact ⟨ret_bool hvf.out.symm, rfl⟩
              · rw [if_neg (fun e => by rw [hcy2, decide_eq_false hg2] at e; simp at e)] at hvl
                have hvf : Hid (U8.validU zs = false) := hide (hv.out.trans (U8.validU_bad hne hvl))
                have hb2 := cb_bad d2 hyl2 hg2
                clear hv hne hat hvl hy1 hcy1 hat1 hd1 hy2 hcy2 hat2 hd2 hg2 hR0 hR1 he1
                go_upto_region 25 with (fail)
                refine wp_loop_rounds 3 ?_
                rw [rounds_succ]
                go_wp2
                rw [rounds_succ]
                go_wp2
                go_ret
                exact ⟨ret_bool hvf.out.symm, rfl⟩
            · rw [if_neg (fun e => by rw [hcy1, decide_eq_false hg1] at e; simp at e)] at hvl
              have hvf : Hid (U8.validU zs = false) := hide (hv.out.trans (U8.validU_bad hne hvl))
              have hb1 := cb_bad d1 hyl1 hg1
              clear hv hne hat hvl hy1 hcy1 hat1 hd1 hy2 hcy2 hat2 hd2 hg1 hR0 
              go_upto_region 25 with (fail)
              refine wp_loop_rounds 3 ?_
              rw [rounds_succ]
              go_wp2
              go_ret
              exact ⟨ret_bool hvf.out.symm, rfl⟩
          · rw [if_neg (fun e => by rw [U8.cont_short (k := 2) (by rw [hzl.out]; omega)] at e; simp at e)] at hvl
            have hvf : Hid (U8.validU zs = false) := hide (hv.out.trans (U8.validU_bad hne hvl))
            clear hv hne hat hvl hR0
            go_wp2
            go_ret
            exact ⟨ret_bool hvf.out.symm, rfl⟩
      · as_aux_lemma =>
          have hvl := U8.vl_four (l := zs.drop i) (by omega)
          have ha1 := h.1
          have ha2 := h.2
          clear h
          have a1 : Go.bits .and .u8 (a : Int) 7 = _ := and7b_all ⟨a, hxl⟩
          obtain ⟨R0, hR0⟩ : ∃ r, r = a % 8 := ⟨_, rfl⟩
          simp only at a1
          rw [← hR0] at a1
          have hR0l : R0 < 8 := by omega
          by_cases hsh : i + 3 < s.size
          · have hy1 := ba_get s (i + 1) (by omega)
            rw [← hz.out] at hy1
            have iy1 := idx_at s (i + 1) ((i : Int) + 1) (by omega) (by omega)
            generalize s[i + 1] = y1 at hy1 iy1
            have hcy1 := U8.cont_drop hy1
            have hat1 := U8.at_drop hy1
            have hyl1 := y1.toNat_lt
            obtain ⟨d1, hd1⟩ : ∃ d, d = y1.toNat := ⟨_, rfl⟩
            rw [← hd1] at hcy1 iy1 hyl1 hat1
            have hy2 := ba_get s (i + 2) (by omega)
            rw [← hz.out] at hy2
            have iy2 := idx_at s (i + 2) ((i : Int) + 2) (by omega) (by omega)
            generalize s[i + 2] = y2 at hy2 iy2
            have hcy2 := U8.cont_drop hy2
            have hat2 := U8.at_drop hy2
            have hyl2 := y2.toNat_lt
            obtain ⟨d2, hd2⟩ : ∃ d, d = y2.toNat := ⟨_, rfl⟩
            rw [← hd2] at hcy2 iy2 hyl2 hat2
            have hy3 := ba_get s (i + 3) (by omega)
            rw [← hz.out] at hy3
            have iy3 := idx_at s (i + 3) ((i : Int) + 3) (by omega) (by omega)
            generalize s[i + 3] = y3 at hy3 iy3
            have hcy3 := U8.cont_drop hy3
            have hat3 := U8.at_drop hy3
            have hyl3 := y3.toNat_lt
            obtain ⟨d3, hd3⟩ : ∃ d, d = y3.toNat := ⟨_, rfl⟩
            rw [← hd3] at hcy3 iy3 hyl3 hat3
            by_cases hg1 : 128 ≤ d1 ∧ d1 < 192
            · have hb1 := cb_good d1 hg1
              have b1 : Go.bits .and .u8 (d1 : Int) 63 = _ := and63b_all ⟨d1, hyl1⟩
              obtain ⟨e1, he1⟩ : ∃ r, r = d1 % 64 := ⟨_, rfl⟩
              simp only at b1
              rw [← he1] at b1
              have he1l : e1 < 64 := by omega
              have st1 := step6 R0 e1 (by omega) he1l
              obtain ⟨R1, hR1⟩ : ∃ R, R = R0 * 64 + e1 := ⟨_, rfl⟩
              rw [← hR1] at st1
              have hRl1 : R1 < 1024 := by omega
              by_cases hg2 : 128 ≤ d2 ∧ d2 < 192
              · have hb2 := cb_good d2 hg2
                have b2 : Go.bits .and .u8 (d2 : Int) 63 = _ := and63b_all ⟨d2, hyl2⟩
                obtain ⟨e2, he2⟩ : ∃ r, r = d2 % 64 := ⟨_, rfl⟩
                simp only at b2
                rw [← he2] at b2
                have he2l : e2 < 64 := by omega
                have st2 := step6 R1 e2 (by omega) he2l
                obtain ⟨R2, hR2⟩ : ∃ R, R = R1 * 64 + e2 := ⟨_, rfl⟩
                rw [← hR2] at st2
                have hRl2 : R2 < 65536 := by omega
                by_cases hg3 : 128 ≤ d3 ∧ d3 < 192
                · have hb3 := cb_good d3 hg3
                  have b3 : Go.bits .and .u8 (d3 : Int) 63 = _ := and63b_all ⟨d3, hyl3⟩
                  obtain ⟨e3, he3⟩ : ∃ r, r = d3 % 64 := ⟨_, rfl⟩
                  simp only at b3
                  rw [← he3] at b3
                  have he3l : e3 < 64 := by omega
                  have st3 := step6 R2 e3 (by omega) he3l
                  obtain ⟨R3, hR3⟩ : ∃ R, R = R2 * 64 + e3 := ⟨_, rfl⟩
                  rw [← hR3] at st3
                  have hRl3 : R3 < 4194304 := by omega
                  have hc3 : U8.c4 (zs.drop i) = R3 := by unfold U8.c4; rw [hat, hat1, hat2, hat3]; omega
                  rw [hc3] at hvl
                  by_cases hok : 65536 ≤ R3 ∧ R3 ≤ 1114111
                  · rw [if_pos ⟨by rw [hcy1]; exact decide_eq_true hg1, by rw [hcy2]; exact decide_eq_true hg2, by rw [hcy3]; exact decide_eq_true hg3, hok⟩] at hvl
                    have hv1 : Hid (U8.validU zs = U8.validU (zs.drop (i + 4))) := hide (by
                      rw [hv.out, U8.validU_more hne (by omega), hvl, List.drop_drop])
                    clear hv hne hat hvl hy1 hcy1 hat1 hd1 hy2 hcy2 hat2 hd2 hy3 hcy3 hat3 hd3 hR0 hc3 hR1 he1 hg1 hR2 he2 hg2 hR3 he3 hg3
                    obtain ⟨ho1, ho2⟩ := hok
                    go_upto_region 25 with (fail)
                    refine wp_loop_rounds 4 ?_
                    rw [rounds_succ]
                    go_wp2
                    rw [rounds_succ]
                    go_wp2
                    rw [rounds_succ]
                    go_wp2
                    rw [rounds_succ]
                    go_wp2
                    go_round
                    case rel => exact ⟨i + 4, by omega, by go_num, hv1⟩
                    case measure => simp [intOf]; omega
                  · rw [if_neg (fun e => hok e.2.2.2)] at hvl
                    have hvf : Hid (U8.validU zs = false) := hide (hv.out.trans (U8.validU_bad hne hvl))
                    clear hv hne hat hvl hy1 hcy1 hat1 hd1 hy2 hcy2 hat2 hd2 hy3 hcy3 hat3 hd3 hR0 hc3 hR1 he1 hg1 hR2 he2 hg2 hR3 he3 hg3
                    rcases (by omega : R3 < 65536 ∨ 1114111 < R3) with ho1 | ho1
                    all_goals
                      clear hok
                      go_upto_region 25 with (fail)
                      refine wp_loop_rounds 4 ?_
                      rw [rounds_succ]
                      go_wp2
                      rw [rounds_succ]
                      go_wp2
                      rw [rounds_succ]
                      go_wp2
                      rw [rounds_succ]
                      go_wp2
                      go_ret
                      exact ⟨ret_bool hvf.out.symm, rfl⟩
                · rw [if_neg (fun e => by rw [hcy3, decide_eq_false hg3] at e; simp at e)] at hvl
                  have hvf : Hid (U8.validU zs = false) := hide (hv.out.trans (U8.validU_bad hne hvl))
                  have hb3 := cb_bad d3 hyl3 hg3
                  clear hv hne hat hvl hy1 hcy1 hat1 hd1 hy2 hcy2 hat2 hd2 hy3 hcy3 hat3 hd3 hg3 hR0 hR1 he1 hR2 he2
                  go_upto_region 25 with (fail)
                  refine wp_loop_rounds 4 ?_
                  rw [rounds_succ]
                  go_wp2
                  rw [rounds_succ]
                  go_wp2
                  rw [rounds_succ]
                  go_wp2
                  go_ret
                  exact ⟨ret_bool hvf.out.symm, rfl⟩
              · rw [if_neg (fun e => by rw [hcy2, decide_eq_false hg2] at e; simp at e)] at hvl
                have hvf : Hid (U8.validU zs = false) := hide (hv.out.trans (U8.validU_bad hne hvl))
                have hb2 := cb_bad d2 hyl2 hg2
                clear hv hne hat hvl hy1 hcy1 hat1 hd1 hy2 hcy2 hat2 hd2 hy3 hcy3 hat3 hd3 hg2 hR0 hR1 he1
                go_upto_region 25 with (fail)
                refine wp_loop_rounds 4 ?_
                rw [rounds_succ]
                go_wp2
                rw [rounds_succ]
                go_wp2
                go_ret
                exact ⟨ret_bool hvf.out.symm, rfl⟩
            · rw [if_neg (fun e => by rw [hcy1, decide_eq_false hg1] at e; simp at e)] at hvl
              have hvf : Hid (U8.validU zs = false) := hide (hv.out.trans (U8.validU_bad hne hvl))
              have hb1 := cb_bad d1 hyl1 hg1
              clear hv hne hat hvl hy1 hcy1 hat1 hd1 hy2 hcy2 hat2 hd2 hy3 hcy3 hat3 hd3 hg1 hR0 
              go_upto_region 25 with (fail)
              refine wp_loop_rounds 4 ?_
              rw [rounds_succ]
              go_wp2
              go_ret
              exact ⟨ret_bool hvf.out.symm, rfl⟩
          · rw [if_neg (fun e => by rw [U8.cont_short (k := 3) (by rw [hzl.out]; omega)] at e; simp at e)] at hvl
            have hvf : Hid (U8.validU zs = false) := hide (hv.out.trans (U8.validU_bad hne hvl))
            clear hv hne hat hvl hR0
            go_wp2
            go_ret
            exact ⟨ret_bool hvf.out.symm, rfl⟩
      · have hvf : Hid (U8.validU zs = false) := hide (hv.out.trans (U8.validU_bad hne (U8.vl_none (by omega))))
        clear hv hne hat
        go_wp2
        go_ret
        exact ⟨ret_bool hvf.out.symm, rfl⟩
    · have hvt : Hid (U8.validU zs = true) := hide (by
        rw [hv.out, List.drop_eq_nil_of_le (by rw [hzl.out]; omega)]
        exact U8.validU_nil)
      clear hv
      go_wp2
      go_ret
      exact ⟨ret_bool hvt.out.symm, rfl⟩
end Go.Proofs.YtfimnjdfchdldaaFmt
