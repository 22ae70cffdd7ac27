/-
  The walks of zzHasAt, zzFirst, zzKeyAt. Conditions: sizes.
-/
import Derived.Test.YtpfnonkcjlfibaaLBrk
namespace Go.Proofs.Ytpfnonkcjlfibaa
open Go.RowKit

/-- the first j bytes of the needle stand at i -/
def SoFar (h n : List UInt8) (i j : Nat) : Prop := ∀ l x, l < j → n[l]? = some x → h[i + l]? = some x
theorem SoFar.succ {h n : List UInt8} {i j : Nat} {x : UInt8} (hs : SoFar h n i j) (hy : n[j]? = some x) (hx : h[i + j]? = some x) : SoFar h n i (j + 1) := fun l y hl hn => by
  by_cases e : l = j
  · subst e
    rw [hy] at hn
    obtain rfl := Option.some.inj hn
    exact hx
  · exact hs l y (by omega) hn
theorem SoFar.all {h n : List UInt8} {i : Nat} (hs : SoFar h n i n.length) (hi : i + n.length ≤ h.length) : JM.occ h n i = true :=
  (JM.occ_iff hi).2 fun j x hx => hs j x (List.getElem?_eq_some_iff.1 hx).1 hx

def hasAt (zs bs : List UInt8) (i : Nat) : Bool := decide (i + bs.length ≤ zs.length) && JM.occ zs bs i

set_option maxHeartbeats 800000 in
theorem hasAt_any (A D : Option Addr) (n c m d i : Nat) (zs bs : List UInt8) (w : World) (hr : Rd w w.heap.size A n zs) (hb : Rd w w.heap.size D m bs) (hn : n ≤ 4294967295) (hm : m ≤ 4294967295) (hi : i ≤ 4294967295) :
    Calls Try.prog 33 #[.slice A n c, .int .i64 i, .slice D m d] w fun e w' => e = .returned (.bool (hasAt zs bs i)) ∧ ∃ k, w' = w.drewN k := by
  go_enter Try.func33, Try.ntmps33
  by_cases hlt : i + m ≤ n
  · go_wp2
    go_loopw [7] (fun j wr => ∃ k q : Nat, k ≤ m ∧ j = .int .i64 k ∧ SoFar zs bs i k ∧ wr = w.drewN q) (fun j _ => m - (intOf j).toNat)
    case atStart => exact ⟨0, 0, by omega, rfl, fun _ _ hj => absurd hj (by omega), rfl⟩
    case round =>
      obtain ⟨j, q, hj, rfl, hso, rfl⟩ := hrel
      by_cases hjm : j < m
      · obtain ⟨b1, o1, x, rfl, hb1, hx, hcx⟩ := hr.at (show i + j < n by omega)
        obtain ⟨b2, o2, y, rfl, hb2, hy, hcy⟩ := hb.at hjm
        have hsum : IntKind.i64.wrap ((i : Int) + (j : Int)) = (i : Int) + (j : Int) := IntWalk.i64_in _ (by omega)
        have hs0 : 0 ≤ (i : Int) + (j : Int) := by omega
        have hs1 : (i : Int) + (j : Int) < (n : Int) := by omega
        have hs2 : ((i : Int) + (j : Int)).toNat = i + j := by omega
        have hs3 : (j : Int) < (m : Int) := by omega
        by_cases hxy : x = y
        · have hne : ((x.toNat : Int) != (y.toNat : Int)) = false := by rw [hxy]; simp
          have hxy := hide hxy
          have HX := hide hx
          have HY := hide hy
          clear hx hy
          go_wp2
          go_quiet (fail)
          go_wp2
          go_roundw
          case rel => exact ⟨j + 1, _, by omega, by go_num, hso.succ HY.out (by rw [← hxy.out]; exact HX.out), rfl⟩
          case measure => simp [intOf]; omega
        · have hne : ((x.toNat : Int) != (y.toNat : Int)) = true := by
            simp only [bne_iff_ne, ne_eq]
            exact fun h => hxy (UInt8.toNat.inj (by omega))
          have HF : Hid (hasAt zs bs i = false) := hide (by
            unfold hasAt
            rw [JM.occ_no (by rw [hr.len, hb.len]; exact hlt) hx hy hxy, Bool.and_false])
          clear hx hy
          go_wp2
          go_quiet (fail)
          go_wp2
          go_ret
          exact ⟨by rw [HF.out]; rfl, _, World.drewN_drewN _ _ _⟩
      · obtain rfl : j = m := by omega
        have hlb := hb.len
        have HF : Hid (hasAt zs bs i = true) := hide (by
          rw [← hlb] at hso
          unfold hasAt
          rw [hso.all (by rw [hr.len, hlb]; exact hlt), Bool.and_true, decide_eq_true_eq, hr.len, hlb]
          exact hlt)
        clear hlb hso
        go_wp2
        go_ret
        exact ⟨by rw [HF.out]; rfl, _, rfl⟩
  · have HF : Hid (hasAt zs bs i = false) := hide (by
      unfold hasAt
      have : ¬ i + bs.length ≤ zs.length := by rw [hr.len, hb.len]; exact hlt
      simp [this])
    go_wp2
    go_ret
    exact ⟨by rw [HF.out]; rfl, 0, rfl⟩

set_option maxHeartbeats 800000 in
theorem first_any (A D : Option Addr) (n c m d : Nat) (zs bs : List UInt8) (w : World) (hr : Rd w w.heap.size A n zs) (hb : Rd w w.heap.size D m bs) (hn : n ≤ 4294967294) (hm : m ≤ 4294967295) :
    Calls Try.prog 20 #[.slice A n c, .slice D m d] w (FoundIs bs zs w) := by
  go_enter Try.func20, Try.ntmps20
  go_wp2
  go_loopw [5] (fun i wr => ∃ k q : Nat, k ≤ n + 1 ∧ i = .int .i64 k ∧ NoneTo zs bs k ∧ wr = w.drewN q) (fun i _ => n + 1 - (intOf i).toNat)
  case atStart => exact ⟨0, 0, by omega, rfl, NoneTo.zero _ _, rfl⟩
  case round =>
    obtain ⟨k, q, hk, rfl, hno, rfl⟩ := hrel
    by_cases hlt : k + m ≤ n
    · have hat : hasAt zs bs k = JM.occ zs bs k := by
        unfold hasAt
        have : k + bs.length ≤ zs.length := by rw [hr.len, hb.len]; exact hlt
        simp [this]
      cases ho : JM.occ zs bs k with
      | true =>
        have HO := hide ho
        have HA := hide (hat.trans ho)
        have HL : Hid (k + bs.length ≤ zs.length) := hide (by rw [hr.len, hb.len]; exact hlt)
        clear ho hat
        go_wp2_with (go_at_call 33; refine (hasAt_any A D n c m d k zs bs (w.drewN q) hr hb (by omega) (by omega) (by omega)).mono ?_; rintro e w' ⟨rfl, q2, rfl⟩; rw [HA.out])
        go_ret
        exact ⟨k, _, rfl, .inl ⟨k, rfl, HL.out, HO.out, hno⟩, rfl⟩
      | false =>
        have HO := hide ho
        have HA := hide (hat.trans ho)
        clear ho hat
        go_wp2_with (go_at_call 33; refine (hasAt_any A D n c m d k zs bs (w.drewN q) hr hb (by omega) (by omega) (by omega)).mono ?_; rintro e w' ⟨rfl, q2, rfl⟩; rw [HA.out])
        go_roundw
        case rel => exact ⟨k + 1, _, by omega, by go_num, hno.succ HO.out, rfl⟩
        case measure => simp [intOf]; omega
    · go_wp2
      go_ret
      refine ⟨-1, q, rfl, .inr ⟨rfl, hno.none (by rw [hr.len, hb.len]; omega)⟩, rfl⟩

theorem keyB_letterless {nf nc : Nat} {t : List UInt8} (h : LM.letter t[0]? = 0) : LM.keyB nf nc t = false := by
  unfold LM.keyB
  simp [h]
theorem letter_of {x : UInt8} : LM.letter (some x) = if x.toNat = 65 then 1 else if x.toNat = 67 then 2 else 0 := by
  unfold LM.letter
  have e1 : (some x = some 65) ↔ x.toNat = 65 := ⟨fun h => by rw [Option.some.inj h]; rfl, fun h => by rw [UInt8.toNat_inj.1 (show x.toNat = (65 : UInt8).toNat from h)]⟩
  have e2 : (some x = some 67) ↔ x.toNat = 67 := ⟨fun h => by rw [Option.some.inj h]; rfl, fun h => by rw [UInt8.toNat_inj.1 (show x.toNat = (67 : UInt8).toNat from h)]⟩
  simp only [e1, e2]

set_option maxRecDepth 100000 in
set_option maxHeartbeats 1600000 in
theorem keyAt_any (A : Option Addr) (n c st nf nc : Nat) (zs : List UInt8) (w : World) (hr : Rd w w.heap.size A n zs) (hn : n ≤ 16777216) (hst : st ≤ 4294967295) (hnf : nf ≤ 65536) (hnc : nc ≤ 65536) :
    Calls Try.prog 30 #[.slice A n c, .int .i64 st, .int .i64 nf, .int .i64 nc] w fun e w' => e = .returned (.bool (LM.keyB nf nc (zs.drop st))) ∧ w = w' := by
  go_enter Try.func30, Try.ntmps30
  by_cases h9 : st + 9 ≤ n
  · obtain ⟨ba, off, x, rfl, hbl, hx, hcx⟩ := hr.at (show st < n by omega)
    have hx0 : (zs.drop st)[0]? = some x := by rw [List.getElem?_drop]; exact hx
    have h9l : 9 ≤ (zs.drop st).length := by rw [List.length_drop, hr.len]; omega
    have hle := letter_of (x := x)
    by_cases e1 : x.toNat = 65
    · have b1 : ((x.toNat : Int) == 65) = true := by simp; omega
      rw [if_pos e1] at hle
      have e3 := hide (by rw [hx0]; exact hle : LM.letter (zs.drop st)[0]? = 1)
      clear e1 hle hx hx0
      go_wp2
      go_loop [10, 11] (fun s10 s11 => ∃ k : Nat, k ≤ 8 ∧ s10 = .int .u64 (LM.num ((LM.eight (zs.drop st)).take k) : Nat) ∧ s11 = .int .i64 (k + 1 : Nat) ∧ Hid (LM.dig ((LM.eight (zs.drop st)).take k) = true)) (fun _ i => 9 - (intOf i).toNat)
      case atStart => exact ⟨0, by omega, rfl, rfl, hide rfl⟩
      case round =>
        obtain ⟨k, hk8, rfl, rfl, hdg⟩ := hrel
        by_cases hlt : k < 8
        · obtain ⟨b0, o0, y, he0, _, hy, hcy⟩ := hr.at (show st + (k + 1) < n by omega)
          cases he0
          have hy8 : (LM.eight (zs.drop st))[k]? = some y := by rw [eight_at hlt, List.getElem?_drop]; exact hy
          have hvl := LM.num_lt k _ (by rw [List.length_take, eight_length h9l]; omega) hdg.out
          have hvl8 : LM.num ((LM.eight (zs.drop st)).take k) < 10000000 := Nat.lt_of_lt_of_le hvl (Nat.pow_le_pow_right (by decide) (show k ≤ 7 by omega))
          obtain ⟨hn1, hd1⟩ := take_next hy8
          have HN := hide hn1
          have HD := hide hd1
          have HY := hide hy8
          have ek : ((st : Int) + ((k : Int) + 1)).toNat = st + (k + 1) := by omega
          clear hn1 hd1 hy8 hy hvl
          by_cases hdig : 48 ≤ y.toNat ∧ y.toNat ≤ 57
          · obtain ⟨hd48, hd57⟩ := hdig
            generalize LM.num ((LM.eight (zs.drop st)).take k) = v at *
            go_wp2
            first
              | (refine ⟨⟨_, _, ⟨k + 1, by omega, ?_, rfl, hide ?_⟩, ?_⟩, ?measure⟩)
              | (go_round; case' rel => refine ⟨_, _, ⟨k + 1, by omega, ?_, rfl, hide ?_⟩, rfl, rfl⟩)
              | (go_round; case' rel => refine ⟨k + 1, by omega, ?_, by go_num, hide ?_⟩)
            all_goals first
              | (rw [HN.out]; go_num)
              | (rw [HD.out, hdg.out, LM.isDig_iff.2 ⟨hd48, hd57⟩]; rfl)
              | (simp [intOf]; omega)
          · have hnd : LM.isDig y = false := by
              cases hq : LM.isDig y with
              | false => rfl
              | true => exact absurd (LM.isDig_iff.1 hq) hdig
            have HX := hide (keyB_nodig (nf := nf) (nc := nc) (dig_take_false HY.out hnd))
            by_cases hd48 : y.toNat < 48
            · go_wp2
              go_ret
              exact ⟨by rw [HX.out]; rfl, rfl⟩
            · have hd57 : 57 < y.toNat := by omega
              go_wp2
              go_ret
              exact ⟨by rw [HX.out]; rfl, rfl⟩
        · obtain rfl : k = 8 := by omega
          have h8l : (LM.eight (zs.drop st)).take 8 = LM.eight (zs.drop st) := List.take_of_length_le (by rw [eight_length h9l]; omega)
          rw [h8l] at hdg ⊢
          have hv := LM.num_lt 8 _ (eight_length h9l) hdg.out
          have hkb := keyB_is (nf := nf) (nc := nc) h9l hdg.out e3.out.symm rfl
          have HK := hide hkb
          clear hkb
          generalize LM.num (LM.eight (zs.drop st)) = v at *
          by_cases hvn : v < nf
          · have HB : Hid ((decide (1 = 1 ∧ v < nf) || decide (1 = 2 ∧ v < nc)) = true) := hide (by simp [hvn])
            go_wp2
            go_ret
            exact ⟨by rw [HK.out, HB.out]; first | rfl | (simp; omega), rfl⟩
          · have HB : Hid ((decide (1 = 1 ∧ v < nf) || decide (1 = 2 ∧ v < nc)) = false) := hide (by simp; omega)
            go_wp2
            go_ret
            exact ⟨by rw [HK.out, HB.out]; first | rfl | (simp; omega), rfl⟩
    · by_cases e2 : x.toNat = 67
      · have b1 : ((x.toNat : Int) == 65) = false := by simp; omega
        have b2 : ((x.toNat : Int) == 67) = true := by simp; omega
        rw [if_neg e1, if_pos e2] at hle
        have e3 := hide (by rw [hx0]; exact hle : LM.letter (zs.drop st)[0]? = 2)
        clear e1 e2 hle hx hx0
        go_wp2
        go_loop [10, 11] (fun s10 s11 => ∃ k : Nat, k ≤ 8 ∧ s10 = .int .u64 (LM.num ((LM.eight (zs.drop st)).take k) : Nat) ∧ s11 = .int .i64 (k + 1 : Nat) ∧ Hid (LM.dig ((LM.eight (zs.drop st)).take k) = true)) (fun _ i => 9 - (intOf i).toNat)
        case atStart => exact ⟨0, by omega, rfl, rfl, hide rfl⟩
        case round =>
          obtain ⟨k, hk8, rfl, rfl, hdg⟩ := hrel
          by_cases hlt : k < 8
          · obtain ⟨b0, o0, y, he0, _, hy, hcy⟩ := hr.at (show st + (k + 1) < n by omega)
            cases he0
            have hy8 : (LM.eight (zs.drop st))[k]? = some y := by rw [eight_at hlt, List.getElem?_drop]; exact hy
            have hvl := LM.num_lt k _ (by rw [List.length_take, eight_length h9l]; omega) hdg.out
            have hvl8 : LM.num ((LM.eight (zs.drop st)).take k) < 10000000 := Nat.lt_of_lt_of_le hvl (Nat.pow_le_pow_right (by decide) (show k ≤ 7 by omega))
            obtain ⟨hn1, hd1⟩ := take_next hy8
            have HN := hide hn1
            have HD := hide hd1
            have HY := hide hy8
            have ek : ((st : Int) + ((k : Int) + 1)).toNat = st + (k + 1) := by omega
            clear hn1 hd1 hy8 hy hvl
            by_cases hdig : 48 ≤ y.toNat ∧ y.toNat ≤ 57
            · obtain ⟨hd48, hd57⟩ := hdig
              generalize LM.num ((LM.eight (zs.drop st)).take k) = v at *
              go_wp2
              first
                | (refine ⟨⟨_, _, ⟨k + 1, by omega, ?_, rfl, hide ?_⟩, ?_⟩, ?measure⟩)
                | (go_round; case' rel => refine ⟨_, _, ⟨k + 1, by omega, ?_, rfl, hide ?_⟩, rfl, rfl⟩)
                | (go_round; case' rel => refine ⟨k + 1, by omega, ?_, by go_num, hide ?_⟩)
              all_goals first
                | (rw [HN.out]; go_num)
                | (rw [HD.out, hdg.out, LM.isDig_iff.2 ⟨hd48, hd57⟩]; rfl)
                | (simp [intOf]; omega)
            · have hnd : LM.isDig y = false := by
                cases hq : LM.isDig y with
                | false => rfl
                | true => exact absurd (LM.isDig_iff.1 hq) hdig
              have HX := hide (keyB_nodig (nf := nf) (nc := nc) (dig_take_false HY.out hnd))
              by_cases hd48 : y.toNat < 48
              · go_wp2
                go_ret
                exact ⟨by rw [HX.out]; rfl, rfl⟩
              · have hd57 : 57 < y.toNat := by omega
                go_wp2
                go_ret
                exact ⟨by rw [HX.out]; rfl, rfl⟩
          · obtain rfl : k = 8 := by omega
            have h8l : (LM.eight (zs.drop st)).take 8 = LM.eight (zs.drop st) := List.take_of_length_le (by rw [eight_length h9l]; omega)
            rw [h8l] at hdg ⊢
            have hv := LM.num_lt 8 _ (eight_length h9l) hdg.out
            have hkb := keyB_is (nf := nf) (nc := nc) h9l hdg.out e3.out.symm rfl
            have HK := hide hkb
            clear hkb
            generalize LM.num (LM.eight (zs.drop st)) = v at *
            by_cases hvn : v < nc
            · have HB : Hid ((decide (2 = 1 ∧ v < nf) || decide (2 = 2 ∧ v < nc)) = true) := hide (by simp [hvn])
              go_wp2
              go_ret
              exact ⟨by rw [HK.out, HB.out]; first | rfl | (simp; omega), rfl⟩
            · have HB : Hid ((decide (2 = 1 ∧ v < nf) || decide (2 = 2 ∧ v < nc)) = false) := hide (by simp; omega)
              go_wp2
              go_ret
              exact ⟨by rw [HK.out, HB.out]; first | rfl | (simp; omega), rfl⟩
      · have b1 : ((x.toNat : Int) == 65) = false := by simp; omega
        have b2 : ((x.toNat : Int) == 67) = false := by simp; omega
        rw [if_neg e1, if_neg e2] at hle
        have HF := hide (keyB_letterless (nf := nf) (nc := nc) (by rw [hx0]; exact hle : LM.letter (zs.drop st)[0]? = 0))
        clear e1 e2 hle hx hx0
        go_wp2
        go_ret
        exact ⟨by rw [HF.out]; rfl, rfl⟩
  · have HF := hide (keyB_short (nf := nf) (nc := nc) (t := zs.drop st) (by rw [List.length_drop, hr.len]; omega))
    go_wp2
    go_ret
    exact ⟨by rw [HF.out]; rfl, rfl⟩
end Go.Proofs.Ytpfnonkcjlfibaa
