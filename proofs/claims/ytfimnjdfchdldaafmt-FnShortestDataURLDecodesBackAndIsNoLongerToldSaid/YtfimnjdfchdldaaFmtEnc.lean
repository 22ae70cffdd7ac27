/-
  The walk of zzBase64. Conditions: sizes.
-/
import Derived.Test.YtfimnjdfchdldaaFmtHelp
import Derived.Test.YtfimnjdfchdldaaFmtBlk
import Derived.BigQuiet
import Derived.Deep.QuietTactic
namespace Go.Proofs.YtfimnjdfchdldaaFmt
open Go.RowKit

abbrev alphaB : ByteArray := ⟨#[65, 66, 67, 68, 69, 70, 71, 72, 73, 74, 75, 76, 77, 78, 79, 80, 81, 82, 83, 84, 85, 86, 87, 88, 89, 90, 97, 98, 99, 100, 101, 102, 103, 104, 105, 106, 107, 108, 109, 110, 111, 112, 113, 114, 115, 116, 117, 118, 119, 120, 121, 122, 48, 49, 50, 51, 52, 53, 54, 55, 56, 57, 43, 47]⟩
theorem alpha_all : ∀ i : Fin 64, alphaB[i.val]'(by have := i.isLt; exact this) = BM.al i.val := by decide
theorem alpha_at (x : Nat) (h : x < 64) (h' : x < alphaB.size) : alphaB[x]'h' = BM.al x := alpha_all ⟨x, h⟩

theorem or_add (a b p k : Nat) (hp : p = 2 ^ k) (hb : b < p) (ha : a * p < 18446744073709551616) (hb2 : b < 18446744073709551616) : Go.bits .or .u64 ((a * p : Nat) : Int) (b : Int) = ((a * p + b : Nat) : Int) := by
  rw [Go.bits_or_u64_nat _ _ (by omega) (by omega)]
  subst hp
  have := Nat.shiftLeft_add_eq_or_of_lt hb a
  rw [Nat.shiftLeft_eq] at this
  rw [← this]
theorem and63 (a : Nat) (ha : a < 18446744073709551616) : Go.bits .and .u64 (a : Int) 63 = ((a % 64 : Nat) : Int) := by
  have e : (63 : Int) = ((63 : Nat) : Int) := rfl
  rw [e, Go.bits_and_u64_nat a 63 (by omega) (by omega)]
  have := Nat.and_two_pow_sub_one_eq_mod a 6
  simp only [Nat.reducePow, Nat.reduceSub] at this
  rw [this]

theorem idx_at (s : ByteArray) (k : Nat) (i : Int) (hi : i = k) (h : k < s.size) (w : World) : (Instr.index 9 (.string s) (.int .i64 i)).run Tryf.prog w = .ok (.int .u8 ((s[k]'h).toNat : Int)) w := by
  subst hi
  have hk : (0 : Int) ≤ (k : Int) ∧ (k : Int) < s.size := ⟨by omega, by omega⟩
  rw [run_index_string (P := Tryf.prog) (w := w) 9 s .i64 k Tryf.underlying9, dif_pos hk]
  rfl

set_option maxRecDepth 100000 in
theorem v2_or (a b : UInt8) : Go.bits .or .u64 ((a.toNat : Int) * 65536) ((b.toNat : Int) * 256) = (BM.v3 a b 0 : Int) := by
  have ha := a.toNat_lt
  have hb := b.toNat_lt
  have h1 := or_add a.toNat (b.toNat * 256) 65536 16 rfl (by omega) (by omega) (by omega)
  have e1 : ((a.toNat * 65536 : Nat) : Int) = (a.toNat : Int) * 65536 := by omega
  have e2 : ((b.toNat * 256 : Nat) : Int) = (b.toNat : Int) * 256 := by omega
  rw [e1, e2] at h1
  rw [h1]
  unfold BM.v3
  simp

set_option maxRecDepth 100000 in
/-- the three bytes of a quantum as one number, as the walk puts them together -/
theorem v3_or (a b c : UInt8) : Go.bits .or .u64 (Go.bits .or .u64 ((a.toNat : Int) * 65536) ((b.toNat : Int) * 256)) (c.toNat : Int) = (BM.v3 a b c : Int) := by
  have ha := a.toNat_lt
  have hb := b.toNat_lt
  have hc := c.toNat_lt
  have h1 := or_add a.toNat (b.toNat * 256) 65536 16 rfl (by omega) (by omega) (by omega)
  have h2 := or_add (a.toNat * 256 + b.toNat) c.toNat 256 8 rfl (by omega) (by omega) (by omega)
  have e1 : ((a.toNat * 65536 : Nat) : Int) = (a.toNat : Int) * 65536 := by omega
  have e2 : ((b.toNat * 256 : Nat) : Int) = (b.toNat : Int) * 256 := by omega
  rw [e1, e2] at h1
  rw [h1]
  have e3 : a.toNat * 65536 + b.toNat * 256 = (a.toNat * 256 + b.toNat) * 256 := by rw [Nat.add_mul, Nat.mul_assoc]
  rw [e3, h2]
  unfold BM.v3
  rw [← e3]

theorem own_push {w : World} {base : Nat} {v : Value} {L : List UInt8} {y : Int} {x : UInt8} (h : w.ownsRow base 5 1 v (L.length + 1) (L.map bv ++ #[Value.int .u8 y].toList)) (hy : y = (x.toNat : Int)) : w.ownsRow base 5 1 v (L ++ [x]).length ((L ++ [x]).map bv) := by
  subst hy
  rw [List.length_append, List.map_append]
  exact h
theorem al_cast {d : Nat} (h : d < 64) (h' : d < alphaB.size) : (((alphaB[d]'h').toNat : Nat) : Int) = ((BM.al d).toNat : Int) := by rw [alpha_at d h h']
/-- a digit of a quantum as the walk takes it out -/
theorem digit_and (V q : Nat) (hV : V < 16777216) : Go.bits .and .u64 ((V : Int) / (q : Int)) 63 = ((V / q % 64 : Nat) : Int) := by
  have h : V / q ≤ V := Nat.div_le_self _ _
  have := and63 (V / q) (by omega)
  rw [← this]
  congr 1

set_option maxHeartbeats 1600000 in
set_option maxRecDepth 100000 in
theorem base64_any (s : ByteArray) (w : World) (hs : s.size ≤ 1048576) :
    Calls Tryf.prog 10 #[.string s] w fun e w' => e = .returned (.string (ofBytes (BM.enc s.data.toList))) ∧ Below w.heap.size w w' := by
  go_enter Tryf.func10, Tryf.ntmps10
  have hc : (((s.size : Int) + 2) / 3 * 4) = (((s.size + 2) / 3 * 4 : Nat) : Int) := by omega
  generalize hC : (s.size + 2) / 3 * 4 = C at *
  have hC2 : C ≤ 1398104 := by omega
  clear hC
  go_wp2_with (at_make; refine wpList_mk0 E39 rfl _ _ rfl w.heap.size C rfl rfl rfl (by omega) (by decide) (Nat.le_refl _) ?_; intro w1 hown hg)
  have hb1 : Below w.heap.size w w1 := (Below.refl _ _).grown hg (Nat.le_refl _) (by intro k hk; cases hk)
  have hzl := hide (ba_len s)
  clear hg
  go_loopw [3, 4] (fun v i wr => ∃ (k : Nat) (L : List UInt8), k ≤ s.size ∧ i = .int .i64 k ∧ wr.ownsRow w.heap.size 5 1 v L.length (L.map bv) ∧ Hid (L ++ BM.enc (s.data.toList.drop k) = BM.enc s.data.toList) ∧ Below w.heap.size w wr) (fun _ i _ => s.size - (intOf i).toNat)
  case atStart => exact ⟨0, [], by omega, rfl, hown, hide rfl, hb1⟩
  case round =>
    clear hown hb1
    obtain ⟨k, L, hk, rfl, hown, hLz, hb⟩ := hrel
    have hbs := hb.size
    have hLl : L.length ≤ 1398104 := by
      have h1 := congrArg List.length hLz.out
      rw [List.length_append, BM.enc_length s.data.toList, hzl.out] at h1
      omega
    by_cases hkl : k + 3 ≤ s.size
    · have h0 := hide (ba_get s k (by omega))
      have h1 := hide (ba_get s (k + 1) (by omega))
      have h2 := hide (ba_get s (k + 2) (by omega))
      go_upto_region 4 with (fail)
      go_cut [5] (fun v wx => v = .int .u64 (BM.v3 (s[k]'(by omega)) (s[k + 1]'(by omega)) (s[k + 2]'(by omega)) : Nat) ∧ ∃ q, wx = wr.drewN q)
      case first =>
        have hk1 : k < s.size := by omega
        have hk2 : k + 1 < s.size := by omega
        have hk3 : k + 2 < s.size := by omega
        have x0 := idx_at s k k rfl hk1
        have x1 := idx_at s (k + 1) ((k : Int) + 1) (by omega) hk2
        have x2 := idx_at s (k + 2) ((k : Int) + 2) (by omega) hk3
        have w1 : IntKind.i64.wrap ((k : Int) + 1) = (k : Int) + 1 := IntWalk.i64_in _ (by omega)
        have w2 : IntKind.i64.wrap ((k : Int) + 2) = (k : Int) + 2 := IntWalk.i64_in _ (by omega)
        have l0 := (s[k]'hk1).toNat_lt
        have l1 := (s[k + 1]'hk2).toNat_lt
        have l2 := (s[k + 2]'hk3).toNat_lt
        have u0 : IntKind.u64.wrap ((s[k]'hk1).toNat : Int) = ((s[k]'hk1).toNat : Int) := IntWalk.u64_in _ (by omega)
        have u1 : IntKind.u64.wrap ((s[k + 1]'hk2).toNat : Int) = ((s[k + 1]'hk2).toNat : Int) := IntWalk.u64_in _ (by omega)
        have u2 : IntKind.u64.wrap ((s[k + 2]'hk3).toNat : Int) = ((s[k + 2]'hk3).toNat : Int) := IntWalk.u64_in _ (by omega)
        have u3 : IntKind.u64.wrap (((s[k]'hk1).toNat : Int) * 65536) = ((s[k]'hk1).toNat : Int) * 65536 := IntWalk.u64_in _ (by omega)
        have u4 : IntKind.u64.wrap (((s[k + 1]'hk2).toNat : Int) * 256) = ((s[k + 1]'hk2).toNat : Int) * 256 := IntWalk.u64_in _ (by omega)
        have o := v3_or (s[k]'hk1) (s[k + 1]'hk2) (s[k + 2]'hk3)
        go_quiet (fail)
        go_wp2
        go_meet
        exact ⟨rfl, _, rfl⟩
      case rest =>
        obtain ⟨rfl, q, rfl⟩ := hcut
        have hV := BM.v3_lt (s[k]'(by omega)) (s[k + 1]'(by omega)) (s[k + 2]'(by omega))
        have hnx := BM.enc_more h0.out h1.out h2.out
        generalize BM.v3 (s[k]'(by omega)) (s[k + 1]'(by omega)) (s[k + 2]'(by omega)) = V at *
        have b0 : Go.bits .and .u64 ((V : Int) / 262144) 63 = ((V / 262144 % 64 : Nat) : Int) := digit_and V 262144 hV
        have b1 : Go.bits .and .u64 ((V : Int) / 4096) 63 = ((V / 4096 % 64 : Nat) : Int) := digit_and V 4096 hV
        have b2 : Go.bits .and .u64 ((V : Int) / 64) 63 = ((V / 64 % 64 : Nat) : Int) := digit_and V 64 hV
        have b3 := and63 V (by omega)
        obtain ⟨d0, e0⟩ : ∃ d, d = V / 262144 % 64 := ⟨_, rfl⟩
        obtain ⟨d1, e1⟩ : ∃ d, d = V / 4096 % 64 := ⟨_, rfl⟩
        obtain ⟨d2, e2⟩ : ∃ d, d = V / 64 % 64 := ⟨_, rfl⟩
        obtain ⟨d3, e3⟩ : ∃ d, d = V % 64 := ⟨_, rfl⟩
        rw [← e0] at b0
        rw [← e1] at b1
        rw [← e2] at b2
        rw [← e3] at b3
        have l0 : d0 < 64 := by omega
        have l1 : d1 < 64 := by omega
        have l2 : d2 < 64 := by omega
        have l3 : d3 < 64 := by omega
        have hz2 : Hid ((L ++ [BM.al d0] ++ [BM.al d1] ++ [BM.al d2] ++ [BM.al d3]) ++ BM.enc (s.data.toList.drop (k + 3)) = BM.enc s.data.toList) := hide (by
          rw [← hLz.out, hnx, e0, e1, e2, e3, Nat.mod_eq_of_lt (show V / 262144 < 64 by omega)]
          simp [BM.quad])
        clear hnx e0 e1 e2 e3
        replace hb := below_drewN hb q
        replace hbs := hb.size
        replace hown : (wr.drewN q).ownsRow w.heap.size 5 1 u3 L.length (L.map bv) := hown
        go_wp2_with (at_builtin; refine wpList_push E39 rfl _ _ rfl hown rfl #[_] rfl rfl (one_byte _) (by (try simp only [List.length_append, List.length_cons, List.length_nil]); omega) (by decide) hbs ?_; intro v' w' hown' hg'; replace hb := hb.grown hg' hbs (fun g hgb => (hown.lt g hgb).1); replace hbs := hb.size; clear hg'; replace hown := own_push hown' (al_cast (by assumption) _); clear hown')
        go_roundw
        case rel => exact ⟨k + 3, _, by omega, by go_num, hown, hz2, hb⟩
        case measure => simp [intOf]; omega
    · by_cases r1 : k + 1 = s.size
      · have hk1 : k < s.size := by omega
        have h0 := ba_get s k hk1
        have hnx := BM.enc_one h0 (by rw [hzl.out]; omega)
        have hV := BM.v3_lt (s[k]'hk1) 0 0
        have x0 := idx_at s k k rfl hk1
        have l0 := (s[k]'hk1).toNat_lt
        have hsz : (s.size : Int) - (k : Int) = 1 := by omega
        obtain ⟨V, hVe⟩ : ∃ V, V = BM.v3 (s[k]'hk1) 0 0 := ⟨_, rfl⟩
        have hve : ((s[k]'hk1).toNat : Int) * 65536 = (V : Int) := by rw [hVe]; unfold BM.v3; simp
        rw [← hVe] at hnx hV
        have b0 : Go.bits .and .u64 ((V : Int) / 262144) 63 = ((V / 262144 % 64 : Nat) : Int) := digit_and V 262144 hV
        have b1 : Go.bits .and .u64 ((V : Int) / 4096) 63 = ((V / 4096 % 64 : Nat) : Int) := digit_and V 4096 hV
        obtain ⟨d0, e0⟩ : ∃ d, d = V / 262144 % 64 := ⟨_, rfl⟩
        obtain ⟨d1, e1⟩ : ∃ d, d = V / 4096 % 64 := ⟨_, rfl⟩
        rw [← e0] at b0
        rw [← e1] at b1
        have ll0 : d0 < 64 := by omega
        have ll1 : d1 < 64 := by omega
        have hz2 : Hid (L ++ [BM.al d0] ++ [BM.al d1] ++ [61] ++ [61] = BM.enc s.data.toList) := hide (by
          rw [← hLz.out, hnx, e0, e1, Nat.mod_eq_of_lt (show V / 262144 < 64 by omega)]
          simp)
        clear hnx e0 e1 hVe h0
        go_upto_region 23 with (at_builtin; refine wpList_push E39 rfl _ _ rfl hown rfl #[_] rfl rfl (one_byte _) (by (try simp only [List.length_append, List.length_cons, List.length_nil]); omega) (by decide) hbs ?_; intro v' w' hown' hg'; replace hb := hb.grown hg' hbs (fun g hgb => (hown.lt g hgb).1); replace hbs := hb.size; clear hg'; first | replace hown := own_push hown' (al_cast (by assumption) _) | replace hown := own_push (x := 61) hown' rfl; clear hown')
        rw [hz2.out] at hown
        obtain ⟨A2, c2, rfl, hlc, hrd⟩ := own_rd hown
        have hst := hrd.string 39 5 9 c2 Tryf.underlying39 Tryf.underlying5 Tryf.underlying9
        go_wp2
        go_ret
        exact ⟨rfl, hb⟩
      · by_cases r2 : k + 2 = s.size
        · have hk1 : k < s.size := by omega
          have hk2 : k + 1 < s.size := by omega
          have h0 := ba_get s k hk1
          have h1 := ba_get s (k + 1) hk2
          have hnx := BM.enc_two h0 h1 (by rw [hzl.out]; omega)
          have hV := BM.v3_lt (s[k]'hk1) (s[k + 1]'hk2) 0
          have hsz : (s.size : Int) - (k : Int) = 2 := by omega
          obtain ⟨V, hVe⟩ : ∃ V, V = BM.v3 (s[k]'hk1) (s[k + 1]'hk2) 0 := ⟨_, rfl⟩
          replace hVe := hide hVe
          rw [← hVe.out] at hnx hV
          replace hnx := hide hnx
          clear h0 h1
          go_upto_region 18 with (fail)
          go_cut [8] (fun v wx => v = .int .u64 (V : Int) ∧ ∃ q, wx = wr.drewN q)
          case first =>
            have x0 := idx_at s k k rfl hk1
            have x1 := idx_at s (k + 1) ((k : Int) + 1) (by omega) hk2
            have w1 : IntKind.i64.wrap ((k : Int) + 1) = (k : Int) + 1 := IntWalk.i64_in _ (by omega)
            have l0 := (s[k]'hk1).toNat_lt
            have l1 := (s[k + 1]'hk2).toNat_lt
            have u0 : IntKind.u64.wrap ((s[k]'hk1).toNat : Int) = ((s[k]'hk1).toNat : Int) := IntWalk.u64_in _ (by omega)
            have u1 : IntKind.u64.wrap ((s[k + 1]'hk2).toNat : Int) = ((s[k + 1]'hk2).toNat : Int) := IntWalk.u64_in _ (by omega)
            have u3 : IntKind.u64.wrap (((s[k]'hk1).toNat : Int) * 65536) = ((s[k]'hk1).toNat : Int) * 65536 := IntWalk.u64_in _ (by omega)
            have u4 : IntKind.u64.wrap (((s[k + 1]'hk2).toNat : Int) * 256) = ((s[k + 1]'hk2).toNat : Int) * 256 := IntWalk.u64_in _ (by omega)
            have o : Go.bits .or .u64 (((s[k]'hk1).toNat : Int) * 65536) (((s[k + 1]'hk2).toNat : Int) * 256) = (V : Int) := by rw [hVe.out]; exact v2_or _ _
            go_quiet (fail)
            go_wp2
            go_meet
            exact ⟨rfl, _, rfl⟩
          case rest =>
            obtain ⟨rfl, q, rfl⟩ := hcut
            have b0 : Go.bits .and .u64 ((V : Int) / 262144) 63 = ((V / 262144 % 64 : Nat) : Int) := digit_and V 262144 hV
            have b1 : Go.bits .and .u64 ((V : Int) / 4096) 63 = ((V / 4096 % 64 : Nat) : Int) := digit_and V 4096 hV
            have b2 : Go.bits .and .u64 ((V : Int) / 64) 63 = ((V / 64 % 64 : Nat) : Int) := digit_and V 64 hV
            obtain ⟨d0, e0⟩ : ∃ d, d = V / 262144 % 64 := ⟨_, rfl⟩
            obtain ⟨d1, e1⟩ : ∃ d, d = V / 4096 % 64 := ⟨_, rfl⟩
            obtain ⟨d2, e2⟩ : ∃ d, d = V / 64 % 64 := ⟨_, rfl⟩
            rw [← e0] at b0
            rw [← e1] at b1
            rw [← e2] at b2
            have ll0 : d0 < 64 := by omega
            have ll1 : d1 < 64 := by omega
            have ll2 : d2 < 64 := by omega
            have hz2 : Hid (L ++ [BM.al d0] ++ [BM.al d1] ++ [BM.al d2] ++ [61] = BM.enc s.data.toList) := hide (by
              rw [← hLz.out, hnx.out, e0, e1, e2, Nat.mod_eq_of_lt (show V / 262144 < 64 by omega)]
              simp)
            clear hnx e0 e1 e2
            replace hb := below_drewN hb q
            replace hbs := hb.size
            replace hown : (wr.drewN q).ownsRow w.heap.size 5 1 u3 L.length (L.map bv) := hown
            go_upto_region 23 with (at_builtin; refine wpList_push E39 rfl _ _ rfl hown rfl #[_] rfl rfl (one_byte _) (by (try simp only [List.length_append, List.length_cons, List.length_nil]); omega) (by decide) hbs ?_; intro v' w' hown' hg'; replace hb := hb.grown hg' hbs (fun g hgb => (hown.lt g hgb).1); replace hbs := hb.size; clear hg'; first | replace hown := own_push hown' (al_cast (by assumption) _) | replace hown := own_push (x := 61) hown' rfl; clear hown')
            rw [hz2.out] at hown
            obtain ⟨A2, c2, rfl, hlc, hrd⟩ := own_rd hown
            have hst := hrd.string 39 5 9 c2 Tryf.underlying39 Tryf.underlying5 Tryf.underlying9
            go_wp2
            go_ret
            exact ⟨rfl, hb⟩
        · have hz2 : Hid (L = BM.enc s.data.toList) := hide (by
            rw [← hLz.out, BM.enc_none (by rw [hzl.out]; omega), List.append_nil])
          have hsz : (s.size : Int) - (k : Int) = 0 := by omega
          rw [hz2.out] at hown
          obtain ⟨A2, c2, rfl, hlc, hrd⟩ := own_rd hown
          have hst := hrd.string 39 5 9 c2 Tryf.underlying39 Tryf.underlying5 Tryf.underlying9
          go_wp2
          go_ret
          exact ⟨rfl, hb⟩
end Go.Proofs.YtfimnjdfchdldaaFmt
