/-
  The walk of the model's base64 decoder over the encoder's text. Conditions: sizes.
-/
import Derived.Test.YtfimnjdfchdldaaFmtDec
import Derived.Test.YtfimnjdfchdldaaFmtSml
import Derived.OwnWalk
import Derived.Outline
namespace Go.Proofs.YtfimnjdfchdldaaFmt
open Go.RowKit

set_option maxHeartbeats 1600000 in
theorem val39_any (d : Nat) (hd : d < 64) (w : World) : Calls Tryf.prog 39 #[.int .u8 ((BM.al d).toNat : Int)] w fun e w' => e = .returned (.int .i64 (d : Int)) ∧ w = w' := by
  have hal := BM.al_toNat hd
  obtain ⟨n, hn⟩ : ∃ n, n = (BM.al d).toNat := ⟨_, rfl⟩
  rw [← hn] at hal ⊢
  clear hn
  rcases (by omega : d < 26 ∨ (26 ≤ d ∧ d < 52) ∨ (52 ≤ d ∧ d < 62) ∨ d = 62 ∨ d = 63) with h | ⟨h, h'⟩ | ⟨h, h'⟩ | rfl | rfl
  · rw [if_pos h] at hal
    have h1 : 65 ≤ n := by omega
    have h2 : n ≤ 90 := by omega
    have h3 : (n : Int) - 65 = d := by omega
    clear hal
    go_enter Tryf.func39, Tryf.ntmps39
    go_wp2
    go_ret
    exact ⟨by first | rfl | rw [← h3] | go_num, rfl⟩
  · rw [if_neg (by omega), if_pos h'] at hal
    have h1 : 97 ≤ n := by omega
    have h2 : n ≤ 122 := by omega
    have h3 : (n : Int) - 97 + 26 = d := by omega
    clear hal
    go_enter Tryf.func39, Tryf.ntmps39
    go_wp2
    go_ret
    exact ⟨by first | rfl | rw [← h3] | go_num, rfl⟩
  · rw [if_neg (by omega), if_neg (by omega), if_pos h'] at hal
    have h1 : 48 ≤ n := by omega
    have h2 : n ≤ 57 := by omega
    have h3 : (n : Int) - 48 + 52 = d := by omega
    clear hal
    go_enter Tryf.func39, Tryf.ntmps39
    go_wp2
    go_ret
    exact ⟨by first | rfl | rw [← h3] | go_num, rfl⟩
  · obtain rfl : n = 43 := by simpa using hal
    clear hal
    go_enter Tryf.func39, Tryf.ntmps39
    go_wp2
    go_ret
    exact ⟨rfl, rfl⟩
  · obtain rfl : n = 47 := by simpa using hal
    clear hal
    go_enter Tryf.func39, Tryf.ntmps39
    go_wp2
    go_ret
    exact ⟨rfl, rfl⟩

set_option maxRecDepth 100000 in
theorem or4_all : ∀ (a : Fin 64) (b : Fin 4), Go.bits .or .i64 (((a.val : Nat) : Int) * 4) ((b.val : Nat) : Int) = ((a.val * 4 + b.val : Nat) : Int) := by decide
set_option maxRecDepth 100000 in
theorem or16_all : ∀ (a : Fin 16) (b : Fin 16), Go.bits .or .i64 (((a.val : Nat) : Int) * 16) ((b.val : Nat) : Int) = ((a.val * 16 + b.val : Nat) : Int) := by decide
set_option maxRecDepth 100000 in
theorem or64_all : ∀ (a : Fin 4) (b : Fin 64), Go.bits .or .i64 (((a.val : Nat) : Int) * 64) ((b.val : Nat) : Int) = ((a.val * 64 + b.val : Nat) : Int) := by decide
set_option maxRecDepth 100000 in
theorem and15i_all : ∀ x : Fin 64, Go.bits .and .i64 ((x.val : Nat) : Int) 15 = ((x.val % 16 : Nat) : Int) := by decide
set_option maxRecDepth 100000 in
theorem and3i_all : ∀ x : Fin 64, Go.bits .and .i64 ((x.val : Nat) : Int) 3 = ((x.val % 4 : Nat) : Int) := by decide

theorem own_nil0 (w : World) (base : Nat) : w.ownsRow base 5 1 (.slice none 0 0) ([] : List UInt8).length (([] : List UInt8).map bv) := ⟨rfl, .inl ⟨rfl, rfl⟩⟩

set_option maxHeartbeats 8000000 in
set_option maxRecDepth 1000000 in
theorem b64back_any (s : ByteArray) (zs : List UInt8) (w : World) (hs : s.data.toList = BM.enc zs) (hz : zs.length ≤ 524288) :
    Calls Tryf.prog 22 #[.string s] w fun e w' => e = .returned (.tuple #[.string (ofBytes zs), .bool true]) ∧ Below w.heap.size w w' := by
  obtain ⟨Q, hQ⟩ : ∃ Q, Q = (zs.length + 2) / 3 := ⟨_, rfl⟩
  have hsz : s.size = 4 * Q := by rw [← ba_len, hs, BM.enc_length, hQ]
  have hz1 : zs.length ≤ 3 * Q := by omega
  have hz2 : 3 * Q < zs.length + 3 := by omega
  have hs1 : s.size ≤ 4 * Q := by omega
  have hs2 : 4 * Q ≤ s.size := by omega
  have hrem : (s.size : Int) % 4 = 0 := by omega
  replace hs := hide hs
  clear hQ hsz
  go_enter Tryf.func22, Tryf.ntmps22
  go_wp2_with fail
  clear hrem
  go_loopw [4, 5] (fun v i wr => ∃ (G : Nat) (L : List UInt8), G ≤ Q ∧ i = .int .i64 (4 * G : Nat) ∧ Hid (L = zs.take (3 * G)) ∧ Hid (wr.ownsRow w.heap.size 5 1 v L.length (L.map bv)) ∧ Hid (Below w.heap.size w wr)) (fun _ i _ => s.size - (intOf i).toNat)
  case atStart => exact ⟨0, [], Nat.zero_le _, rfl, hide rfl, hide (own_nil0 _ _), hide (Below.refl _ _)⟩
  case round =>
    obtain ⟨G, L, hG, rfl, hL, hown, hb⟩ := hrel
    have hbs := hb.out.size
    have hLl : L.length ≤ 524288 := by rw [hL.out, List.length_take]; omega
    by_cases hGQ : G < Q
    · by_cases h3 : 3 * G + 3 ≤ zs.length
      · obtain ⟨x0, hx0⟩ : ∃ x, zs[3 * G]? = some x := ⟨_, List.getElem?_eq_getElem (by omega)⟩
        obtain ⟨x1, hx1⟩ : ∃ x, zs[3 * G + 1]? = some x := ⟨_, List.getElem?_eq_getElem (by omega)⟩
        obtain ⟨x2, hx2⟩ : ∃ x, zs[3 * G + 2]? = some x := ⟨_, List.getElem?_eq_getElem (by omega)⟩
        obtain ⟨f0, f1, f2, f3⟩ := enc_full hx0 hx1 hx2
        have hT : Hid (L ++ [x0] ++ [x1] ++ [x2] = zs.take (3 * (G + 1))) := hide (by
          rw [hL.out, show 3 * (G + 1) = 3 * G + 1 + 1 + 1 by omega, List.take_add_one, List.take_add_one, List.take_add_one, hx0, hx1, hx2]
          rfl)
        obtain ⟨n0, hn0⟩ : ∃ n, n = x0.toNat := ⟨_, rfl⟩
        have hnl0 : n0 < 256 := by rw [hn0]; exact x0.toNat_lt
        obtain ⟨n1, hn1⟩ : ∃ n, n = x1.toNat := ⟨_, rfl⟩
        have hnl1 : n1 < 256 := by rw [hn1]; exact x1.toNat_lt
        obtain ⟨n2, hn2⟩ : ∃ n, n = x2.toNat := ⟨_, rfl⟩
        have hnl2 : n2 < 256 := by rw [hn2]; exact x2.toNat_lt
        have hV := BM.v3_lt x0 x1 x2
        have hVb := BM.v3_bytes x0 x1 x2
        obtain ⟨W, hW⟩ : ∃ W, W = BM.v3 x0 x1 x2 := ⟨_, rfl⟩
        rw [← hW] at hV hVb f0 f1 f2 f3
        obtain ⟨b0, b1, b2⟩ := hVb
        rw [← hn0] at b0
        rw [← hn1] at b1
        rw [← hn2] at b2
        obtain ⟨d0, hd0⟩ : ∃ d, d = W / 262144 := ⟨_, rfl⟩
        obtain ⟨d1, hd1⟩ : ∃ d, d = W / 4096 % 64 := ⟨_, rfl⟩
        obtain ⟨d2, hd2⟩ : ∃ d, d = W / 64 % 64 := ⟨_, rfl⟩
        obtain ⟨d3, hd3⟩ : ∃ d, d = W % 64 := ⟨_, rfl⟩
        rw [← hd0] at f0
        have t0 : d0 < 64 := by omega
        rw [← hd1] at f1
        have t1 : d1 < 64 := by omega
        rw [← hd2] at f2
        have t2 : d2 < 64 := by omega
        rw [← hd3] at f3
        have t3 : d3 < 64 := by omega
        obtain ⟨q1, hq1⟩ : ∃ q, q = d1 / 16 := ⟨_, rfl⟩
        have z1 : (d1 : Int) / 16 = (q1 : Int) := by omega
        have o0 : Go.bits .or .i64 ((d0 : Int) * 4) (q1 : Int) = (n0 : Int) := (or4_all ⟨d0, t0⟩ ⟨q1, by omega⟩).trans (by simp only; omega)
        obtain ⟨r1, hr1⟩ : ∃ q, q = d1 % 16 := ⟨_, rfl⟩
        have a1 : Go.bits .and .i64 (d1 : Int) 15 = (r1 : Int) := by rw [hr1]; exact and15i_all ⟨d1, t1⟩
        have hr1l : r1 < 16 := by omega
        obtain ⟨q2, hq2⟩ : ∃ q, q = d2 / 4 := ⟨_, rfl⟩
        have z2 : (d2 : Int) / 4 = (q2 : Int) := by omega
        have o1 : Go.bits .or .i64 ((r1 : Int) * 16) (q2 : Int) = (n1 : Int) := (or16_all ⟨r1, by omega⟩ ⟨q2, by omega⟩).trans (by simp only; omega)
        obtain ⟨r2, hr2⟩ : ∃ q, q = d2 % 4 := ⟨_, rfl⟩
        have a2 : Go.bits .and .i64 (d2 : Int) 3 = (r2 : Int) := by rw [hr2]; exact and3i_all ⟨d2, t2⟩
        have hr2l : r2 < 4 := by omega
        have o2 : Go.bits .or .i64 ((r2 : Int) * 64) (d3 : Int) = (n2 : Int) := (or64_all ⟨r2, by omega⟩ ⟨d3, t3⟩).trans (by simp only; omega)
        have h0l : 4 * G < s.size := by omega
        have ix0 := idx_at s (4 * G) (4 * (G : Int)) (by omega) h0l
        have e0 : s[4 * G]'h0l = BM.al d0 := Option.some.inj ((ba_get s (4 * G) h0l).symm.trans (by rw [hs.out]; exact f0))
        rw [e0] at ix0
        clear e0 f0
        have h1l : 4 * G + 1 < s.size := by omega
        have ix1 := idx_at s (4 * G + 1) (4 * (G : Int) + 1) (by omega) h1l
        have e1 : s[4 * G + 1]'h1l = BM.al d1 := Option.some.inj ((ba_get s (4 * G + 1) h1l).symm.trans (by rw [hs.out]; exact f1))
        rw [e1] at ix1
        clear e1 f1
        have h2l : 4 * G + 2 < s.size := by omega
        have ix2 := idx_at s (4 * G + 2) (4 * (G : Int) + 2) (by omega) h2l
        have e2 : s[4 * G + 2]'h2l = BM.al d2 := Option.some.inj ((ba_get s (4 * G + 2) h2l).symm.trans (by rw [hs.out]; exact f2))
        rw [e2] at ix2
        clear e2 f2
        have h3l : 4 * G + 3 < s.size := by omega
        have ix3 := idx_at s (4 * G + 3) (4 * (G : Int) + 3) (by omega) h3l
        have e3 : s[4 * G + 3]'h3l = BM.al d3 := Option.some.inj ((ba_get s (4 * G + 3) h3l).symm.trans (by rw [hs.out]; exact f3))
        rw [e3] at ix3
        clear e3 f3
        have p2 : (((BM.al d2).toNat : Int) == 61) = false := by
          have := BM.al_toNat t2
          simp
          split at this
          · omega
          split at this
          · omega
          split at this
          · omega
          split at this <;> omega
        have p3 : (((BM.al d3).toNat : Int) == 61) = false := by
          have := BM.al_toNat t3
          simp
          split at this
          · omega
          split at this
          · omega
          split at this
          · omega
          split at this <;> omega
        clear hV hW b0 b1 b2 hd0 hd1 hq1 hd2 hq2 hr1 hd3 hr2
        replace hn0 := hide hn0
        replace hn1 := hide hn1
        replace hn2 := hide hn2
        obtain ⟨lb, hlb⟩ : ∃ b, ((4 * (G : Int) + 4) == (s.size : Int)) = b := ⟨_, rfl⟩
        clear hx0 hx1 hx2
        go_wp2_with (first
          | (go_at_call 39; (with_reducible refine (val39_any _ (by assumption) _).mono ?_); rintro e w' ⟨rfl, rfl⟩)
          | (at_builtin; refine wpList_push E39 rfl (.tmp 41) (.tmp 48) rfl hown.out rfl #[.int .u8 (n0 : Int)] rfl rfl (one_byte _) ?c4 (by decide) ?c5 ?_))
        case c4 => omega
        case c5 => exact hbs
        intro v0 w1 hownN hgN
        have hbN := hb.out.grown hgN hbs (fun g hgb => (hown.out.lt g hgb).1)
        replace hownN := own_push hownN (x := x0) (congrArg (fun n : Nat => (n : Int)) hn0.out)
        obtain ⟨L1, hL1⟩ : ∃ L', L' = L ++ [x0] := ⟨_, rfl⟩
        rw [← hL1] at hownN
        have hLl1 : L1.length ≤ 524289 := by rw [hL1, List.length_append, List.length_singleton]; omega
        replace hL1 := hide hL1
        clear hown hb hgN hbs
        have hbs := hbN.size
        have hown := hide hownN
        have hb := hide hbN
        clear hownN hbN
        go_wp2_with (first
          | (go_at_call 39; (with_reducible refine (val39_any _ (by assumption) _).mono ?_); rintro e w' ⟨rfl, rfl⟩)
          | (at_builtin; refine wpList_push E39 rfl (.tmp 73) (.tmp 81) rfl hown.out rfl #[.int .u8 (n1 : Int)] rfl rfl (one_byte _) ?c4 (by decide) ?c5 ?_))
        case c4 => omega
        case c5 => exact hbs
        intro v1 w2 hownN hgN
        have hbN := hb.out.grown hgN hbs (fun g hgb => (hown.out.lt g hgb).1)
        replace hownN := own_push hownN (x := x1) (congrArg (fun n : Nat => (n : Int)) hn1.out)
        obtain ⟨L2, hL2⟩ : ∃ L', L' = L1 ++ [x1] := ⟨_, rfl⟩
        rw [← hL2] at hownN
        have hLl2 : L2.length ≤ 524290 := by rw [hL2, List.length_append, List.length_singleton]; omega
        replace hL2 := hide hL2
        clear hown hb hgN hbs
        have hbs := hbN.size
        have hown := hide hownN
        have hb := hide hbN
        clear hownN hbN
        go_wp2_with (first
          | (go_at_call 39; (with_reducible refine (val39_any _ (by assumption) _).mono ?_); rintro e w' ⟨rfl, rfl⟩)
          | (at_builtin; refine wpList_push E39 rfl (.tmp 99) (.tmp 106) rfl hown.out rfl #[.int .u8 (n2 : Int)] rfl rfl (one_byte _) ?c4 (by decide) ?c5 ?_))
        case c4 => omega
        case c5 => exact hbs
        intro v2 w3 hownN hgN
        have hbN := hb.out.grown hgN hbs (fun g hgb => (hown.out.lt g hgb).1)
        replace hownN := own_push hownN (x := x2) (congrArg (fun n : Nat => (n : Int)) hn2.out)
        obtain ⟨L3, hL3⟩ : ∃ L', L' = L2 ++ [x2] := ⟨_, rfl⟩
        rw [← hL3] at hownN
        have hLl3 : L3.length ≤ 524291 := by rw [hL3, List.length_append, List.length_singleton]; omega
        replace hL3 := hide hL3
        clear hown hb hgN hbs
        have hbs := hbN.size
        have hown := hide hownN
        have hb := hide hbN
        clear hownN hbN
        replace hT : Hid (L3 = zs.take (3 * (G + 1))) := hide (by rw [hL3.out, hL2.out, hL1.out]; exact hT.out)
        clear o0 o1 o2 a1 a2 z1 z2
        go_wp2
        go_roundw
        case rel => exact ⟨G + 1, L3, by omega, by go_num, hT, hown, hb⟩
        case measure => simp [intOf]; omega
      · rcases (by omega : zs.length = 3 * G + 1 ∨ zs.length = 3 * G + 2) with hl | hl
        · obtain ⟨x0, hx0⟩ : ∃ x, zs[3 * G]? = some x := ⟨_, List.getElem?_eq_getElem (by omega)⟩
          obtain ⟨f0, f1, f2, f3⟩ := enc_pad2 hx0 hl
          have hT : Hid (L ++ [x0] = zs) := hide (by
            rw [hL.out]
            have e : zs.take (3 * G + 1) = zs := List.take_of_length_le (by omega)
            rw [List.take_add_one, hx0] at e
            exact e)
          obtain ⟨n0, hn0⟩ : ∃ n, n = x0.toNat := ⟨_, rfl⟩
          have hnl0 : n0 < 256 := by rw [hn0]; exact x0.toNat_lt
          have hV := BM.v3_lt x0 0 0
          have hVb := BM.v3_bytes x0 0 0
          obtain ⟨W, hW⟩ : ∃ W, W = BM.v3 x0 0 0 := ⟨_, rfl⟩
          rw [← hW] at hV hVb f0 f1
          obtain ⟨b0, b1, b2⟩ := hVb
          rw [← hn0] at b0
          rw [show (0 : UInt8).toNat = 0 from rfl] at b1
          rw [show (0 : UInt8).toNat = 0 from rfl] at b2
          obtain ⟨d0, hd0⟩ : ∃ d, d = W / 262144 := ⟨_, rfl⟩
          obtain ⟨d1, hd1⟩ : ∃ d, d = W / 4096 % 64 := ⟨_, rfl⟩
          rw [← hd0] at f0
          have t0 : d0 < 64 := by omega
          rw [← hd1] at f1
          have t1 : d1 < 64 := by omega
          obtain ⟨q1, hq1⟩ : ∃ q, q = d1 / 16 := ⟨_, rfl⟩
          have z1 : (d1 : Int) / 16 = (q1 : Int) := by omega
          have o0 : Go.bits .or .i64 ((d0 : Int) * 4) (q1 : Int) = (n0 : Int) := (or4_all ⟨d0, t0⟩ ⟨q1, by omega⟩).trans (by simp only; omega)
          have h0l : 4 * G < s.size := by omega
          have ix0 := idx_at s (4 * G) (4 * (G : Int)) (by omega) h0l
          have e0 : s[4 * G]'h0l = BM.al d0 := Option.some.inj ((ba_get s (4 * G) h0l).symm.trans (by rw [hs.out]; exact f0))
          rw [e0] at ix0
          clear e0 f0
          have h1l : 4 * G + 1 < s.size := by omega
          have ix1 := idx_at s (4 * G + 1) (4 * (G : Int) + 1) (by omega) h1l
          have e1 : s[4 * G + 1]'h1l = BM.al d1 := Option.some.inj ((ba_get s (4 * G + 1) h1l).symm.trans (by rw [hs.out]; exact f1))
          rw [e1] at ix1
          clear e1 f1
          have h2l : 4 * G + 2 < s.size := by omega
          have ix2 := idx_at s (4 * G + 2) (4 * (G : Int) + 2) (by omega) h2l
          have e2 : s[4 * G + 2]'h2l = 61 := Option.some.inj ((ba_get s (4 * G + 2) h2l).symm.trans (by rw [hs.out]; exact f2))
          rw [e2] at ix2
          clear e2 f2
          have h3l : 4 * G + 3 < s.size := by omega
          have ix3 := idx_at s (4 * G + 3) (4 * (G : Int) + 3) (by omega) h3l
          have e3 : s[4 * G + 3]'h3l = 61 := Option.some.inj ((ba_get s (4 * G + 3) h3l).symm.trans (by rw [hs.out]; exact f3))
          rw [e3] at ix3
          clear e3 f3
          clear hV hW b0 b1 b2 hd0 hd1 hq1
          replace hn0 := hide hn0
          have hlb : ((4 * (G : Int) + 4) == (s.size : Int)) = true := by simp; omega
          clear hx0 hl
          go_wp2_with (first
            | (go_at_call 39; (with_reducible refine (val39_any _ (by assumption) _).mono ?_); rintro e w' ⟨rfl, rfl⟩)
            | (at_builtin; refine wpList_push E39 rfl (.tmp 41) (.tmp 48) rfl hown.out rfl #[.int .u8 (n0 : Int)] rfl rfl (one_byte _) ?c4 (by decide) ?c5 ?_))
          case c4 => omega
          case c5 => exact hbs
          intro v0 w1 hownN hgN
          have hbN := hb.out.grown hgN hbs (fun g hgb => (hown.out.lt g hgb).1)
          replace hownN := own_push hownN (x := x0) (congrArg (fun n : Nat => (n : Int)) hn0.out)
          obtain ⟨L1, hL1⟩ : ∃ L', L' = L ++ [x0] := ⟨_, rfl⟩
          rw [← hL1] at hownN
          have hLl1 : L1.length ≤ 524289 := by rw [hL1, List.length_append, List.length_singleton]; omega
          replace hL1 := hide hL1
          clear hown hb hgN hbs
          have hbs := hbN.size
          have hown := hide hownN
          have hb := hide hbN
          clear hownN hbN
          have hown2 := hown.out
          replace hT : Hid (L1 = zs) := hide (by rw [hL1.out]; exact hT.out)
          rw [hT.out] at hown2
          obtain ⟨A2, c2, hA2, hc2, hrd⟩ := own_rd hown2
          subst hA2
          have hst := hrd.string 39 5 9 c2 Tryf.underlying39 Tryf.underlying5 Tryf.underlying9
          clear hown hown2 hrd hc2
          go_wp2_with (fail)
          go_ret2
          exact ⟨rfl, hb.out⟩
        · obtain ⟨x0, hx0⟩ : ∃ x, zs[3 * G]? = some x := ⟨_, List.getElem?_eq_getElem (by omega)⟩
          obtain ⟨x1, hx1⟩ : ∃ x, zs[3 * G + 1]? = some x := ⟨_, List.getElem?_eq_getElem (by omega)⟩
          obtain ⟨f0, f1, f2, f3⟩ := enc_pad1 hx0 hx1 hl
          have hT : Hid (L ++ [x0] ++ [x1] = zs) := hide (by
            rw [hL.out]
            have e : zs.take (3 * G + 1 + 1) = zs := List.take_of_length_le (by omega)
            rw [List.take_add_one, List.take_add_one, hx0, hx1] at e
            exact e)
          obtain ⟨n0, hn0⟩ : ∃ n, n = x0.toNat := ⟨_, rfl⟩
          have hnl0 : n0 < 256 := by rw [hn0]; exact x0.toNat_lt
          obtain ⟨n1, hn1⟩ : ∃ n, n = x1.toNat := ⟨_, rfl⟩
          have hnl1 : n1 < 256 := by rw [hn1]; exact x1.toNat_lt
          have hV := BM.v3_lt x0 x1 0
          have hVb := BM.v3_bytes x0 x1 0
          obtain ⟨W, hW⟩ : ∃ W, W = BM.v3 x0 x1 0 := ⟨_, rfl⟩
          rw [← hW] at hV hVb f0 f1 f2
          obtain ⟨b0, b1, b2⟩ := hVb
          rw [← hn0] at b0
          rw [← hn1] at b1
          rw [show (0 : UInt8).toNat = 0 from rfl] at b2
          obtain ⟨d0, hd0⟩ : ∃ d, d = W / 262144 := ⟨_, rfl⟩
          obtain ⟨d1, hd1⟩ : ∃ d, d = W / 4096 % 64 := ⟨_, rfl⟩
          obtain ⟨d2, hd2⟩ : ∃ d, d = W / 64 % 64 := ⟨_, rfl⟩
          rw [← hd0] at f0
          have t0 : d0 < 64 := by omega
          rw [← hd1] at f1
          have t1 : d1 < 64 := by omega
          rw [← hd2] at f2
          have t2 : d2 < 64 := by omega
          obtain ⟨q1, hq1⟩ : ∃ q, q = d1 / 16 := ⟨_, rfl⟩
          have z1 : (d1 : Int) / 16 = (q1 : Int) := by omega
          have o0 : Go.bits .or .i64 ((d0 : Int) * 4) (q1 : Int) = (n0 : Int) := (or4_all ⟨d0, t0⟩ ⟨q1, by omega⟩).trans (by simp only; omega)
          obtain ⟨r1, hr1⟩ : ∃ q, q = d1 % 16 := ⟨_, rfl⟩
          have a1 : Go.bits .and .i64 (d1 : Int) 15 = (r1 : Int) := by rw [hr1]; exact and15i_all ⟨d1, t1⟩
          have hr1l : r1 < 16 := by omega
          obtain ⟨q2, hq2⟩ : ∃ q, q = d2 / 4 := ⟨_, rfl⟩
          have z2 : (d2 : Int) / 4 = (q2 : Int) := by omega
          have o1 : Go.bits .or .i64 ((r1 : Int) * 16) (q2 : Int) = (n1 : Int) := (or16_all ⟨r1, by omega⟩ ⟨q2, by omega⟩).trans (by simp only; omega)
          have h0l : 4 * G < s.size := by omega
          have ix0 := idx_at s (4 * G) (4 * (G : Int)) (by omega) h0l
          have e0 : s[4 * G]'h0l = BM.al d0 := Option.some.inj ((ba_get s (4 * G) h0l).symm.trans (by rw [hs.out]; exact f0))
          rw [e0] at ix0
          clear e0 f0
          have h1l : 4 * G + 1 < s.size := by omega
          have ix1 := idx_at s (4 * G + 1) (4 * (G : Int) + 1) (by omega) h1l
          have e1 : s[4 * G + 1]'h1l = BM.al d1 := Option.some.inj ((ba_get s (4 * G + 1) h1l).symm.trans (by rw [hs.out]; exact f1))
          rw [e1] at ix1
          clear e1 f1
          have h2l : 4 * G + 2 < s.size := by omega
          have ix2 := idx_at s (4 * G + 2) (4 * (G : Int) + 2) (by omega) h2l
          have e2 : s[4 * G + 2]'h2l = BM.al d2 := Option.some.inj ((ba_get s (4 * G + 2) h2l).symm.trans (by rw [hs.out]; exact f2))
          rw [e2] at ix2
          clear e2 f2
          have h3l : 4 * G + 3 < s.size := by omega
          have ix3 := idx_at s (4 * G + 3) (4 * (G : Int) + 3) (by omega) h3l
          have e3 : s[4 * G + 3]'h3l = 61 := Option.some.inj ((ba_get s (4 * G + 3) h3l).symm.trans (by rw [hs.out]; exact f3))
          rw [e3] at ix3
          clear e3 f3
          have p2 : (((BM.al d2).toNat : Int) == 61) = false := by
            have := BM.al_toNat t2
            simp
            split at this
            · omega
            split at this
            · omega
            split at this
            · omega
            split at this <;> omega
          clear hV hW b0 b1 b2 hd0 hd1 hq1 hd2 hq2 hr1
          replace hn0 := hide hn0
          replace hn1 := hide hn1
          have hlb : ((4 * (G : Int) + 4) == (s.size : Int)) = true := by simp; omega
          clear hx0 hx1 hl
          go_wp2_with (first
            | (go_at_call 39; (with_reducible refine (val39_any _ (by assumption) _).mono ?_); rintro e w' ⟨rfl, rfl⟩)
            | (at_builtin; refine wpList_push E39 rfl (.tmp 41) (.tmp 48) rfl hown.out rfl #[.int .u8 (n0 : Int)] rfl rfl (one_byte _) ?c4 (by decide) ?c5 ?_))
          case c4 => omega
          case c5 => exact hbs
          intro v0 w1 hownN hgN
          have hbN := hb.out.grown hgN hbs (fun g hgb => (hown.out.lt g hgb).1)
          replace hownN := own_push hownN (x := x0) (congrArg (fun n : Nat => (n : Int)) hn0.out)
          obtain ⟨L1, hL1⟩ : ∃ L', L' = L ++ [x0] := ⟨_, rfl⟩
          rw [← hL1] at hownN
          have hLl1 : L1.length ≤ 524289 := by rw [hL1, List.length_append, List.length_singleton]; omega
          replace hL1 := hide hL1
          clear hown hb hgN hbs
          have hbs := hbN.size
          have hown := hide hownN
          have hb := hide hbN
          clear hownN hbN
          go_wp2_with (first
            | (go_at_call 39; (with_reducible refine (val39_any _ (by assumption) _).mono ?_); rintro e w' ⟨rfl, rfl⟩)
            | (at_builtin; refine wpList_push E39 rfl (.tmp 73) (.tmp 81) rfl hown.out rfl #[.int .u8 (n1 : Int)] rfl rfl (one_byte _) ?c4 (by decide) ?c5 ?_))
          case c4 => omega
          case c5 => exact hbs
          intro v1 w2 hownN hgN
          have hbN := hb.out.grown hgN hbs (fun g hgb => (hown.out.lt g hgb).1)
          replace hownN := own_push hownN (x := x1) (congrArg (fun n : Nat => (n : Int)) hn1.out)
          obtain ⟨L2, hL2⟩ : ∃ L', L' = L1 ++ [x1] := ⟨_, rfl⟩
          rw [← hL2] at hownN
          have hLl2 : L2.length ≤ 524290 := by rw [hL2, List.length_append, List.length_singleton]; omega
          replace hL2 := hide hL2
          clear hown hb hgN hbs
          have hbs := hbN.size
          have hown := hide hownN
          have hb := hide hbN
          clear hownN hbN
          have hown2 := hown.out
          replace hT : Hid (L2 = zs) := hide (by rw [hL2.out, hL1.out]; exact hT.out)
          rw [hT.out] at hown2
          obtain ⟨A2, c2, hA2, hc2, hrd⟩ := own_rd hown2
          subst hA2
          have hst := hrd.string 39 5 9 c2 Tryf.underlying39 Tryf.underlying5 Tryf.underlying9
          clear hown hown2 hrd hc2
          go_wp2_with (fail)
          go_ret2
          exact ⟨rfl, hb.out⟩
    · have hLz : Hid (L = zs) := hide (by rw [hL.out]; exact List.take_of_length_le (by omega))
      have hown2 := hown.out
      rw [hLz.out] at hown2
      obtain ⟨A2, c2, hA2, hc2, hrd⟩ := own_rd hown2
      subst hA2
      have hst := hrd.string 39 5 9 c2 Tryf.underlying39 Tryf.underlying5 Tryf.underlying9
      clear hown hown2 hrd hc2
      go_wp2
      go_ret2
      exact ⟨rfl, hb.out⟩
end Go.Proofs.YtfimnjdfchdldaaFmt
