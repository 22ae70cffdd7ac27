/-
  The walks of EncodedLen, Encode, EncodeToString at the standard encoding. Conditions: sizes.
-/
import Derived.Test.YtfimnjdfchdldaaFmtDec
import Derived.Test.YtfimnjdfchdldaaFmtLst
import Derived.Outline
namespace Go.Proofs.YtfimnjdfchdldaaFmt
open Go.RowKit

theorem std_enc {w : World} {E d : Nat} (h : StdAt w E) (hd : d < 64) : w.cell? ⟨E, d, none⟩ = some (.int .u8 ((BM.al d).toNat : Int)) := by
  rw [h.cell d]
  have ha : A64[d]? = some (BM.al d) := by
    have := alpha_all ⟨d, hd⟩
    unfold A64
    rw [List.getElem?_eq_getElem (by rw [show alphaB.data.toList.length = 64 from rfl]; exact hd)]
    congr 1
  unfold cellsOf
  rw [List.getElem?_toArray, List.append_assoc, List.getElem?_append_left (by rw [List.length_map, A64_length]; exact hd), List.getElem?_map, ha]
  rfl
theorem wrap64n (a : Nat) (h : a < 18446744073709551616) : IntKind.u64.wrap (a : Int) = (a : Int) := by unfold IntKind.wrap; simp [IntKind.bits, IntKind.signed]; omega
theorem idx72 (E d : Nat) (hd : d < 64) (w : World) : (Instr.indexAt 72 (.pointer (some ⟨E, 0, none⟩)) (.int .u64 d)).run Tryf.prog w = .ok (.pointer (some ⟨E, d, none⟩)) w := by
  have h1 : (0 : Int) ≤ (d : Int) ∧ (d : Int) < 64 := ⟨by omega, by omega⟩
  simp [go_sem, Instr.indexAt, h1]
  intro h
  omega

theorem size72 : (Tryf.prog.info? 72).map (·.size) = some 64 := by kernel_rfl
/-- the whole alphabet, loaded and not used -/
theorem load72 (w : World) (E : Nat) (hE : StdAt w E) : (Instr.loadAt 72 (.pointer (some ⟨E, 0, none⟩))).run Tryf.prog w = .ok (.agg (A64.map bv).toArray) w := by
  have hcell : ∀ j v, (A64.map bv)[j]? = some v → w.cell? ((⟨E, 0, none⟩ : Addr).add j) = some v := fun j v hj => by
    rw [addr_add0, Nat.zero_add, hE.cell j]
    have hl : j < (A64.map bv).length := (List.getElem?_eq_some_iff.1 hj).1
    unfold cellsOf
    rw [List.getElem?_toArray, List.append_assoc, List.getElem?_append_left hl]
    exact hj
  have h := run_loadCells_list (P := Tryf.prog) (w := w) ⟨E, 0, none⟩ (A64.map bv) hcell
  have hl : (A64.map bv).length = 64 := by rw [List.length_map, A64_length]
  rw [hl] at h
  obtain ⟨i, hi, hs⟩ := Option.map_eq_some_iff.1 size72
  simp [Instr.loadAt, Instr.sureAddr, loadVar, isAgg, run_underlying Tryf.underlying72, sizeOf, typeInfo, hi, hs, h, Result.andThen]
section
variable {ops : Array Oper} {rest : List Oper} {o : Oper} {a : Act} {Q : Exit → Act → World → Prop} {w : World}
theorem wpList_load72 (hgd : o.guard = none) (x : Operand) (ho : o.op = Op.load 72 x) (E : Nat) (hx : a.eval x = .pointer (some ⟨E, 0, none⟩)) (hE : StdAt w E)
    (h : ∀ X, wpList Tryf.prog ops Q rest (a.put o.dst X) w) : wpList Tryf.prog ops Q (o :: rest) a w := by
  have hrun := load72 w E hE
  generalize Value.agg (A64.map bv).toArray = X at hrun
  refine wpList_plain hgd fun K hK => ?_
  unfold Oper.wp
  simp [execOp, ho, hx, hrun, Result.andThen]
  exact hK _ _ (h X)
end

set_option maxHeartbeats 400000 in
theorem encodedLen_any (E n : Nat) (w : World) (hE : StdAt w E) (hn : n ≤ 16777216) :
    Calls Tryf.prog 55 #[.pointer (some ⟨E, 0, none⟩), .int .i64 n] w fun e w' => e = .returned (.int .i64 (((n + 2) / 3 * 4 : Nat) : Int)) ∧ w = w' := by
  have hp := std_padChar hE
  go_enter Tryf.func55, Tryf.ntmps55
  go_wp2
  go_ret
  exact ⟨by go_num, rfl⟩

/-- what Encode keeps: the first k places of row g are the text's -/
structure EncSt (w wr : World) (base E g N : Nat) (ts L : List UInt8) (k : Nat) : Prop where
  own : wr.ownsRow base 5 1 (.slice (some ⟨g, 0, none⟩) N N) N (L.map bv)
  std : StdAt wr E
  front : Front ts L k
  grown : w.grownBy wr (some g)
section
variable {w wr : World} {base E g N : Nat} {ts L : List UInt8} {k : Nat}
theorem EncSt.drewN (h : EncSt w wr base E g N ts L k) (q : Nat) : EncSt w (wr.drewN q) base E g N ts L k := ⟨h.own, h.std, h.front, grown_drewN h.grown q⟩
theorem EncSt.ne (h : EncSt w wr base E g N ts L k) : g ≠ E := fun e => own_blk_ne h.own h.std (by decide) (by rw [← e]; rfl)
theorem EncSt.len (h : EncSt w wr base E g N ts L k) : L.length = N := by simpa using h.own.1
theorem EncSt.cell (h : EncSt w wr base E g N ts L k) {j : Nat} (hj : j < N) : ∃ y, wr.cell? ⟨g, j, none⟩ = some y := own_cell h.own hj
theorem EncSt.store (h : EncSt w wr base E g N ts L k) {x : UInt8} (hx : ts[k]? = some x) (hk : k < N) (n : Nat) (hn : n = x.toNat) : ∃ L', EncSt w (wr.setCell ⟨g, k, none⟩ (.int .u8 (n : Int))) base E g N ts L' (k + 1) := by
  have hne := h.ne
  have hl := h.len
  subst hn
  refine ⟨L.set k x, ?_, Blk.far h.std (by simpa using Ne.symm hne) _, h.front.set1 (by omega) hx, grown_put h.grown _ _⟩
  have := own_set h.own k x.toNat x.toNat_lt
  rwa [UInt8.ofNat_toNat] at this
end

set_option maxHeartbeats 8000000 in
set_option maxRecDepth 1000000 in
theorem encode_any (E g N n c0 : Nat) (A0 : Option Addr) (zs L0 : List UInt8) (w : World) {base : Nat} (hE : StdAt w E) (hown : w.ownsRow base 5 1 (.slice (some ⟨g, 0, none⟩) N N) N (L0.map bv)) (hr : Rd w g A0 n zs)
    (hc : n ≤ c0) (hz : n ≤ 1048576) (hN : N = 4 * ((n + 2) / 3)) :
    Calls Tryf.prog 56 #[.pointer (some ⟨E, 0, none⟩), .slice (some ⟨g, 0, none⟩) N N, .slice A0 n c0] w fun e w' => e = .returned (.tuple #[]) ∧ ∃ L, EncSt w w' base E g N (BM.enc zs) L N := by
  have hzl : Hid (zs.length = n) := hide hr.len
  have hS0 : EncSt w w base E g N (BM.enc zs) L0 0 := ⟨hown, hE, Front.zero _ _, grown_same _ _⟩
  have hEe := hE
  rcases Nat.eq_zero_or_pos n with h0 | h0
  · subst h0
    have hN0 : N = 0 := by omega
    subst hN0
    replace hS0 := hide hS0
    clear hown hE hEe hr
    go_enter Tryf.func56, Tryf.ntmps56
    go_wp2
    exact bodyPost_ret (v := .tuple #[]) (by simp [results, Tryf.results56, go_sem]) rfl ⟨rfl, L0, hS0.out⟩
  have hN1 : N ≤ 4 * ((n + 2) / 3) := by omega
  have hN2 : 4 * ((n + 2) / 3) ≤ N := by omega
  clear hN
  replace hS0 := hide hS0
  replace hr := hide hr
  clear hown
  go_enter Tryf.func56, Tryf.ntmps56
  go_upto_region 1 with (fail)
  go_cut [] (fun wx => w = wx)
  case first =>
    go_wp2_with (with_reducible refine wpList_load72 rfl (.tmp 14) rfl E rfl hEe ?_; intro X)
    go_meet
    exact rfl
  case rest =>
  subst hcut
  go_wp2_with fail
  go_loopw [1, 2] (fun s1 s2 wr => ∃ (G k q o' c : Nat) (A : Option Addr) (L : List UInt8), Hid (n = 3 * G + k) ∧ 4 * G + q ≤ N ∧ N ≤ 4 * G + q ∧ Hid (q = 4 * ((k + 2) / 3)) ∧ (0 < k → o' = 4 * G) ∧ k ≤ c ∧ s1 = .slice (some ⟨g, o', none⟩) q q ∧ s2 = .slice A k c ∧ Hid (EncSt w wr base E g N (BM.enc zs) L (4 * G)) ∧ Hid (Rd wr g A k (zs.drop (3 * G)))) (fun _ s2 _ => match s2 with | .slice _ k _ => k | _ => 0)
  case atStart => exact ⟨0, n, N, 0, c0, A0, L0, hide (by omega), by omega, by omega, hide (by omega), fun _ => rfl, hc, rfl, rfl, hS0, hr⟩
  case round =>
    clear hS0 hr
    obtain ⟨G, k, q, o', c, A, L, hn, hq1, hq2, hq, ho, hkc, rfl, rfl, hS, hr⟩ := hrel
    by_cases hk3 : 3 ≤ k
    · obtain rfl := ho (by omega)
      have hqk : 4 ≤ q := by have := hq.out; omega
      have hGb : 3 * G + 3 ≤ n := by have := hn.out; omega
      have hnl : 3 * G + 3 ≤ zs.length := by rw [hzl.out]; exact hGb
      obtain ⟨b, off, rfl, hbg, hcell⟩ := hr.out.all (by omega)
      obtain ⟨x0, hx0⟩ : ∃ x, zs[3 * G]? = some x := ⟨_, List.getElem?_eq_getElem (by omega)⟩
      obtain ⟨x1, hx1⟩ : ∃ x, zs[3 * G + 1]? = some x := ⟨_, List.getElem?_eq_getElem (by omega)⟩
      obtain ⟨x2, hx2⟩ : ∃ x, zs[3 * G + 2]? = some x := ⟨_, List.getElem?_eq_getElem (by omega)⟩
      have g0 := hcell 0 x0 (by rw [List.getElem?_drop]; exact hx0)
      have g1 := hcell 1 x1 (by rw [List.getElem?_drop]; exact hx1)
      have g2 := hcell 2 x2 (by rw [List.getElem?_drop]; exact hx2)
      rw [Nat.add_zero] at g0
      obtain ⟨f0, f1, f2, f3⟩ := enc_full hx0 hx1 hx2
      have hv3 := v3_or x0 x1 x2
      have hVl := BM.v3_lt x0 x1 x2
      obtain ⟨V, hV⟩ : ∃ V, V = BM.v3 x0 x1 x2 := ⟨_, rfl⟩
      rw [← hV] at f0 f1 f2 f3 hv3 hVl
      obtain ⟨t0, t1, t2, t3, -⟩ := BM.digits_val hVl
      have a0 : Go.bits .and .u64 ((V : Int) / 262144) 63 = _ := digit_and V 262144 hVl
      have a1 : Go.bits .and .u64 ((V : Int) / 4096) 63 = _ := digit_and V 4096 hVl
      have a2 : Go.bits .and .u64 ((V : Int) / 64) 63 = _ := digit_and V 64 hVl
      have a3 := and63 V (by omega)
      rw [show V / 262144 % 64 = V / 262144 by omega] at a0
      generalize V / 262144 = d0 at t0 f0 a0
      generalize V / 4096 % 64 = d1 at t1 f1 a1
      generalize V / 64 % 64 = d2 at t2 f2 a2
      generalize V % 64 = d3 at t3 f3 a3
      obtain ⟨c0', ha0⟩ : ∃ c', c' = (BM.al d0).toNat := ⟨_, rfl⟩
      obtain ⟨c1', ha1⟩ : ∃ c', c' = (BM.al d1).toNat := ⟨_, rfl⟩
      obtain ⟨c2', ha2⟩ : ∃ c', c' = (BM.al d2).toNat := ⟨_, rfl⟩
      obtain ⟨c3', ha3⟩ : ∃ c', c' = (BM.al d3).toNat := ⟨_, rfl⟩
      replace f0 := hide f0
      replace f1 := hide f1
      replace f2 := hide f2
      replace f3 := hide f3
      replace ha0 := hide ha0
      replace ha1 := hide ha1
      replace ha2 := hide ha2
      replace ha3 := hide ha3
      clear hcell hx0 hx1 hx2 hV ho hEe hE
      go_upto_region 3 with (fail)
      go_cut [6] (fun s6 wx => s6 = .int .u64 (V : Int) ∧ ∃ q, wx = wr.drewN q)
      case first =>
        clear a0 a1 a2 a3
        have y0 := x0.toNat_lt
        have y1 := x1.toNat_lt
        have y2 := x2.toNat_lt
        have e0 := wrap64n x0.toNat (by omega)
        have e1 := wrap64n x1.toNat (by omega)
        have e2 := wrap64n x2.toNat (by omega)
        have e3 : IntKind.u64.wrap ((x0.toNat : Int) * 65536) = (x0.toNat : Int) * 65536 := wrap64n (x0.toNat * 65536) (by omega)
        have e4 : IntKind.u64.wrap ((x1.toNat : Int) * 256) = (x1.toNat : Int) * 256 := wrap64n (x1.toNat * 256) (by omega)
        clear y0 y1 y2
        go_quiet (fail)
        go_wp2
        go_meet
        exact ⟨rfl, _, rfl⟩
      case rest =>
        obtain ⟨rfl, qn, rfl⟩ := hcut
        clear hv3 g0 g1 g2 hnl
        replace hS := hide (hS.out.drewN qn)
        replace hr := hide (hr.out.drewN qn)
        generalize wr.drewN qn = wr0 at *
        obtain ⟨yd, hyd⟩ := hS.out.cell (show 4 * G + 3 < N by omega)
        go_upto_region 5 with (fail)
        clear hyd
        -- dst[0]
        obtain ⟨y, hy⟩ := hS.out.cell (show 4 * G < N by omega)
        have hf := hS.out.own.frozenAt (4 * G)
        have me := std_enc hS.out.std t0
        rw [← ha0.out] at me
        have hix := idx72 E d0 t0
        obtain ⟨L0, hS1⟩ : ∃ L', EncSt w (wr0.setCell ⟨g, 4 * G, none⟩ (.int .u8 (c0' : Int))) base E g N (BM.enc zs) L' (4 * G + 1) := hS.out.store f0.out (by omega) c0' ha0.out
        have hr1 := hr.out.setCell (p := ⟨g, 4 * G, none⟩) (Nat.le_refl _) (.int .u8 (c0' : Int))
        replace hS1 := hide hS1
        replace hr1 := hide hr1
        clear hS hr
        go_upto_region 6 with (fail)
        generalize wr0.setCell ⟨g, 4 * G, none⟩ (.int .u8 (c0' : Int)) = wr1 at *
        have hS := hS1
        have hr := hr1
        clear hy hf me hix hS1 hr1
        -- dst[1]
        obtain ⟨y, hy⟩ := hS.out.cell (show 4 * G + 1 < N by omega)
        have hf := hS.out.own.frozenAt (4 * G + 1)
        have me := std_enc hS.out.std t1
        rw [← ha1.out] at me
        have hix := idx72 E d1 t1
        obtain ⟨L1, hS1⟩ : ∃ L', EncSt w (wr1.setCell ⟨g, 4 * G + 1, none⟩ (.int .u8 (c1' : Int))) base E g N (BM.enc zs) L' (4 * G + 2) := hS.out.store f1.out (by omega) c1' ha1.out
        have hr1 := hr.out.setCell (p := ⟨g, 4 * G + 1, none⟩) (Nat.le_refl _) (.int .u8 (c1' : Int))
        replace hS1 := hide hS1
        replace hr1 := hide hr1
        clear hS hr
        go_upto_region 7 with (fail)
        generalize wr1.setCell ⟨g, 4 * G + 1, none⟩ (.int .u8 (c1' : Int)) = wr2 at *
        have hS := hS1
        have hr := hr1
        clear hy hf me hix hS1 hr1
        -- dst[2]
        obtain ⟨y, hy⟩ := hS.out.cell (show 4 * G + 2 < N by omega)
        have hf := hS.out.own.frozenAt (4 * G + 2)
        have me := std_enc hS.out.std t2
        rw [← ha2.out] at me
        have hix := idx72 E d2 t2
        obtain ⟨L2, hS1⟩ : ∃ L', EncSt w (wr2.setCell ⟨g, 4 * G + 2, none⟩ (.int .u8 (c2' : Int))) base E g N (BM.enc zs) L' (4 * G + 3) := hS.out.store f2.out (by omega) c2' ha2.out
        have hr1 := hr.out.setCell (p := ⟨g, 4 * G + 2, none⟩) (Nat.le_refl _) (.int .u8 (c2' : Int))
        replace hS1 := hide hS1
        replace hr1 := hide hr1
        clear hS hr
        go_upto_region 8 with (fail)
        generalize wr2.setCell ⟨g, 4 * G + 2, none⟩ (.int .u8 (c2' : Int)) = wr3 at *
        have hS := hS1
        have hr := hr1
        clear hy hf me hix hS1 hr1
        -- dst[3]
        obtain ⟨y, hy⟩ := hS.out.cell (show 4 * G + 3 < N by omega)
        have hf := hS.out.own.frozenAt (4 * G + 3)
        have me := std_enc hS.out.std t3
        rw [← ha3.out] at me
        have hix := idx72 E d3 t3
        obtain ⟨L3, hS1⟩ : ∃ L', EncSt w (wr3.setCell ⟨g, 4 * G + 3, none⟩ (.int .u8 (c3' : Int))) base E g N (BM.enc zs) L' (4 * G + 4) := hS.out.store f3.out (by omega) c3' ha3.out
        have hr1 := hr.out.setCell (p := ⟨g, 4 * G + 3, none⟩) (Nat.le_refl _) (.int .u8 (c3' : Int))
        replace hS1 := hide hS1
        replace hr1 := hide hr1
        clear hS hr
        go_upto_region 9 with (fail)
        generalize wr3.setCell ⟨g, 4 * G + 3, none⟩ (.int .u8 (c3' : Int)) = wr4 at *
        have hS := hS1
        have hr := hr1
        clear hy hf me hix hS1 hr1
        clear a0 a1 a2 a3 f0 f1 f2 f3 ha0 ha1 ha2 ha3
        have hR := hr.out.from_ hk3 hkc
        rw [List.drop_drop, show 3 * G + 3 = 3 * (G + 1) by omega] at hR
        replace hS : Hid (EncSt w wr4 base E g N (BM.enc zs) L3 (4 * (G + 1))) := hS
        have hn' : Hid (n = 3 * (G + 1) + (k - 3)) := hide (by have := hn.out; omega)
        have hq' : Hid (q - 4 = 4 * ((k - 3 + 2) / 3)) := hide (by have := hq.out; omega)
        clear hr
        by_cases hk : k = 3
        · subst hk
          obtain rfl : q = 4 := by have := hq.out; omega
          by_cases hc3 : c = 3
          · rw [if_pos hc3] at hR
            subst hc3
            replace hR := hide hR
            go_wp2
            go_roundw
            case rel => exact ⟨G + 1, 0, 0, 4 * G, 0, _, L3, hn', by omega, by omega, hq', fun h => absurd h (by omega), by omega, rfl, rfl, hS, hR⟩
            case measure => simp
          · rw [if_neg hc3] at hR
            simp only [Option.map_some, addr_add0] at hR
            have hc4 : 3 < c := by omega
            clear hc3
            replace hR := hide hR
            go_wp2
            go_roundw
            case rel => exact ⟨G + 1, 0, 0, 4 * G, c - 3, _, L3, hn', by omega, by omega, hq', fun h => absurd h (by omega), by omega, rfl, rfl, hS, hR⟩
            case measure => simp
        · have hk4 : 3 < k := by omega
          have hc4 : 3 < c := by omega
          have hq4 : 4 < q := by have := hq.out; omega
          rw [if_neg (by omega)] at hR
          simp only [Option.map_some, addr_add0] at hR
          clear hk
          replace hR := hide hR
          go_wp2
          go_roundw
          case rel => exact ⟨G + 1, k - 3, q - 4, 4 * G + 4, c - 3, _, L3, hn', by omega, by omega, hq', fun _ => by omega, by omega, rfl, rfl, hS, hR⟩
          case measure => simp; omega
    · rcases (by omega : k = 0 ∨ k = 1 ∨ k = 2) with rfl | rfl | rfl
      · obtain rfl : q = 0 := by have := hq.out; omega
        have hS' : Hid (EncSt w wr base E g N (BM.enc zs) L N) := hide (by rw [show N = 4 * G by omega] at hS ⊢; exact hS.out)
        clear hS hr
        go_wp2
        exact bodyPost_ret (v := .tuple #[]) (by simp [results, Tryf.results56, go_sem]) rfl ⟨rfl, L, hS'.out⟩
      · obtain rfl := ho (by omega)
        obtain rfl : q = 4 := by have := hq.out; omega
        have hnl : Hid (zs.length = 3 * G + 1) := hide (by rw [hzl.out]; exact hn.out)
        obtain ⟨b, off, rfl, hbg, hcell⟩ := hr.out.all (by omega)
        obtain ⟨x0, hx0⟩ : ∃ x, zs[3 * G]? = some x := ⟨_, List.getElem?_eq_getElem (by have := hnl.out; omega)⟩
        have g0 := hcell 0 x0 (by rw [List.getElem?_drop]; exact hx0)
        rw [Nat.add_zero] at g0
        obtain ⟨f0, f1, f2, f3⟩ := enc_pad2 hx0 hnl.out
        have hVl := BM.v3_lt x0 0 0
        obtain ⟨V, hV⟩ : ∃ V, V = BM.v3 x0 0 0 := ⟨_, rfl⟩
        have hVx : (x0.toNat : Int) * 65536 = (V : Int) := by rw [hV]; unfold BM.v3; simp
        rw [← hV] at f0 f1 hVl
        obtain ⟨t0, t1, t2, t3, -⟩ := BM.digits_val hVl
        have a0 : Go.bits .and .u64 ((V : Int) / 262144) 63 = _ := digit_and V 262144 hVl
        have a1 : Go.bits .and .u64 ((V : Int) / 4096) 63 = _ := digit_and V 4096 hVl
        rw [show V / 262144 % 64 = V / 262144 by omega] at a0
        generalize V / 262144 = d0 at t0 f0 a0
        generalize V / 4096 % 64 = d1 at t1 f1 a1
        obtain ⟨c0', ha0⟩ : ∃ c', c' = (BM.al d0).toNat := ⟨_, rfl⟩
        obtain ⟨c1', ha1⟩ : ∃ c', c' = (BM.al d1).toNat := ⟨_, rfl⟩
        replace f0 := hide f0
        replace f1 := hide f1
        replace f2 := hide f2
        replace f3 := hide f3
        replace ha0 := hide ha0
        replace ha1 := hide ha1
        clear hcell hx0 hV ho hEe hE t2 t3
        go_upto_region 14 with (fail)
        go_cut [7] (fun s7 wx => s7 = .int .u64 (V : Int) ∧ wr = wx)
        case first =>
          clear a0 a1
          have y0 := x0.toNat_lt
          go_wp2
          go_meet
          exact ⟨by rw [← hVx], rfl⟩
        case rest =>
          obtain ⟨rfl, rfl⟩ := hcut
          clear hVx g0
          go_upto_region 15 with (fail)
          generalize hw0 : wr = wr0 at *
          clear hw0
          -- dst[0]
          obtain ⟨y, hy⟩ := hS.out.cell (show 4 * G < N by omega)
          have hf := hS.out.own.frozenAt (4 * G)
          have me := std_enc hS.out.std t0
          rw [← ha0.out] at me
          have hix := idx72 E d0 t0
          obtain ⟨L0, hS1⟩ : ∃ L', EncSt w (wr0.setCell ⟨g, 4 * G, none⟩ (.int .u8 (c0' : Int))) base E g N (BM.enc zs) L' (4 * G + 1) := hS.out.store f0.out (by omega) c0' ha0.out
          have hr1 := hr.out.setCell (p := ⟨g, 4 * G, none⟩) (Nat.le_refl _) (.int .u8 (c0' : Int))
          replace hS1 := hide hS1
          replace hr1 := hide hr1
          clear hS hr
          go_upto_region 16 with (fail)
          generalize wr0.setCell ⟨g, 4 * G, none⟩ (.int .u8 (c0' : Int)) = wr1 at *
          have hS := hS1
          have hr := hr1
          clear hy hf me hix hS1 hr1
          -- dst[1]
          obtain ⟨y, hy⟩ := hS.out.cell (show 4 * G + 1 < N by omega)
          have hf := hS.out.own.frozenAt (4 * G + 1)
          have me := std_enc hS.out.std t1
          rw [← ha1.out] at me
          have hix := idx72 E d1 t1
          obtain ⟨L1, hS1⟩ : ∃ L', EncSt w (wr1.setCell ⟨g, 4 * G + 1, none⟩ (.int .u8 (c1' : Int))) base E g N (BM.enc zs) L' (4 * G + 2) := hS.out.store f1.out (by omega) c1' ha1.out
          have hr1 := hr.out.setCell (p := ⟨g, 4 * G + 1, none⟩) (Nat.le_refl _) (.int .u8 (c1' : Int))
          replace hS1 := hide hS1
          replace hr1 := hide hr1
          clear hS hr
          go_upto_region 17 with (fail)
          generalize wr1.setCell ⟨g, 4 * G + 1, none⟩ (.int .u8 (c1' : Int)) = wr2 at *
          have hS := hS1
          have hr := hr1
          clear hy hf me hix hS1 hr1
          -- dst[2], the padding
          obtain ⟨y, hy⟩ := hS.out.cell (show 4 * G + 2 < N by omega)
          have hf := hS.out.own.frozenAt (4 * G + 2)
          have me := std_padChar hS.out.std
          obtain ⟨L2, hS1⟩ : ∃ L', EncSt w (wr2.setCell ⟨g, 4 * G + 2, none⟩ (.int .u8 61)) base E g N (BM.enc zs) L' (4 * G + 3) := hS.out.store f2.out (by omega) 61 rfl
          replace hS1 := hide hS1
          clear hS hr
          go_upto_region 19 with (fail)
          generalize wr2.setCell ⟨g, 4 * G + 2, none⟩ (.int .u8 61) = wr3 at *
          have hS := hS1
          have hr := True.intro
          clear hy hf me hS1
          -- dst[3], the padding
          obtain ⟨y, hy⟩ := hS.out.cell (show 4 * G + 3 < N by omega)
          have hf := hS.out.own.frozenAt (4 * G + 3)
          have me := std_padChar hS.out.std
          obtain ⟨L3, hS1⟩ : ∃ L', EncSt w (wr3.setCell ⟨g, 4 * G + 3, none⟩ (.int .u8 61)) base E g N (BM.enc zs) L' (4 * G + 4) := hS.out.store f3.out (by omega) 61 rfl
          replace hS1 := hide hS1
          clear hS hr
          go_wp2
          generalize wr3.setCell ⟨g, 4 * G + 3, none⟩ (.int .u8 61) = wr4 at *
          have hS := hS1
          have hr := True.intro
          clear hy hf me hS1
          go_wp2
          go_end0
          exact ⟨rfl, L3, by rw [show N = 4 * G + 4 by omega] at hS ⊢; exact hS.out⟩
      · obtain rfl := ho (by omega)
        obtain rfl : q = 4 := by have := hq.out; omega
        have hnl : Hid (zs.length = 3 * G + 2) := hide (by rw [hzl.out]; exact hn.out)
        obtain ⟨b, off, rfl, hbg, hcell⟩ := hr.out.all (by omega)
        obtain ⟨x0, hx0⟩ : ∃ x, zs[3 * G]? = some x := ⟨_, List.getElem?_eq_getElem (by have := hnl.out; omega)⟩
        obtain ⟨x1, hx1⟩ : ∃ x, zs[3 * G + 1]? = some x := ⟨_, List.getElem?_eq_getElem (by have := hnl.out; omega)⟩
        have g0 := hcell 0 x0 (by rw [List.getElem?_drop]; exact hx0)
        have g1 := hcell 1 x1 (by rw [List.getElem?_drop]; exact hx1)
        rw [Nat.add_zero] at g0
        obtain ⟨f0, f1, f2, f3⟩ := enc_pad1 hx0 hx1 hnl.out
        have hv2 := v2_or x0 x1
        have hVl := BM.v3_lt x0 x1 0
        obtain ⟨V, hV⟩ : ∃ V, V = BM.v3 x0 x1 0 := ⟨_, rfl⟩
        rw [← hV] at f0 f1 f2 hv2 hVl
        obtain ⟨t0, t1, t2, t3, -⟩ := BM.digits_val hVl
        have a0 : Go.bits .and .u64 ((V : Int) / 262144) 63 = _ := digit_and V 262144 hVl
        have a1 : Go.bits .and .u64 ((V : Int) / 4096) 63 = _ := digit_and V 4096 hVl
        have a2 : Go.bits .and .u64 ((V : Int) / 64) 63 = _ := digit_and V 64 hVl
        rw [show V / 262144 % 64 = V / 262144 by omega] at a0
        generalize V / 262144 = d0 at t0 f0 a0
        generalize V / 4096 % 64 = d1 at t1 f1 a1
        generalize V / 64 % 64 = d2 at t2 f2 a2
        obtain ⟨c0', ha0⟩ : ∃ c', c' = (BM.al d0).toNat := ⟨_, rfl⟩
        obtain ⟨c1', ha1⟩ : ∃ c', c' = (BM.al d1).toNat := ⟨_, rfl⟩
        obtain ⟨c2', ha2⟩ : ∃ c', c' = (BM.al d2).toNat := ⟨_, rfl⟩
        replace f0 := hide f0
        replace f1 := hide f1
        replace f2 := hide f2
        replace f3 := hide f3
        replace ha0 := hide ha0
        replace ha1 := hide ha1
        replace ha2 := hide ha2
        clear hcell hx0 hx1 hV ho hEe hE t3
        go_upto_region 21 with (fail)
        go_cut [8] (fun s8 wx => s8 = .int .u64 (V : Int) ∧ ∃ q, wx = wr.drewN q)
        case first =>
          clear a0 a1 a2
          have y0 := x0.toNat_lt
          have y1 := x1.toNat_lt
          have e0 := wrap64n x0.toNat (by omega)
          have e1 := wrap64n x1.toNat (by omega)
          have e3 : IntKind.u64.wrap ((x0.toNat : Int) * 65536) = (x0.toNat : Int) * 65536 := wrap64n (x0.toNat * 65536) (by omega)
          have e4 : IntKind.u64.wrap ((x1.toNat : Int) * 256) = (x1.toNat : Int) * 256 := wrap64n (x1.toNat * 256) (by omega)
          clear y0 y1
          go_quiet (fail)
          go_wp2
          go_meet
          exact ⟨rfl, _, rfl⟩
        case rest =>
          obtain ⟨rfl, qn, rfl⟩ := hcut
          clear hv2 g0 g1
          replace hS := hide (hS.out.drewN qn)
          replace hr := hide (hr.out.drewN qn)
          go_upto_region 22 with (fail)
          generalize wr.drewN qn = wr0 at *
          -- dst[0]
          obtain ⟨y, hy⟩ := hS.out.cell (show 4 * G < N by omega)
          have hf := hS.out.own.frozenAt (4 * G)
          have me := std_enc hS.out.std t0
          rw [← ha0.out] at me
          have hix := idx72 E d0 t0
          obtain ⟨L0, hS1⟩ : ∃ L', EncSt w (wr0.setCell ⟨g, 4 * G, none⟩ (.int .u8 (c0' : Int))) base E g N (BM.enc zs) L' (4 * G + 1) := hS.out.store f0.out (by omega) c0' ha0.out
          have hr1 := hr.out.setCell (p := ⟨g, 4 * G, none⟩) (Nat.le_refl _) (.int .u8 (c0' : Int))
          replace hS1 := hide hS1
          replace hr1 := hide hr1
          clear hS hr
          go_upto_region 23 with (fail)
          generalize wr0.setCell ⟨g, 4 * G, none⟩ (.int .u8 (c0' : Int)) = wr1 at *
          have hS := hS1
          have hr := hr1
          clear hy hf me hix hS1 hr1
          -- dst[1]
          obtain ⟨y, hy⟩ := hS.out.cell (show 4 * G + 1 < N by omega)
          have hf := hS.out.own.frozenAt (4 * G + 1)
          have me := std_enc hS.out.std t1
          rw [← ha1.out] at me
          have hix := idx72 E d1 t1
          obtain ⟨L1, hS1⟩ : ∃ L', EncSt w (wr1.setCell ⟨g, 4 * G + 1, none⟩ (.int .u8 (c1' : Int))) base E g N (BM.enc zs) L' (4 * G + 2) := hS.out.store f1.out (by omega) c1' ha1.out
          have hr1 := hr.out.setCell (p := ⟨g, 4 * G + 1, none⟩) (Nat.le_refl _) (.int .u8 (c1' : Int))
          replace hS1 := hide hS1
          replace hr1 := hide hr1
          clear hS hr
          go_upto_region 24 with (fail)
          generalize wr1.setCell ⟨g, 4 * G + 1, none⟩ (.int .u8 (c1' : Int)) = wr2 at *
          have hS := hS1
          have hr := hr1
          clear hy hf me hix hS1 hr1
          -- dst[2]
          obtain ⟨y, hy⟩ := hS.out.cell (show 4 * G + 2 < N by omega)
          have hf := hS.out.own.frozenAt (4 * G + 2)
          have me := std_enc hS.out.std t2
          rw [← ha2.out] at me
          have hix := idx72 E d2 t2
          obtain ⟨L2, hS1⟩ : ∃ L', EncSt w (wr2.setCell ⟨g, 4 * G + 2, none⟩ (.int .u8 (c2' : Int))) base E g N (BM.enc zs) L' (4 * G + 3) := hS.out.store f2.out (by omega) c2' ha2.out
          have hr1 := hr.out.setCell (p := ⟨g, 4 * G + 2, none⟩) (Nat.le_refl _) (.int .u8 (c2' : Int))
          replace hS1 := hide hS1
          replace hr1 := hide hr1
          clear hS hr
          go_upto_region 25 with (fail)
          generalize wr2.setCell ⟨g, 4 * G + 2, none⟩ (.int .u8 (c2' : Int)) = wr3 at *
          have hS := hS1
          have hr := hr1
          clear hy hf me hix hS1 hr1
          -- dst[3], the padding
          obtain ⟨y, hy⟩ := hS.out.cell (show 4 * G + 3 < N by omega)
          have hf := hS.out.own.frozenAt (4 * G + 3)
          have me := std_padChar hS.out.std
          obtain ⟨L3, hS1⟩ : ∃ L', EncSt w (wr3.setCell ⟨g, 4 * G + 3, none⟩ (.int .u8 61)) base E g N (BM.enc zs) L' (4 * G + 4) := hS.out.store f3.out (by omega) 61 rfl
          replace hS1 := hide hS1
          clear hS hr
          go_wp2
          generalize wr3.setCell ⟨g, 4 * G + 3, none⟩ (.int .u8 61) = wr4 at *
          have hS := hS1
          have hr := True.intro
          clear hy hf me hS1
          go_wp2
          go_end0
          exact ⟨rfl, L3, by rw [show N = 4 * G + 4 by omega] at hS ⊢; exact hS.out⟩

set_option maxHeartbeats 1600000 in
set_option maxRecDepth 100000 in
theorem encodeToString_any (E n c : Nat) (A : Option Addr) (zs : List UInt8) (w : World) (hE : StdAt w E) (hr : Rd w w.heap.size A n zs) (hc : n ≤ c) (hz : n ≤ 1048576) :
    Calls Tryf.prog 32 #[.pointer (some ⟨E, 0, none⟩), .slice A n c] w fun e w' => e = .returned (.string (ofBytes (BM.enc zs))) ∧ Below w.heap.size w w' := by
  obtain ⟨N, hN⟩ : ∃ N, N = 4 * ((n + 2) / 3) := ⟨_, rfl⟩
  have hNb : N ≤ 1398104 := by omega
  have hN2 : (n + 2) / 3 * 4 = N := by omega
  replace hN := hide hN
  replace hN2 := hide hN2
  replace hE := hide hE
  replace hr := hide hr
  go_enter Tryf.func32, Tryf.ntmps32
  go_wp2_with fail
  refine (encodedLen_any E n w hE.out (by omega)).mono ?_
  rintro e w' ⟨rfl, rfl⟩
  rw [hN2.out]
  go_wp2_with (at_make; refine wpList_mk (c := N) E39 rfl _ rfl w.heap.size N rfl rfl ?c4 (by decide) (Nat.le_refl _) ?_)
  case c4 => omega
  intro w1 hown0 hg hsz
  have hown : w1.ownsRow w.heap.size 5 1 (.slice (some ⟨w.heap.size, 0, none⟩) N N) N ((List.replicate N (0 : UInt8)).map bv) := by
    rw [← made_bytes, Nat.mul_one]
    exact hown0
  clear hown0
  have hE1 : StdAt w1 E := Blk.grown hE.out hg (by simp)
  have hr1 : Rd w1 w.heap.size A n zs := hr.out.grown hg (Nat.le_refl _) (by intro k hk; cases hk)
  have hb1 : Hid (Below w.heap.size w w1) := hide ((Below.refl _ _).grown hg (Nat.le_refl _) (by intro k hk; cases hk))
  have hC := encode_any E w.heap.size N n c A zs _ w1 hE1 hown hr1 hc hz hN.out
  replace hC := hide hC
  clear hown hg hE1 hr1
  go_wp2_with fail
  refine hC.out.mono ?_
  rintro e w2 ⟨rfl, L, hS⟩
  have hl := hS.len
  have he : (BM.enc zs).length = N := by rw [BM.enc_length, hr.out.len, hN.out]
  have hL : L = BM.enc zs := by
    have hF := hS.front
    rw [← he] at hF
    have ht := hF.take
    rw [List.take_of_length_le (by omega)] at ht
    exact ht
  have hrd := Rd.of_own hS.own
  rw [hL] at hrd
  have hst := hrd.string 39 5 9 N Tryf.underlying39 Tryf.underlying5 Tryf.underlying9
  have hb2 : Hid (Below w.heap.size w w2) := hide (hb1.out.grown hS.grown (by omega) (by intro k hk; cases hk; exact Nat.le_refl _))
  clear hS hl he hL hrd hb1 hC
  go_wp2
  go_ret
  exact ⟨rfl, hb2.out⟩
end Go.Proofs.YtfimnjdfchdldaaFmt
