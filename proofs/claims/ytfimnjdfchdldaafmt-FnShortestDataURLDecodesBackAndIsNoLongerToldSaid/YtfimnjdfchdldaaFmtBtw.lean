/-
  The walk of the model's base64 of the other package. Conditions: sizes.
-/
import Derived.Test.YtfimnjdfchdldaaFmtEnc
import Derived.Test.YtfimnjdfchdldaaFmtAsm
import Derived.Deep.RegionLaw
import Derived.Outline
namespace Go.Proofs.YtfimnjdfchdldaaFmt
open Go.RowKit

section
variable {P : Program} {t e : TypeId} {z : Value} {size bytes : Nat} {ops : Array Oper} {o : Oper} {a : Act} {Q : Exit → Act → World → Prop}
/-- append of m elements that lie in the block made last, in a region that draws its order -/
theorem step_pushN (E : ElemT P t e z size bytes) {w0 : World} {K : Act → World → Prop} {E' : Prop} (hgd : o.guard = none) (s x : Operand)
    (ho : o.op = .call { callee := .builtin .append, args := #[s, x], argTypes := #[t, t] }) (m : Nat)
    {base : Nat} {v : Value} {n : Nat} {xs : List Value} (hown : w0.ownsRow base e size v n xs) (hs : a.eval s = v) (cs : Array Value)
    (hx : a.eval x = .slice (some ⟨w0.heap.size, 0, none⟩) m m) (hc : cs.size = m * size) (h1 : ∀ u ∈ cs.toList, u.oneCell' = true)
    (hn : n + m < 4294967296) (hm : 0 < m) (hby : bytes ≤ 4096) (hbase : base ≤ w0.heap.size)
    (h : ∀ g cap w', w'.ownsRow base e size (.slice (some ⟨g, 0, none⟩) (n + m) cap) (n + m) (xs ++ cs.toList) → w0.grownBy w' v.ownBlock → K (a.put o.dst (.slice (some ⟨g, 0, none⟩) (n + m) cap)) w') :
    if Region.wanted o (yielded ops a.tmps) = true then Oper.wp P o a (w0.alloc (.cells cs e)) K Q else E' := by
  obtain ⟨i0, hi, hz0, hz1, hz2⟩ := info_parts E.info
  have hw : Region.wanted o (yielded ops a.tmps) = true := by simp [Region.wanted, hgd]
  rw [if_pos hw]
  have h2 : (n + m) * bytes ≤ 4294967296 * 4096 := Nat.mul_le_mul (by omega) hby
  obtain ⟨v', w', hrun, r1, r2, _⟩ := run_append_own (P := P) (w0.alloc (.cells cs e)) base t o.type e i0 z size bytes E.under hi hz0 hz1 hz2 E.zsz E.pos v n xs (hown.alloc _) ⟨w0.heap.size, 0, none⟩ m m cs.toList (by simpa using hc) (by
    intro j u hu
    rw [addr_add0, World.cell?_alloc_at _ _ _ _ rfl]
    simpa using hu) h1 (by unfold maxLen; omega) (by omega) (by simp; omega)
  obtain ⟨g, cap, rfl⟩ : ∃ g cap, v' = .slice (some ⟨g, 0, none⟩) (n + m) cap := by
    rcases r1.2 with ⟨_, h⟩ | ⟨g, cap, _, h, _⟩
    · omega
    · exact ⟨g, cap, h⟩
  unfold Oper.wp
  simp [execOp, ho, resolve, invoke, builtin, hs, hx, hrun, Result.andThen]
  exact h g cap w' r1 ⟨r2.os, r2.tape, r2.output, Nat.le_trans (by simp) r2.size, fun k hk hne => (r2.block k (by simp; omega) hne).trans (Below.heap_alloc _ _ _ hk)⟩
end

theorem idx32 (d : Nat) (hd : d < 64) (w : World) : (Instr.index 9 (.string ⟨#[65, 66, 67, 68, 69, 70, 71, 72, 73, 74, 75, 76, 77, 78, 79, 80, 81, 82, 83, 84, 85, 86, 87, 88, 89, 90, 97, 98, 99, 100, 101, 102, 103, 104, 105, 106, 107, 108, 109, 110, 111, 112, 113, 114, 115, 116, 117, 118, 119, 120, 121, 122, 48, 49, 50, 51, 52, 53, 54, 55, 56, 57, 43, 47]⟩) (.int .u32 d)).run Tryf.prog w = .ok (.int .u8 ((BM.al d).toNat : Int)) w := by
  have hk : (0 : Int) ≤ (d : Int) ∧ (d : Int) < ((alphaB.size : Nat) : Int) := ⟨by omega, by show (d : Int) < 64; omega⟩
  have h := run_index_string (P := Tryf.prog) (w := w) 9 alphaB .u32 d Tryf.underlying9
  rw [dif_pos hk] at h
  refine h.trans ?_
  simp only [Int.toNat_natCast]
  rw [alpha_at d hd]
theorem and63u (a : Nat) (ha : a < 4294967296) : Go.bits .and .u32 (a : Int) 63 = ((a % 64 : Nat) : Int) := by
  have e : (63 : Int) = ((63 : Nat) : Int) := rfl
  rw [e, Go.u32_and_nat a 63 (by omega) (by omega)]
  have := Nat.and_two_pow_sub_one_eq_mod a 6
  simp only [Nat.reducePow, Nat.reduceSub] at this
  rw [this]
theorem v2_or32 (a b : UInt8) : Go.bits .or .u32 ((a.toNat : Int) * 65536) ((b.toNat : Int) * 256) = (BM.v3 a b 0 : Int) := by
  have ha := a.toNat_lt
  have hb := b.toNat_lt
  have h := or_add32 a.toNat (b.toNat * 256) 65536 16 rfl (by omega) (by omega) (by omega)
  unfold BM.v3
  refine Eq.trans ?_ (h.trans ?_)
  · congr 1
  · simp
theorem v3_or32 (a b c : UInt8) : Go.bits .or .u32 (Go.bits .or .u32 ((a.toNat : Int) * 65536) ((b.toNat : Int) * 256)) (c.toNat : Int) = (BM.v3 a b c : Int) := by
  have ha := a.toNat_lt
  have hb := b.toNat_lt
  have hc := c.toNat_lt
  rw [v2_or32]
  have h := or_add32 (a.toNat * 256 + b.toNat) c.toNat 256 8 rfl (by omega) (by omega) (by omega)
  unfold BM.v3
  rw [show a.toNat * 65536 + b.toNat * 256 + (0 : UInt8).toNat = (a.toNat * 256 + b.toNat) * 256 by simp; omega, h]
  omega
theorem own_nil (w : World) (base : Nat) : w.ownsRow base 5 1 (.slice none 0 0) ([] : List UInt8).length (([] : List UInt8).map bv) := ⟨rfl, .inl ⟨rfl, rfl⟩⟩
theorem own_pushN {w : World} {base : Nat} {v : Value} {L ds : List UInt8} {m : Nat} {cs : Array Value} (h : w.ownsRow base 5 1 v (L.length + m) (L.map bv ++ cs.toList)) (hc : cs.toList = ds.map bv) (hm : ds.length = m) : w.ownsRow base 5 1 v (L ++ ds).length ((L ++ ds).map bv) := by
  rw [List.length_append, hm, List.map_append, ← hc]
  exact h
theorem cells_one {cs : Array Value} {ds : List UInt8} (h : cs.toList = ds.map bv) : ∀ u ∈ cs.toList, u.oneCell' = true := by
  rw [h]
  intro u hu
  obtain ⟨_, _, rfl⟩ := List.mem_map.1 hu
  rfl

set_option maxHeartbeats 8000000 in
set_option maxRecDepth 1000000 in
theorem base64b_any (s : ByteArray) (w : World) (hs : s.size ≤ 1048576) :
    Calls Tryf.prog 14 #[.string s] w fun e w' => e = .returned (.string (ofBytes (BM.enc s.data.toList))) ∧ Below w.heap.size w w' := by
  obtain ⟨zs, hz⟩ : ∃ zs, zs = s.data.toList := ⟨_, rfl⟩
  have hzl : Hid (zs.length = s.size) := hide (by rw [hz, ba_len])
  rw [← hz]
  replace hz := hide hz
  go_enter Tryf.func14, Tryf.ntmps14
  go_wp2_with fail
  go_loopw [3, 4] (fun v i wr => ∃ (k : Nat) (L : List UInt8), k ≤ s.size ∧ i = .int .i64 k ∧ wr.ownsRow w.heap.size 5 1 v L.length (L.map bv) ∧ Hid (L ++ BM.enc (zs.drop k) = BM.enc zs) ∧ Hid (Below w.heap.size w wr)) (fun _ i _ => s.size - (intOf i).toNat)
  case atStart => exact ⟨0, [], by omega, rfl, own_nil _ _, hide rfl, hide (Below.refl _ _)⟩
  case round =>
    obtain ⟨k, L, hk, rfl, hown, hLz, hb⟩ := hrel
    have hbs := hb.out.size
    have hLl : L.length ≤ 1398104 := by
      have h1 := congrArg List.length hLz.out
      rw [List.length_append, BM.enc_length zs, hzl.out] at h1
      omega
    by_cases hkl : k + 3 ≤ s.size
    · have hx0 := ba_get s k (by omega)
      have hx1 := ba_get s (k + 1) (by omega)
      have hx2 := ba_get s (k + 2) (by omega)
      rw [← hz.out] at hx0 hx1 hx2
      have i0 := idx_at s k k rfl (by omega)
      have i1 := idx_at s (k + 1) ((k : Int) + 1) (by omega) (by omega)
      have i2 := idx_at s (k + 2) ((k : Int) + 2) (by omega) (by omega)
      generalize s[k] = x0 at hx0 i0
      generalize s[k + 1] = x1 at hx1 i1
      generalize s[k + 2] = x2 at hx2 i2
      have hnx := BM.enc_more hx0 hx1 hx2
      have hv3 := v3_or32 x0 x1 x2
      have hV := BM.v3_lt x0 x1 x2
      obtain ⟨V, hVe⟩ : ∃ V, V = BM.v3 x0 x1 x2 := ⟨_, rfl⟩
      rw [← hVe] at hnx hv3 hV
      replace hnx := hide hnx
      clear hx0 hx1 hx2 hVe
      go_upto_region 4 with (fail)
      go_cut [5] (fun s5 wx => s5 = .int .u32 (V : Int) ∧ ∃ q, wx = wr.drewN q)
      case first =>
        have w1 : IntKind.i64.wrap ((k : Int) + 1) = (k : Int) + 1 := IntWalk.i64_in _ (by omega)
        have w2 : IntKind.i64.wrap ((k : Int) + 2) = (k : Int) + 2 := IntWalk.i64_in _ (by omega)
        have y0 := x0.toNat_lt
        have y1 := x1.toNat_lt
        have y2 := x2.toNat_lt
        have u0 : IntKind.u32.wrap (x0.toNat : Int) = (x0.toNat : Int) := IntWalk.u32_in _ (by omega)
        have u1 : IntKind.u32.wrap (x1.toNat : Int) = (x1.toNat : Int) := IntWalk.u32_in _ (by omega)
        have u2 : IntKind.u32.wrap (x2.toNat : Int) = (x2.toNat : Int) := IntWalk.u32_in _ (by omega)
        have u3 : IntKind.u32.wrap ((x0.toNat : Int) * 65536) = (x0.toNat : Int) * 65536 := IntWalk.u32_in _ (by omega)
        have u4 : IntKind.u32.wrap ((x1.toNat : Int) * 256) = (x1.toNat : Int) * 256 := IntWalk.u32_in _ (by omega)
        go_quiet (fail)
        go_wp2
        go_meet
        exact ⟨rfl, _, rfl⟩
      case rest =>
        obtain ⟨rfl, q, rfl⟩ := hcut
        clear hv3 i0 i1 i2
        replace hb := hide (below_drewN hb.out q)
        replace hown : (wr.drewN q).ownsRow w.heap.size 5 1 u3 L.length (L.map bv) := hown
        replace hbs : w.heap.size ≤ (wr.drewN q).heap.size := hbs
        go_upto_region 5 with (fail)
        generalize wr.drewN q = wr at *
        have b0 : Go.bits .and .u32 ((V : Int) / 262144) 63 = ((V / 262144 % 64 : Nat) : Int) := and63u (V / 262144) (by omega)
        have b1 : Go.bits .and .u32 ((V : Int) / 4096) 63 = ((V / 4096 % 64 : Nat) : Int) := and63u (V / 4096) (by omega)
        have b2 : Go.bits .and .u32 ((V : Int) / 64) 63 = ((V / 64 % 64 : Nat) : Int) := and63u (V / 64) (by omega)
        have b3 := and63u V (by omega)
        have hz2 : Hid ((L ++ BM.quad V) ++ BM.enc (zs.drop (k + 3)) = BM.enc zs) := hide (by rw [← hLz.out, hnx.out, List.append_assoc])
        have hqd : BM.quad V = [BM.al (V / 262144 % 64), BM.al (V / 4096 % 64), BM.al (V / 64 % 64), BM.al (V % 64)] := by
          unfold BM.quad
          rw [Nat.mod_eq_of_lt (show V / 262144 < 64 by omega)]
        obtain ⟨d0, e0⟩ : ∃ d, d = V / 262144 % 64 := ⟨_, rfl⟩
        obtain ⟨d1, e1⟩ : ∃ d, d = V / 4096 % 64 := ⟨_, rfl⟩
        obtain ⟨d2, e2⟩ : ∃ d, d = V / 64 % 64 := ⟨_, rfl⟩
        obtain ⟨d3, e3⟩ : ∃ d, d = V % 64 := ⟨_, rfl⟩
        rw [← e0] at b0 hqd
        rw [← e1] at b1 hqd
        rw [← e2] at b2 hqd
        rw [← e3] at b3 hqd
        have j0 := idx32 d0 (by omega)
        have j1 := idx32 d1 (by omega)
        have j2 := idx32 d2 (by omega)
        have j3 := idx32 d3 (by omega)
        have hdrew : wr.drew.ownsRow w.heap.size 5 1 u3 L.length (L.map bv) := hown
        have hqc : (#[Value.int .u8 ((BM.al d0).toNat : Int), .int .u8 ((BM.al d1).toNat : Int), .int .u8 ((BM.al d2).toNat : Int), .int .u8 ((BM.al d3).toNat : Int)] : Array Value).toList = (BM.quad V).map bv := by rw [hqd]; rfl
        have hql : (BM.quad V).length = 4 := rfl
        replace hqc := hide hqc
        clear e0 e1 e2 e3 hnx hqd
        go_cut [3] (fun s3 wx => wx.ownsRow w.heap.size 5 1 s3 (L ++ BM.quad V).length ((L ++ BM.quad V).map bv) ∧ Hid (Below w.heap.size w wx))
        case first =>
          go_region_law (first | (refine step_pushN E39 rfl _ _ rfl 4 hdrew rfl #[_, _, _, _] rfl rfl (cells_one hqc.out) (by omega) (by omega) (by decide) hbs ?_; intro g cap w1 hown1 hg))
          all_goals
            have hown2 := own_pushN hown1 hqc.out hql
            have hb2 := hb.out.drew.grown hg hbs (fun g hgb => (hown.lt g hgb).1)
            replace hown2 := hide hown2
            replace hb2 := hide hb2
            clear hown1 hg
            go_wp2
            go_meet
            exact ⟨hown2.out, hb2⟩
        case rest =>
          obtain ⟨hown2, hb2⟩ := hcut
          clear hown hdrew b0 b1 b2 b3 j0 j1 j2 j3 hb
          go_wp2
          go_roundw
          case rel => exact ⟨k + 3, _, by omega, by go_num, hown2, hz2, hb2⟩
          case measure => simp [intOf]; omega
    · rcases (by omega : s.size = k ∨ s.size = k + 1 ∨ s.size = k + 2) with hk1 | hk1 | hk1
      · have hL : L = BM.enc zs := by
          have := hLz.out
          rw [BM.enc_none (by rw [hzl.out]; omega), List.append_nil] at this
          exact this
        rw [hL] at hown
        obtain ⟨A2, c2, rfl, hc2, hrd⟩ := own_rd hown
        have hst := hrd.string 39 5 9 c2 Tryf.underlying39 Tryf.underlying5 Tryf.underlying9
        clear hown hrd hL hc2
        have hsk : (s.size : Int) - (k : Int) = 0 := by omega
        clear hkl
        go_wp2
        go_ret
        exact ⟨rfl, hb.out⟩
      · have hx0 := ba_get s k (by omega)
        rw [← hz.out] at hx0
        have i0 := idx_at s k k rfl (by omega)
        have hsk : (s.size : Int) - (k : Int) = 1 := by omega
        have hnx := BM.enc_one (i := k) hx0 (by rw [hzl.out]; omega)
        generalize s[k] = x0 at hx0 i0 hnx
        have hV := BM.v3_lt x0 0 0
        have y0 := x0.toNat_lt
        obtain ⟨V, hVe⟩ : ∃ V, V = BM.v3 x0 0 0 := ⟨_, rfl⟩
        have hve : (x0.toNat : Int) * 65536 = (V : Int) := by rw [hVe]; unfold BM.v3; simp
        rw [← hVe] at hnx hV
        have b0 : Go.bits .and .u32 ((V : Int) / 262144) 63 = ((V / 262144 % 64 : Nat) : Int) := and63u (V / 262144) (by omega)
        have b1 : Go.bits .and .u32 ((V : Int) / 4096) 63 = ((V / 4096 % 64 : Nat) : Int) := and63u (V / 4096) (by omega)
        obtain ⟨d0, e0⟩ : ∃ d, d = V / 262144 % 64 := ⟨_, rfl⟩
        obtain ⟨d1, e1⟩ : ∃ d, d = V / 4096 % 64 := ⟨_, rfl⟩
        have hz2 : L ++ [BM.al d0, BM.al d1, 61, 61] = BM.enc zs := by
          rw [← hLz.out, hnx, e0, e1, Nat.mod_eq_of_lt (show V / 262144 < 64 by omega)]
        rw [← e0] at b0
        rw [← e1] at b1
        have j0 := idx32 d0 (by omega)
        have j1 := idx32 d1 (by omega)
        have hqc : (#[Value.int .u8 ((BM.al d0).toNat : Int), .int .u8 ((BM.al d1).toNat : Int), .int .u8 61, .int .u8 61] : Array Value).toList = ([BM.al d0, BM.al d1, 61, 61] : List UInt8).map bv := rfl
        have hdrew : wr.drew.ownsRow w.heap.size 5 1 u3 L.length (L.map bv) := hown
        replace hqc := hide hqc
        replace hz2 := hide hz2
        clear e0 e1 hnx hVe hx0 hkl hk1 hLz
        go_upto_region 9 with (fail)
        go_cut [7] (fun s7 wx => s7 = .int .u32 (V : Int) ∧ wr = wx)
        case first =>
          clear b0 b1 j0 j1
          go_wp2
          go_meet
          exact ⟨by rw [← hve], rfl⟩
        case rest =>
          obtain ⟨rfl, rfl⟩ := hcut
          clear i0 hve
          go_upto_region 10 with (fail)
          go_cut [3] (fun s3 wx => wx.ownsRow w.heap.size 5 1 s3 (BM.enc zs).length ((BM.enc zs).map bv) ∧ Hid (Below w.heap.size w wx))
          case first =>
            go_region_law (first | (refine step_pushN E39 rfl _ _ rfl 4 hdrew rfl #[_, _, _, _] rfl rfl (cells_one hqc.out) (by omega) (by omega) (by decide) hbs ?_; intro g cap w1 hown1 hg))
            all_goals
              have hown2 := own_pushN hown1 hqc.out rfl
              rw [hz2.out] at hown2
              have hb2 := hb.out.drew.grown hg hbs (fun g hgb => (hown.lt g hgb).1)
              replace hown2 := hide hown2
              replace hb2 := hide hb2
              clear hown1 hg
              go_wp2
              go_meet
              exact ⟨hown2.out, hb2⟩
          case rest =>
            obtain ⟨hown2, hb2⟩ := hcut
            obtain ⟨A2, c2, hA2, hc2, hrd⟩ := own_rd hown2
            subst hA2
            have hst := hrd.string 39 5 9 c2 Tryf.underlying39 Tryf.underlying5 Tryf.underlying9
            clear hown hdrew b0 b1 j0 j1 hb hown2 hrd hc2
            go_wp2
            go_ret
            exact ⟨rfl, hb2.out⟩
      · have hx0 := ba_get s k (by omega)
        have hx1 := ba_get s (k + 1) (by omega)
        rw [← hz.out] at hx0 hx1
        have i0 := idx_at s k k rfl (by omega)
        have i1 := idx_at s (k + 1) ((k : Int) + 1) (by omega) (by omega)
        have hsk : (s.size : Int) - (k : Int) = 2 := by omega
        have hnx := BM.enc_two (i := k) hx0 hx1 (by rw [hzl.out]; omega)
        generalize s[k] = x0 at hx0 i0 hnx
        generalize s[k + 1] = x1 at hx1 i1 hnx
        have hV := BM.v3_lt x0 x1 0
        have hv2 := v2_or32 x0 x1
        obtain ⟨V, hVe⟩ : ∃ V, V = BM.v3 x0 x1 0 := ⟨_, rfl⟩
        rw [← hVe] at hnx hV hv2
        have b0 : Go.bits .and .u32 ((V : Int) / 262144) 63 = ((V / 262144 % 64 : Nat) : Int) := and63u (V / 262144) (by omega)
        have b1 : Go.bits .and .u32 ((V : Int) / 4096) 63 = ((V / 4096 % 64 : Nat) : Int) := and63u (V / 4096) (by omega)
        have b2 : Go.bits .and .u32 ((V : Int) / 64) 63 = ((V / 64 % 64 : Nat) : Int) := and63u (V / 64) (by omega)
        obtain ⟨d0, e0⟩ : ∃ d, d = V / 262144 % 64 := ⟨_, rfl⟩
        obtain ⟨d1, e1⟩ : ∃ d, d = V / 4096 % 64 := ⟨_, rfl⟩
        obtain ⟨d2, e2⟩ : ∃ d, d = V / 64 % 64 := ⟨_, rfl⟩
        have hz2 : L ++ [BM.al d0, BM.al d1, BM.al d2, 61] = BM.enc zs := by
          rw [← hLz.out, hnx, e0, e1, e2, Nat.mod_eq_of_lt (show V / 262144 < 64 by omega)]
        rw [← e0] at b0
        rw [← e1] at b1
        rw [← e2] at b2
        have j0 := idx32 d0 (by omega)
        have j1 := idx32 d1 (by omega)
        have j2 := idx32 d2 (by omega)
        have hqc : (#[Value.int .u8 ((BM.al d0).toNat : Int), .int .u8 ((BM.al d1).toNat : Int), .int .u8 ((BM.al d2).toNat : Int), .int .u8 61] : Array Value).toList = ([BM.al d0, BM.al d1, BM.al d2, 61] : List UInt8).map bv := rfl
        replace hqc := hide hqc
        replace hz2 := hide hz2
        clear e0 e1 e2 hnx hVe hx0 hx1 hkl hk1 hLz
        go_upto_region 12 with (fail)
        go_cut [8] (fun s8 wx => s8 = .int .u32 (V : Int) ∧ ∃ q, wx = wr.drewN q)
        case first =>
          clear b0 b1 b2 j0 j1 j2
          have w1 : IntKind.i64.wrap ((k : Int) + 1) = (k : Int) + 1 := IntWalk.i64_in _ (by omega)
          have y0 := x0.toNat_lt
          have y1 := x1.toNat_lt
          have u0 : IntKind.u32.wrap (x0.toNat : Int) = (x0.toNat : Int) := IntWalk.u32_in _ (by omega)
          have u1 : IntKind.u32.wrap (x1.toNat : Int) = (x1.toNat : Int) := IntWalk.u32_in _ (by omega)
          have u3 : IntKind.u32.wrap ((x0.toNat : Int) * 65536) = (x0.toNat : Int) * 65536 := IntWalk.u32_in _ (by omega)
          have u4 : IntKind.u32.wrap ((x1.toNat : Int) * 256) = (x1.toNat : Int) * 256 := IntWalk.u32_in _ (by omega)
          go_quiet (fail)
          go_wp2
          go_meet
          exact ⟨rfl, _, rfl⟩
        case rest =>
          obtain ⟨rfl, q, rfl⟩ := hcut
          clear i0 i1 hv2
          replace hb := hide (below_drewN hb.out q)
          replace hown : (wr.drewN q).ownsRow w.heap.size 5 1 u3 L.length (L.map bv) := hown
          replace hbs : w.heap.size ≤ (wr.drewN q).heap.size := hbs
          go_upto_region 13 with (fail)
          generalize wr.drewN q = wr at *
          have hdrew : wr.drew.ownsRow w.heap.size 5 1 u3 L.length (L.map bv) := hown
          go_cut [3] (fun s3 wx => wx.ownsRow w.heap.size 5 1 s3 (BM.enc zs).length ((BM.enc zs).map bv) ∧ Hid (Below w.heap.size w wx))
          case first =>
            go_region_law (first | (refine step_pushN E39 rfl _ _ rfl 4 hdrew rfl #[_, _, _, _] rfl rfl (cells_one hqc.out) (by omega) (by omega) (by decide) hbs ?_; intro g cap w1 hown1 hg))
            all_goals
              have hown2 := own_pushN hown1 hqc.out rfl
              rw [hz2.out] at hown2
              have hb2 := hb.out.drew.grown hg hbs (fun g hgb => (hown.lt g hgb).1)
              replace hown2 := hide hown2
              replace hb2 := hide hb2
              clear hown1 hg
              go_wp2
              go_meet
              exact ⟨hown2.out, hb2⟩
          case rest =>
            obtain ⟨hown2, hb2⟩ := hcut
            obtain ⟨A2, c2, hA2, hc2, hrd⟩ := own_rd hown2
            subst hA2
            have hst := hrd.string 39 5 9 c2 Tryf.underlying39 Tryf.underlying5 Tryf.underlying9
            clear hown hdrew b0 b1 b2 j0 j1 j2 hb hown2 hrd hc2
            go_wp2
            go_ret
            exact ⟨rfl, hb2.out⟩
end Go.Proofs.YtfimnjdfchdldaaFmt
