/-
  The walk of decodeQuantum at a padded quantum. Conditions: the quantum is one of the encoder's.
-/
import Derived.Test.YtfimnjdfchdldaaFmtQua
namespace Go.Proofs.YtfimnjdfchdldaaFmt
open Go.RowKit

theorem std_pad61 {w : World} {E : Nat} (h : StdAt w E) : w.cell? ⟨E, 125, none⟩ = some (.int .u8 255) := by
  rw [h.cell 125]
  exact cellsOf_map A64 (dmRow 64) 61 (c := 61) (x := 255) (by rw [dmRow_get 64 (by omega), BM.dm_pad]; rfl)
theorem std_padChar {w : World} {E : Nat} (h : StdAt w E) : w.cell? ⟨E, 320, none⟩ = some (.int .i32 61) := by
  rw [h.cell 320]
  have := cellsOf_pad A64 (dmRow 64) 61
  rw [A64_length, dmRow_length] at this
  exact this

set_option maxHeartbeats 8000000 in
set_option maxRecDepth 100000 in
theorem quantum3_any (E g N cap o c b off n cs si : Nat) (d0 d1 d2 c0 c1 c2 : Nat) (L : List UInt8) (w : World) {base : Nat} (hE : StdAt w E) (hown : w.ownsRow base 5 1 (.slice (some ⟨g, 0, none⟩) N cap) N (L.map bv)) (ho : o + 3 = N) (hn : n = si + 4) (hn2 : n ≤ 16777216)
    (h0 : d0 < 64) (h1 : d1 < 64) (h2 : d2 < 64)
    (x0 : w.cell? ⟨b, off + si, none⟩ = some (.int .u8 c0)) (x1 : w.cell? ⟨b, off + (si + 1), none⟩ = some (.int .u8 c1)) (x2 : w.cell? ⟨b, off + (si + 2), none⟩ = some (.int .u8 c2)) (x3 : w.cell? ⟨b, off + (si + 3), none⟩ = some (.int .u8 61))
    (m0 : w.cell? ⟨E, 64 + c0, none⟩ = some (.int .u8 d0)) (m1 : w.cell? ⟨E, 64 + c1, none⟩ = some (.int .u8 d1)) (m2 : w.cell? ⟨E, 64 + c2, none⟩ = some (.int .u8 d2))
    (hc : c0 < 256 ∧ c1 < 256 ∧ c2 < 256) :
    Calls Tryf.prog 63 #[.pointer (some ⟨E, 0, none⟩), .slice (some ⟨g, o, none⟩) (N - o) c, .slice (some ⟨b, off, none⟩) n cs, .int .i64 si] w fun e w' => e = .returned (.tuple #[.int .i64 n, .int .i64 2, .nilIface]) ∧
      w'.ownsRow base 5 1 (.slice (some ⟨g, 0, none⟩) N cap) N (((L.set (o + 1) (UInt8.ofNat ((((d0 * 64 + d1) * 64 + d2) * 64) / 256 % 256))).set o (UInt8.ofNat ((((d0 * 64 + d1) * 64 + d2) * 64) / 65536 % 256))).map bv) ∧ w.grownBy w' (some g) := by
  obtain ⟨hc0, hc1, hc2⟩ := hc
  have e1 : ((si : Int) + 1).toNat = si + 1 := by omega
  have e2 : ((si : Int) + 2).toNat = si + 2 := by omega
  have e3 : ((si : Int) + 3).toNat = si + 3 := by omega
  have b0 : ((d0 : Int) == 255) = false := by simp; omega
  have b1 : ((d1 : Int) == 255) = false := by simp; omega
  have b2 : ((d2 : Int) == 255) = false := by simp; omega
  go_enter Tryf.func63, Tryf.ntmps63
  have hE1 : StdAt (w.alloc (.cells #[.int .u8 0, .int .u8 0, .int .u8 0, .int .u8 0] 98)) E := hE.alloc _
  go_upto_region 4 with (with_reducible refine wpList_load73 rfl (.tmp 19) rfl E rfl hE1 ?_; intro X)
  clear hE1
  have hbl : b < w.heap.size := World.block_lt_of_cell? w _ x0
  have X0 : ∀ ob, (w.alloc ob).cell? ⟨b, off + si, none⟩ = some (.int .u8 c0) := fun ob => (World.cell?_alloc_lt w ob _ hbl).trans x0
  have X1 : ∀ ob, (w.alloc ob).cell? ⟨b, off + (si + 1), none⟩ = some (.int .u8 c1) := fun ob => (World.cell?_alloc_lt w ob ⟨b, off + (si + 1), none⟩ hbl).trans x1
  have X2 : ∀ ob, (w.alloc ob).cell? ⟨b, off + (si + 2), none⟩ = some (.int .u8 c2) := fun ob => (World.cell?_alloc_lt w ob ⟨b, off + (si + 2), none⟩ hbl).trans x2
  have X3 : ∀ ob, (w.alloc ob).cell? ⟨b, off + (si + 3), none⟩ = some (.int .u8 61) := fun ob => (World.cell?_alloc_lt w ob ⟨b, off + (si + 3), none⟩ hbl).trans x3
  have hEl := hE.lt
  have M0 : ∀ ob, (w.alloc ob).cell? ⟨E, 64 + c0, none⟩ = some (.int .u8 d0) := fun ob => (World.cell?_alloc_lt w ob _ hEl).trans m0
  have M1 : ∀ ob, (w.alloc ob).cell? ⟨E, 64 + c1, none⟩ = some (.int .u8 d1) := fun ob => (World.cell?_alloc_lt w ob ⟨E, 64 + c1, none⟩ hEl).trans m1
  have M2 : ∀ ob, (w.alloc ob).cell? ⟨E, 64 + c2, none⟩ = some (.int .u8 d2) := fun ob => (World.cell?_alloc_lt w ob ⟨E, 64 + c2, none⟩ hEl).trans m2
  have M3 : ∀ ob, (w.alloc ob).cell? ⟨E, 125, none⟩ = some (.int .u8 255) := fun ob => (World.cell?_alloc_lt w ob ⟨E, 125, none⟩ hEl).trans (std_pad61 hE)
  have PD : ∀ ob, (w.alloc ob).cell? ⟨E, 320, none⟩ = some (.int .i32 61) := fun ob => (World.cell?_alloc_lt w ob ⟨E, 320, none⟩ hEl).trans (std_padChar hE)
  clear x0 x1 x2 x3 m0 m1 m2
  obtain ⟨V, hV⟩ : ∃ V, V = ((d0 * 64 + d1) * 64 + d2) * 64 := ⟨_, rfl⟩
  obtain ⟨S1, hS1⟩ : ∃ S, S = (d0 * 64 + d1) * 4096 := ⟨_, rfl⟩
  obtain ⟨S2, hS2⟩ : ∃ S, S = ((d0 * 64 + d1) * 64 + d2) * 64 := ⟨_, rfl⟩
  have s1 : Go.bits .or .u64 ((d0 : Int) * 262144) ((d1 : Int) * 4096) = (S1 : Int) := by
    have h := or_step64 d0 d1 4096 12 rfl h1 (by omega)
    rw [← hS1] at h
    rw [← h]
    congr 1
  have s2 : Go.bits .or .u64 (S1 : Int) ((d2 : Int) * 64) = (S2 : Int) := by
    have h := or_step64 (d0 * 64 + d1) d2 64 6 rfl h2 (by omega)
    rw [show (d0 * 64 + d1) * (64 * 64) = S1 by rw [hS1], ← hS2] at h
    rw [← h]
    congr 1
  have s3 : Go.bits .or .u64 (S2 : Int) 0 = (V : Int) := by
    have h := or_step64 ((d0 * 64 + d1) * 64 + d2) 0 1 0 rfl (by omega) (by omega)
    rw [show ((d0 * 64 + d1) * 64 + d2) * (64 * 1) = S2 by rw [hS2], Nat.mul_one, Nat.mul_one, Nat.add_zero] at h
    rw [show V = S2 by rw [hV, hS2]]
    exact h
  have hVl : V < 16777216 := by omega
  obtain ⟨B2, hB2⟩ : ∃ B, B = V % 256 := ⟨_, rfl⟩
  obtain ⟨B1, hB1⟩ : ∃ B, B = V / 256 % 256 := ⟨_, rfl⟩
  obtain ⟨B0, hB0⟩ : ∃ B, B = V / 65536 % 256 := ⟨_, rfl⟩
  have t2 : IntKind.u8.wrap (V : Int) = (B2 : Int) := by rw [IntKind.wrap_u8, hB2]; simp
  have t1 : IntKind.u8.wrap ((V : Int) / 256) = (B1 : Int) := by rw [IntKind.wrap_u8, hB1]; simp
  have t0 : IntKind.u8.wrap ((V : Int) / 65536) = (B0 : Int) := by rw [IntKind.wrap_u8, hB0]; simp
  replace hV := hide hV
  clear hS1 hS2
  replace hB0 := hide hB0
  replace hB1 := hide hB1
  replace hB2 := hide hB2
  replace hE := hide hE
  go_wp2
  refine wp_loop_rounds 5 ?_
  rw [rounds_succ]
  go_wp2
  rw [rounds_succ]
  go_wp2
  rw [rounds_succ]
  go_wp2
  rw [rounds_succ]
  go_wp2
  refine wp_loop_rounds 1 ?_
  rw [rounds_succ]
  go_upto_region 42 with (fail)
  have hD2 := Blk.new w 98 #[.int .u8 B0, .int .u8 B1, .int .u8 B2, .int .u8 0]
  have hown2 : (w.alloc (.cells #[.int .u8 B0, .int .u8 B1, .int .u8 B2, .int .u8 0] 98)).ownsRow base 5 1 (.slice (some ⟨g, 0, none⟩) N cap) N (L.map bv) := hown.alloc _
  have hE2 : StdAt (w.alloc (.cells #[.int .u8 B0, .int .u8 B1, .int .u8 B2, .int .u8 0] 98)) E := hE.out.alloc _
  have hg2 : w.grownBy (w.alloc (.cells #[.int .u8 B0, .int .u8 B1, .int .u8 B2, .int .u8 0] 98)) (some g) := World.grownBy_alloc w _ _
  generalize hw2 : w.alloc (.cells #[.int .u8 B0, .int .u8 B1, .int .u8 B2, .int .u8 0] 98) = w2 at *
  clear hw2 hown X0 X1 X2 X3 M0 M1 M2 M3 s1 s2 s3 t0 t1 t2
  have hBl1 : B1 < 256 := by rw [hB1.out]; exact Nat.mod_lt _ (by omega)
  have hBl0 : B0 < 256 := by rw [hB0.out]; exact Nat.mod_lt _ (by omega)
  have hgD : g ≠ w.heap.size := fun e => own_blk_ne hown2 hD2 (by decide) (by rw [← e]; rfl)
  have hgE : g ≠ E := fun e => own_blk_ne hown2 hE2 (by decide) (by rw [← e]; rfl)
  have hDE : w.heap.size ≠ E := by omega
  have hNo : N - o = 3 := by omega
  -- dst[1]
  obtain ⟨y1, hy1⟩ := own_cell hown2 (show o + 1 < N by omega)
  have hf1 := hown2.frozenAt (o + 1)
  have z1 : w2.cell? ⟨w.heap.size, 1, none⟩ = some (.int .u8 B1) := hD2.cell 1
  have hown5 := own_set hown2 (o + 1) B1 hBl1
  have hg5 := grown_put hg2 (o + 1) (.int .u8 (B1 : Int))
  have hD5 : Blk (w2.setCell ⟨g, o + 1, none⟩ (.int .u8 (B1 : Int))) w.heap.size 98 _ := hD2.far (by simpa using Ne.symm hgD) _
  have hE5 : StdAt (w2.setCell ⟨g, o + 1, none⟩ (.int .u8 (B1 : Int))) E := Blk.far hE2 (by simpa using Ne.symm hgE) _
  replace hD2 := hide hD2
  replace hE2 := hide hE2
  clear hown2 hg2
  go_upto_region 49 with (fail)
  generalize w2.setCell ⟨g, o + 1, none⟩ (.int .u8 (B1 : Int)) = w5 at *
  clear hy1 hf1 z1 hD2 hE2
  -- not strict; dbuf[1] = 0
  have hst := std_strict hE5
  have z1 : w5.cell? ⟨w.heap.size, 1, none⟩ = some (.int .u8 B1) := hD5.cell 1
  have zf := hD5.frozen 1
  have hown6 := own_other hown5 (D := w.heap.size) (fun e => hgD (Option.some.inj e)) 1 (.int .u8 0)
  have hg6 := grown_new hg5 (Nat.le_refl _) 1 (.int .u8 0)
  have hD6 : Blk (w5.setCell ⟨w.heap.size, 1, none⟩ (.int .u8 0)) w.heap.size 98 #[.int .u8 B0, .int .u8 0, .int .u8 B2, .int .u8 0] := Blk.put_eq hD5 1 _ rfl
  have hE6 : StdAt (w5.setCell ⟨w.heap.size, 1, none⟩ (.int .u8 0)) E := Blk.far hE5 (by simpa using Ne.symm hDE) _
  replace hD5 := hide hD5
  replace hE5 := hide hE5
  clear hown5 hg5
  go_upto_region 52 with (fail)
  generalize w5.setCell ⟨w.heap.size, 1, none⟩ (.int .u8 0) = w6 at *
  clear z1 zf hst hD5 hE5
  -- dst[0]
  obtain ⟨y0, hy0⟩ := own_cell hown6 (show o < N by omega)
  have hf0 := hown6.frozenAt o
  have z0 : w6.cell? ⟨w.heap.size, 0, none⟩ = some (.int .u8 B0) := hD6.cell 0
  have hown7 := own_set hown6 o B0 hBl0
  have hg7 := grown_put hg6 o (.int .u8 (B0 : Int))
  have hE7 : StdAt (w6.setCell ⟨g, o, none⟩ (.int .u8 (B0 : Int))) E := Blk.far hE6 (by simpa using Ne.symm hgE) _
  replace hD6 := hide hD6
  replace hE6 := hide hE6
  clear hown6 hg6
  go_upto_region 53 with (fail)
  generalize w6.setCell ⟨g, o, none⟩ (.int .u8 (B0 : Int)) = w7 at *
  clear hy0 hf0 z0 hD6 hE6
  have hst := std_strict hE7
  go_wp2
  go_ret3
  refine ⟨by simp; omega, ?_, hg7⟩
  rw [← hV.out, ← hB0.out, ← hB1.out]
  rw [List.map_set, List.map_set] at hown7
  exact hown7
end Go.Proofs.YtfimnjdfchdldaaFmt
