/-
  The walk of decodeQuantum at a quantum of two paddings. Conditions: the quantum is one of the encoder's.
-/
import Derived.Test.YtfimnjdfchdldaaFmtQub
import Derived.Deep.QuietTactic
namespace Go.Proofs.YtfimnjdfchdldaaFmt
open Go.RowKit

set_option maxHeartbeats 8000000 in
set_option maxRecDepth 100000 in
theorem quantum2_any (E g N cap o c b off n cs si : Nat) (d0 d1 c0 c1 : Nat) (L : List UInt8) (w : World) {base : Nat} (hE : StdAt w E) (hown : w.ownsRow base 5 1 (.slice (some ⟨g, 0, none⟩) N cap) N (L.map bv)) (ho : o + 3 = N) (hn : n = si + 4) (hn2 : n ≤ 16777216)
    (h0 : d0 < 64) (h1 : d1 < 64)
    (x0 : w.cell? ⟨b, off + si, none⟩ = some (.int .u8 c0)) (x1 : w.cell? ⟨b, off + (si + 1), none⟩ = some (.int .u8 c1)) (x2 : w.cell? ⟨b, off + (si + 2), none⟩ = some (.int .u8 61)) (x3 : w.cell? ⟨b, off + (si + 3), none⟩ = some (.int .u8 61))
    (m0 : w.cell? ⟨E, 64 + c0, none⟩ = some (.int .u8 d0)) (m1 : w.cell? ⟨E, 64 + c1, none⟩ = some (.int .u8 d1))
    (hc : c0 < 256 ∧ c1 < 256) :
    Calls Tryf.prog 63 #[.pointer (some ⟨E, 0, none⟩), .slice (some ⟨g, o, none⟩) (N - o) c, .slice (some ⟨b, off, none⟩) n cs, .int .i64 si] w fun e w' => e = .returned (.tuple #[.int .i64 n, .int .i64 1, .nilIface]) ∧
      w'.ownsRow base 5 1 (.slice (some ⟨g, 0, none⟩) N cap) N ((L.set o (UInt8.ofNat ((d0 * 64 + d1) * 4096 / 65536 % 256))).map bv) ∧ w.grownBy w' (some g) := by
  obtain ⟨hc0, hc1⟩ := hc
  have e1 : ((si : Int) + 1).toNat = si + 1 := by omega
  have e2 : ((si : Int) + 2).toNat = si + 2 := by omega
  have e3 : ((si : Int) + 3).toNat = si + 3 := by omega
  have b0 : ((d0 : Int) == 255) = false := by simp; omega
  have b1 : ((d1 : Int) == 255) = false := by simp; omega
  go_enter Tryf.func63, Tryf.ntmps63
  have hE1 : StdAt (w.alloc (.cells #[.int .u8 0, .int .u8 0, .int .u8 0, .int .u8 0] 98)) E := hE.alloc _
  go_upto_region 4 with (with_reducible refine wpList_load73 rfl (.tmp 19) rfl E rfl hE1 ?_; intro X)
  clear hE1
  have hbl : b < w.heap.size := World.block_lt_of_cell? w _ x0
  have X0 : ∀ ob, (w.alloc ob).cell? ⟨b, off + si, none⟩ = some (.int .u8 c0) := fun ob => (World.cell?_alloc_lt w ob _ hbl).trans x0
  have X1 : ∀ ob, (w.alloc ob).cell? ⟨b, off + (si + 1), none⟩ = some (.int .u8 c1) := fun ob => (World.cell?_alloc_lt w ob ⟨b, off + (si + 1), none⟩ hbl).trans x1
  have X2 : ∀ ob, (w.alloc ob).cell? ⟨b, off + (si + 2), none⟩ = some (.int .u8 61) := fun ob => (World.cell?_alloc_lt w ob ⟨b, off + (si + 2), none⟩ hbl).trans x2
  have X3 : ∀ ob, (w.alloc ob).cell? ⟨b, off + (si + 3), none⟩ = some (.int .u8 61) := fun ob => (World.cell?_alloc_lt w ob ⟨b, off + (si + 3), none⟩ hbl).trans x3
  have hEl := hE.lt
  have M0 : ∀ ob, (w.alloc ob).cell? ⟨E, 64 + c0, none⟩ = some (.int .u8 d0) := fun ob => (World.cell?_alloc_lt w ob _ hEl).trans m0
  have M1 : ∀ ob, (w.alloc ob).cell? ⟨E, 64 + c1, none⟩ = some (.int .u8 d1) := fun ob => (World.cell?_alloc_lt w ob ⟨E, 64 + c1, none⟩ hEl).trans m1
  have M3 : ∀ ob, (w.alloc ob).cell? ⟨E, 125, none⟩ = some (.int .u8 255) := fun ob => (World.cell?_alloc_lt w ob ⟨E, 125, none⟩ hEl).trans (std_pad61 hE)
  have PD : ∀ ob, (w.alloc ob).cell? ⟨E, 320, none⟩ = some (.int .i32 61) := fun ob => (World.cell?_alloc_lt w ob ⟨E, 320, none⟩ hEl).trans (std_padChar hE)
  clear x0 x1 x2 x3 m0 m1
  obtain ⟨V, hV⟩ : ∃ V, V = (d0 * 64 + d1) * 4096 := ⟨_, rfl⟩
  have s1 : Go.bits .or .u64 ((d0 : Int) * 262144) ((d1 : Int) * 4096) = (V : Int) := by
    have h := or_step64 d0 d1 4096 12 rfl h1 (by omega)
    rw [← hV] at h
    rw [← h]
    congr 1
  have s2 : Go.bits .or .u64 (V : Int) 0 = (V : Int) := by
    have h := or_add V 0 1 0 rfl (by omega) (by omega) (by omega)
    rw [Nat.mul_one, Nat.add_zero] at h
    exact h
  have hVl : V < 16777216 := by omega
  obtain ⟨B2, hB2⟩ : ∃ B, B = V % 256 := ⟨_, rfl⟩
  obtain ⟨B1, hB1⟩ : ∃ B, B = V / 256 % 256 := ⟨_, rfl⟩
  obtain ⟨B0, hB0⟩ : ∃ B, B = V / 65536 % 256 := ⟨_, rfl⟩
  have t2 : IntKind.u8.wrap (V : Int) = (B2 : Int) := by rw [IntKind.wrap_u8, hB2]; simp
  have t1 : IntKind.u8.wrap ((V : Int) / 256) = (B1 : Int) := by rw [IntKind.wrap_u8, hB1]; simp
  have t0 : IntKind.u8.wrap ((V : Int) / 65536) = (B0 : Int) := by rw [IntKind.wrap_u8, hB0]; simp
  replace hV := hide hV
  replace hB0 := hide hB0
  replace hB1 := hide hB1
  replace hB2 := hide hB2
  replace hE := hide hE
  go_wp2
  refine wp_loop_rounds 5 ?_
  rw [rounds_succ]
  go_wp2
  rw [rounds_succ]
  go_wp2
  rw [rounds_succ]
  go_wp2
  refine wp_loop_rounds 1 ?_
  rw [rounds_succ]
  go_wp2
  have e4 : ((si : Int) + 1 + 1 + 1).toNat = si + 3 := by omega
  have i61 : IntKind.i32.wrap 61 = 61 := by decide
  go_quiet (fail)
  go_wp2
  refine wp_loop_rounds 1 ?_
  rw [rounds_succ]
  go_upto_region 42 with (fail)
  have hDA : Blk ((w.alloc (.cells #[.int .u8 d0, .int .u8 d1, .int .u8 0, .int .u8 0] 98)).drewN nq) w.heap.size 98 #[.int .u8 d0, .int .u8 d1, .int .u8 0, .int .u8 0] := Blk.new w 98 _
  have hoA : ((w.alloc (.cells #[.int .u8 d0, .int .u8 d1, .int .u8 0, .int .u8 0] 98)).drewN nq).ownsRow base 5 1 (.slice (some ⟨g, 0, none⟩) N cap) N (L.map bv) := hown.alloc _
  have hEA : StdAt ((w.alloc (.cells #[.int .u8 d0, .int .u8 d1, .int .u8 0, .int .u8 0] 98)).drewN nq) E := hE.out.alloc _
  have hgA0 := World.grownBy_alloc w (.cells #[.int .u8 d0, .int .u8 d1, .int .u8 0, .int .u8 0] 98) (some g)
  have hgA : w.grownBy ((w.alloc (.cells #[.int .u8 d0, .int .u8 d1, .int .u8 0, .int .u8 0] 98)).drewN nq) (some g) := ⟨hgA0.os, hgA0.tape, hgA0.output, hgA0.size, hgA0.block⟩
  generalize (w.alloc (.cells #[.int .u8 d0, .int .u8 d1, .int .u8 0, .int .u8 0] 98)).drewN nq = wA at *
  clear hgA0 hown X0 X1 X2 X3 M0 M1 M3 PD s1 s2 t0 t1 t2
  have hBl0 : B0 < 256 := by rw [hB0.out]; exact Nat.mod_lt _ (by omega)
  have hgD : g ≠ w.heap.size := fun e => own_blk_ne hoA hDA (by decide) (by rw [← e]; rfl)
  have hgE : g ≠ E := fun e => own_blk_ne hoA hEA (by decide) (by rw [← e]; rfl)
  have hDE : w.heap.size ≠ E := by omega
  have hNo : N - o = 3 := by omega
  have hD6 := Blk.put_eq (Blk.put_eq (Blk.put_eq hDA 2 (.int .u8 B2) rfl) 1 (.int .u8 B1) rfl) 0 (.int .u8 B0) (cs' := #[.int .u8 B0, .int .u8 B1, .int .u8 B2, .int .u8 0]) rfl
  have hown6 := own_other (own_other (own_other hoA (D := w.heap.size) (fun e => hgD (Option.some.inj e)) 2 (.int .u8 B2)) (D := w.heap.size) (fun e => hgD (Option.some.inj e)) 1 (.int .u8 B1)) (D := w.heap.size) (fun e => hgD (Option.some.inj e)) 0 (.int .u8 B0)
  have hg6 := grown_new (grown_new (grown_new hgA (Nat.le_refl _) 2 (.int .u8 B2)) (Nat.le_refl _) 1 (.int .u8 B1)) (Nat.le_refl _) 0 (.int .u8 B0)
  have hE6 : StdAt (((wA.setCell ⟨w.heap.size, 2, none⟩ (.int .u8 B2)).setCell ⟨w.heap.size, 1, none⟩ (.int .u8 B1)).setCell ⟨w.heap.size, 0, none⟩ (.int .u8 B0)) E := Blk.far (Blk.far (Blk.far hEA (by simpa using Ne.symm hDE) _) (by simpa using Ne.symm hDE) _) (by simpa using Ne.symm hDE) _
  generalize ((wA.setCell ⟨w.heap.size, 2, none⟩ (.int .u8 B2)).setCell ⟨w.heap.size, 1, none⟩ (.int .u8 B1)).setCell ⟨w.heap.size, 0, none⟩ (.int .u8 B0) = w6 at *
  clear hDA hoA hEA hgA
  obtain ⟨y0, hy0⟩ := own_cell hown6 (show o < N by omega)
  have hf0 := hown6.frozenAt o
  have z0 : w6.cell? ⟨w.heap.size, 0, none⟩ = some (.int .u8 B0) := hD6.cell 0
  have hown7 := own_set hown6 o B0 hBl0
  have hg7 := grown_put hg6 o (.int .u8 (B0 : Int))
  have hE7 : StdAt (w6.setCell ⟨g, o, none⟩ (.int .u8 (B0 : Int))) E := Blk.far hE6 (by simpa using Ne.symm hgE) _
  replace hD6 := hide hD6
  replace hE6 := hide hE6
  clear hown6 hg6
  go_upto_region 53 with (fail)
  generalize w6.setCell ⟨g, o, none⟩ (.int .u8 (B0 : Int)) = w7 at *
  clear hy0 hf0 z0 hD6 hE6
  have hst := std_strict hE7
  go_wp2
  go_ret3
  refine ⟨by simp; omega, ?_, hg7⟩
  rw [← hV.out, ← hB0.out]
  first
    | exact hown7
    | (rw [List.map_set] at hown7; exact hown7)
end Go.Proofs.YtfimnjdfchdldaaFmt
