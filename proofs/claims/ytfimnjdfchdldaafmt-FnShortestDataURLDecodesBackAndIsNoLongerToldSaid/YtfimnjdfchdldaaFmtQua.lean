/-
  The walk of decodeQuantum at the last quantum. Conditions: the quantum is one of the encoder's.
-/
import Derived.Test.YtfimnjdfchdldaaFmtStd
import Derived.Test.YtfimnjdfchdldaaFmtPut
import Derived.Test.YtfimnjdfchdldaaFmtAsm
import Derived.LoopN
import Derived.OwnWalk
namespace Go.Proofs.YtfimnjdfchdldaaFmt
open Go.RowKit

theorem beBytes3 (V : Nat) : beBytes 3 V = [UInt8.ofNat (V / 65536 % 256), UInt8.ofNat (V / 256 % 256), UInt8.ofNat (V % 256)] := by
  unfold beBytes
  rw [show List.range 3 = [0, 1, 2] from rfl]
  simp only [List.map_cons, List.map_nil]
  rw [show 8 * (3 - 1) - 8 * 0 = 16 from rfl, show 8 * (3 - 1) - 8 * 1 = 8 from rfl, show 8 * (3 - 1) - 8 * 2 = 0 from rfl, Nat.pow_zero, Nat.div_one]

theorem size73 : (Tryf.prog.info? 73).map (·.size) = some 256 := by kernel_rfl

/-- the whole map, loaded and not used -/
theorem load73 (w : World) (E : Nat) (hE : StdAt w E) : (Instr.loadAt 73 (.pointer (some ⟨E, 64, none⟩))).run Tryf.prog w = .ok (.agg ((dmRow 64).map bv).toArray) w := by
  have hcell : ∀ j v, ((dmRow 64).map bv)[j]? = some v → w.cell? ((⟨E, 64, none⟩ : Addr).add j) = some v := fun j v hj => by
    rw [List.getElem?_map, Option.map_eq_some_iff] at hj
    obtain ⟨x, hx, rfl⟩ := hj
    rw [addr_add0, hE.cell (64 + j)]
    exact cellsOf_map A64 (dmRow 64) 61 hx
  have h := run_loadCells_list (P := Tryf.prog) (w := w) ⟨E, 64, none⟩ ((dmRow 64).map bv) hcell
  have hl : ((dmRow 64).map bv).length = 256 := by rw [List.length_map, dmRow_length]
  rw [hl] at h
  obtain ⟨i, hi, hs⟩ := Option.map_eq_some_iff.1 size73
  simp [Instr.loadAt, Instr.sureAddr, loadVar, isAgg, run_underlying Tryf.underlying73, sizeOf, typeInfo, hi, hs, h, Result.andThen]

section
variable {ops : Array Oper} {rest : List Oper} {o : Oper} {a : Act} {Q : Exit → Act → World → Prop} {w : World}
theorem wpList_load73 (hgd : o.guard = none) (x : Operand) (ho : o.op = Op.load 73 x) (E : Nat) (hx : a.eval x = .pointer (some ⟨E, 64, none⟩)) (hE : StdAt w E)
    (h : ∀ X, wpList Tryf.prog ops Q rest (a.put o.dst X) w) : wpList Tryf.prog ops Q (o :: rest) a w := by
  have hrun := load73 w E hE
  generalize Value.agg ((dmRow 64).map bv).toArray = X at hrun
  refine wpList_plain hgd fun K hK => ?_
  unfold Oper.wp
  simp [execOp, ho, hx, hrun, Result.andThen]
  exact hK _ _ (h X)
end

theorem grown_new {a w : World} {g D : Nat} (h : a.grownBy w (some g)) (hD : a.heap.size ≤ D) (i : Nat) (u : Value) : a.grownBy (w.setCell ⟨D, i, none⟩ u) (some g) :=
  ⟨h.os, h.tape, h.output, by simp only [World.setCell, Array.size_modify]; exact h.size, fun k hk hr => (Below.heap_setCell _ _ _ _ (fun e => by simp only at e; omega)).trans (h.block k hk hr)⟩
theorem own_other {w : World} {base : Nat} {e : TypeId} {size n : Nat} {v : Value} {xs : List Value} (h : w.ownsRow base e size v n xs) {D : Nat} (hD : v.ownBlock ≠ some D) (i : Nat) (u : Value) : (w.setCell ⟨D, i, none⟩ u).ownsRow base e size v n xs :=
  h.kept (row := some D) ⟨rfl, rfl, rfl, by simp, fun k _ hk => Below.heap_setCell _ _ _ _ (fun e => hk (by rw [e]))⟩ (.inr hD)
theorem own_set {w : World} {base g N cap : Nat} {L : List UInt8} (h : w.ownsRow base 5 1 (.slice (some ⟨g, 0, none⟩) N cap) N (L.map bv)) (j B : Nat) (hB : B < 256) : (w.setCell ⟨g, j, none⟩ (.int .u8 (B : Int))).ownsRow base 5 1 (.slice (some ⟨g, 0, none⟩) N cap) N ((L.set j (UInt8.ofNat B)).map bv) := by
  have := (h.stored j (bv (UInt8.ofNat B))).1
  rw [← List.map_set] at this
  have e : bv (UInt8.ofNat B) = .int .u8 (B : Int) := by
    unfold bv
    rw [UInt8.toNat_ofNat', Nat.mod_eq_of_lt (by omega)]
  rw [e] at this
  exact this
theorem own_cell {w : World} {base g N cap : Nat} {L : List UInt8} (h : w.ownsRow base 5 1 (.slice (some ⟨g, 0, none⟩) N cap) N (L.map bv)) {j : Nat} (hj : j < N) : ∃ y, w.cell? ⟨g, j, none⟩ = some y := by
  have hl : L.length = N := by simpa using h.1
  obtain ⟨x, hx⟩ : ∃ x, L[j]? = some x := ⟨_, List.getElem?_eq_getElem (by omega)⟩
  exact ⟨bv x, (h.cellAt j (by omega)).trans (by rw [List.getElem?_map, hx]; rfl)⟩
theorem std_strict {w : World} {E : Nat} (h : StdAt w E) : w.cell? ⟨E, 321, none⟩ = some (.bool false) := by
  rw [h.cell 321]
  unfold cellsOf
  rw [List.getElem?_toArray, List.getElem?_append_right (by simp [A64_length, dmRow_length]), List.length_append, List.length_map, List.length_map, A64_length, dmRow_length]
  rfl
theorem lay3 (L : List UInt8) (o : Nat) (x y z : UInt8) (h : o + 3 ≤ L.length) : ((L.set (o + 2) z).set (o + 1) y).set o x = lay L o [x, y, z] := by
  have h0 := lay_set (L := L) (ds := [x, y, z]) (o := o) (k := 0) rfl h
  have h1 := lay_set (L := L) (ds := [x, y, z]) (o := o) (k := 1) rfl h
  have h2 := lay_set (L := L) (ds := [x, y, z]) (o := o) (k := 2) rfl h
  rw [List.take_zero, lay_nil] at h0
  rw [← h0] at h1
  rw [← h1] at h2
  have e : ([x, y, z] : List UInt8).take 3 = [x, y, z] := rfl
  rw [e, Nat.add_zero] at h2
  rw [← h2, List.set_comm _ _ (show o + 2 ≠ o + 1 by omega), List.set_comm _ _ (show o + 2 ≠ o by omega), List.set_comm _ _ (show o + 1 ≠ o by omega)]

set_option maxHeartbeats 8000000 in
set_option maxRecDepth 100000 in
theorem quantum4_any (E g N cap o c b off n cs si : Nat) (d0 d1 d2 d3 c0 c1 c2 c3 : Nat) (L : List UInt8) (w : World) {base : Nat} (hE : StdAt w E) (hown : w.ownsRow base 5 1 (.slice (some ⟨g, 0, none⟩) N cap) N (L.map bv)) (ho : o + 3 = N) (hn : n = si + 4) (hn2 : n ≤ 16777216)
    (h0 : d0 < 64) (h1 : d1 < 64) (h2 : d2 < 64) (h3 : d3 < 64)
    (x0 : w.cell? ⟨b, off + si, none⟩ = some (.int .u8 c0)) (x1 : w.cell? ⟨b, off + (si + 1), none⟩ = some (.int .u8 c1)) (x2 : w.cell? ⟨b, off + (si + 2), none⟩ = some (.int .u8 c2)) (x3 : w.cell? ⟨b, off + (si + 3), none⟩ = some (.int .u8 c3))
    (m0 : w.cell? ⟨E, 64 + c0, none⟩ = some (.int .u8 d0)) (m1 : w.cell? ⟨E, 64 + c1, none⟩ = some (.int .u8 d1)) (m2 : w.cell? ⟨E, 64 + c2, none⟩ = some (.int .u8 d2)) (m3 : w.cell? ⟨E, 64 + c3, none⟩ = some (.int .u8 d3))
    (hc : c0 < 256 ∧ c1 < 256 ∧ c2 < 256 ∧ c3 < 256) :
    Calls Tryf.prog 63 #[.pointer (some ⟨E, 0, none⟩), .slice (some ⟨g, o, none⟩) (N - o) c, .slice (some ⟨b, off, none⟩) n cs, .int .i64 si] w fun e w' => e = .returned (.tuple #[.int .i64 n, .int .i64 3, .nilIface]) ∧
      w'.ownsRow base 5 1 (.slice (some ⟨g, 0, none⟩) N cap) N ((lay L o (beBytes 3 (((d0 * 64 + d1) * 64 + d2) * 64 + d3))).map bv) ∧ w.grownBy w' (some g) := by
  obtain ⟨hc0, hc1, hc2, hc3⟩ := hc
  have e1 : ((si : Int) + 1).toNat = si + 1 := by omega
  have e2 : ((si : Int) + 2).toNat = si + 2 := by omega
  have e3 : ((si : Int) + 3).toNat = si + 3 := by omega
  have b0 : ((d0 : Int) == 255) = false := by simp; omega
  have b1 : ((d1 : Int) == 255) = false := by simp; omega
  have b2 : ((d2 : Int) == 255) = false := by simp; omega
  have b3 : ((d3 : Int) == 255) = false := by simp; omega
  go_enter Tryf.func63, Tryf.ntmps63
  have hE1 : StdAt (w.alloc (.cells #[.int .u8 0, .int .u8 0, .int .u8 0, .int .u8 0] 98)) E := hE.alloc _
  go_upto_region 4 with (with_reducible refine wpList_load73 rfl (.tmp 19) rfl E rfl hE1 ?_; intro X)
  clear hE1
  have hbl : b < w.heap.size := World.block_lt_of_cell? w _ x0
  have X0 : ∀ ob, (w.alloc ob).cell? ⟨b, off + si, none⟩ = some (.int .u8 c0) := fun ob => (World.cell?_alloc_lt w ob _ hbl).trans x0
  have X1 : ∀ ob, (w.alloc ob).cell? ⟨b, off + (si + 1), none⟩ = some (.int .u8 c1) := fun ob => (World.cell?_alloc_lt w ob ⟨b, off + (si + 1), none⟩ hbl).trans x1
  have X2 : ∀ ob, (w.alloc ob).cell? ⟨b, off + (si + 2), none⟩ = some (.int .u8 c2) := fun ob => (World.cell?_alloc_lt w ob ⟨b, off + (si + 2), none⟩ hbl).trans x2
  have X3 : ∀ ob, (w.alloc ob).cell? ⟨b, off + (si + 3), none⟩ = some (.int .u8 c3) := fun ob => (World.cell?_alloc_lt w ob ⟨b, off + (si + 3), none⟩ hbl).trans x3
  have hEl := hE.lt
  have M0 : ∀ ob, (w.alloc ob).cell? ⟨E, 64 + c0, none⟩ = some (.int .u8 d0) := fun ob => (World.cell?_alloc_lt w ob _ hEl).trans m0
  have M1 : ∀ ob, (w.alloc ob).cell? ⟨E, 64 + c1, none⟩ = some (.int .u8 d1) := fun ob => (World.cell?_alloc_lt w ob ⟨E, 64 + c1, none⟩ hEl).trans m1
  have M2 : ∀ ob, (w.alloc ob).cell? ⟨E, 64 + c2, none⟩ = some (.int .u8 d2) := fun ob => (World.cell?_alloc_lt w ob ⟨E, 64 + c2, none⟩ hEl).trans m2
  have M3 : ∀ ob, (w.alloc ob).cell? ⟨E, 64 + c3, none⟩ = some (.int .u8 d3) := fun ob => (World.cell?_alloc_lt w ob ⟨E, 64 + c3, none⟩ hEl).trans m3
  clear x0 x1 x2 x3 m0 m1 m2 m3
  obtain ⟨V, hV⟩ : ∃ V, V = ((d0 * 64 + d1) * 64 + d2) * 64 + d3 := ⟨_, rfl⟩
  obtain ⟨S1, hS1⟩ : ∃ S, S = (d0 * 64 + d1) * 4096 := ⟨_, rfl⟩
  obtain ⟨S2, hS2⟩ : ∃ S, S = ((d0 * 64 + d1) * 64 + d2) * 64 := ⟨_, rfl⟩
  have s1 : Go.bits .or .u64 ((d0 : Int) * 262144) ((d1 : Int) * 4096) = (S1 : Int) := by
    have h := or_step64 d0 d1 4096 12 rfl h1 (by omega)
    rw [← hS1] at h
    rw [← h]
    congr 1
  have s2 : Go.bits .or .u64 (S1 : Int) ((d2 : Int) * 64) = (S2 : Int) := by
    have h := or_step64 (d0 * 64 + d1) d2 64 6 rfl h2 (by omega)
    rw [show (d0 * 64 + d1) * (64 * 64) = S1 by rw [hS1], ← hS2] at h
    rw [← h]
    congr 1
  have s3 : Go.bits .or .u64 (S2 : Int) (d3 : Int) = (V : Int) := by
    have h := or_step64 ((d0 * 64 + d1) * 64 + d2) d3 1 0 rfl h3 (by omega)
    rw [show ((d0 * 64 + d1) * 64 + d2) * (64 * 1) = S2 by rw [hS2], Nat.mul_one, Nat.mul_one, hS2, ← hV, ← hS2] at h
    exact h
  have hVl : V < 16777216 := by omega
  obtain ⟨B2, hB2⟩ : ∃ B, B = V % 256 := ⟨_, rfl⟩
  obtain ⟨B1, hB1⟩ : ∃ B, B = V / 256 % 256 := ⟨_, rfl⟩
  obtain ⟨B0, hB0⟩ : ∃ B, B = V / 65536 % 256 := ⟨_, rfl⟩
  have t2 : IntKind.u8.wrap (V : Int) = (B2 : Int) := by rw [IntKind.wrap_u8, hB2]; simp
  have t1 : IntKind.u8.wrap ((V : Int) / 256) = (B1 : Int) := by rw [IntKind.wrap_u8, hB1]; simp
  have t0 : IntKind.u8.wrap ((V : Int) / 65536) = (B0 : Int) := by rw [IntKind.wrap_u8, hB0]; simp
  replace hV := hide hV
  clear hS1 hS2
  replace hB0 := hide hB0
  replace hB1 := hide hB1
  replace hB2 := hide hB2
  replace hE := hide hE
  go_wp2
  refine wp_loop_rounds 5 ?_
  rw [rounds_succ]
  go_wp2
  rw [rounds_succ]
  go_wp2
  rw [rounds_succ]
  go_wp2
  rw [rounds_succ]
  go_wp2
  rw [rounds_succ]
  go_upto_region 42 with (fail)
  have hD2 := Blk.new w 98 #[.int .u8 B0, .int .u8 B1, .int .u8 B2, .int .u8 d3]
  have hown2 : (w.alloc (.cells #[.int .u8 B0, .int .u8 B1, .int .u8 B2, .int .u8 d3] 98)).ownsRow base 5 1 (.slice (some ⟨g, 0, none⟩) N cap) N (L.map bv) := hown.alloc _
  have hE2 : StdAt (w.alloc (.cells #[.int .u8 B0, .int .u8 B1, .int .u8 B2, .int .u8 d3] 98)) E := hE.out.alloc _
  have hg2 : w.grownBy (w.alloc (.cells #[.int .u8 B0, .int .u8 B1, .int .u8 B2, .int .u8 d3] 98)) (some g) := World.grownBy_alloc w _ _
  generalize hw2 : w.alloc (.cells #[.int .u8 B0, .int .u8 B1, .int .u8 B2, .int .u8 d3] 98) = w2 at *
  clear hw2 hown X0 X1 X2 X3 M0 M1 M2 M3 s1 s2 s3 t0 t1 t2
  have hBl2 : B2 < 256 := by rw [hB2.out]; exact Nat.mod_lt _ (by omega)
  have hBl1 : B1 < 256 := by rw [hB1.out]; exact Nat.mod_lt _ (by omega)
  have hBl0 : B0 < 256 := by rw [hB0.out]; exact Nat.mod_lt _ (by omega)
  have hLl : Hid (L.length = N) := hide (by simpa using hown2.1)
  have hgD : g ≠ w.heap.size := fun e => own_blk_ne hown2 hD2 (by decide) (by rw [← e]; rfl)
  have hgE : g ≠ E := fun e => own_blk_ne hown2 hE2 (by decide) (by rw [← e]; rfl)
  have hDE : w.heap.size ≠ E := by omega
  have hNo : N - o = 3 := by omega
  -- dst[2]
  obtain ⟨y2, hy2⟩ := own_cell hown2 (show o + 2 < N by omega)
  have hf2 := hown2.frozenAt (o + 2)
  have z2 : w2.cell? ⟨w.heap.size, 2, none⟩ = some (.int .u8 B2) := hD2.cell 2
  have hown3 := own_set hown2 (o + 2) B2 hBl2
  have hg3 := grown_put hg2 (o + 2) (.int .u8 (B2 : Int))
  have hD3 : Blk (w2.setCell ⟨g, o + 2, none⟩ (.int .u8 (B2 : Int))) w.heap.size 98 _ := hD2.far (by simpa using Ne.symm hgD) _
  have hE3 : StdAt (w2.setCell ⟨g, o + 2, none⟩ (.int .u8 (B2 : Int))) E := Blk.far hE2 (by simpa using Ne.symm hgE) _
  replace hD2 := hide hD2
  replace hE2 := hide hE2
  clear hown2 hg2
  go_upto_region 47 with (fail)
  generalize w2.setCell ⟨g, o + 2, none⟩ (.int .u8 (B2 : Int)) = w3 at *
  clear hy2 hf2 z2 hD2 hE2
  -- dbuf[2] = 0
  have z2 : w3.cell? ⟨w.heap.size, 2, none⟩ = some (.int .u8 B2) := hD3.cell 2
  have zf := hD3.frozen 2
  have hown4 := own_other hown3 (D := w.heap.size) (fun e => hgD (Option.some.inj e)) 2 (.int .u8 0)
  have hg4 := grown_new hg3 (Nat.le_refl _) 2 (.int .u8 0)
  have hD4 : Blk (w3.setCell ⟨w.heap.size, 2, none⟩ (.int .u8 0)) w.heap.size 98 #[.int .u8 B0, .int .u8 B1, .int .u8 0, .int .u8 d3] := Blk.put_eq hD3 2 _ rfl
  have hE4 : StdAt (w3.setCell ⟨w.heap.size, 2, none⟩ (.int .u8 0)) E := Blk.far hE3 (by simpa using Ne.symm hDE) _
  replace hD3 := hide hD3
  replace hE3 := hide hE3
  clear hown3 hg3
  go_upto_region 48 with (fail)
  generalize w3.setCell ⟨w.heap.size, 2, none⟩ (.int .u8 0) = w4 at *
  clear z2 zf hD3 hE3
  -- dst[1]
  obtain ⟨y1, hy1⟩ := own_cell hown4 (show o + 1 < N by omega)
  have hf1 := hown4.frozenAt (o + 1)
  have z1 : w4.cell? ⟨w.heap.size, 1, none⟩ = some (.int .u8 B1) := hD4.cell 1
  have hown5 := own_set hown4 (o + 1) B1 hBl1
  have hg5 := grown_put hg4 (o + 1) (.int .u8 (B1 : Int))
  have hD5 : Blk (w4.setCell ⟨g, o + 1, none⟩ (.int .u8 (B1 : Int))) w.heap.size 98 _ := hD4.far (by simpa using Ne.symm hgD) _
  have hE5 : StdAt (w4.setCell ⟨g, o + 1, none⟩ (.int .u8 (B1 : Int))) E := Blk.far hE4 (by simpa using Ne.symm hgE) _
  replace hD4 := hide hD4
  replace hE4 := hide hE4
  clear hown4 hg4
  go_upto_region 49 with (fail)
  generalize w4.setCell ⟨g, o + 1, none⟩ (.int .u8 (B1 : Int)) = w5 at *
  clear hy1 hf1 z1 hD4 hE4
  -- not strict; dbuf[1] = 0
  have hst := std_strict hE5
  have z1 : w5.cell? ⟨w.heap.size, 1, none⟩ = some (.int .u8 B1) := hD5.cell 1
  have zf := hD5.frozen 1
  have hown6 := own_other hown5 (D := w.heap.size) (fun e => hgD (Option.some.inj e)) 1 (.int .u8 0)
  have hg6 := grown_new hg5 (Nat.le_refl _) 1 (.int .u8 0)
  have hD6 : Blk (w5.setCell ⟨w.heap.size, 1, none⟩ (.int .u8 0)) w.heap.size 98 #[.int .u8 B0, .int .u8 0, .int .u8 0, .int .u8 d3] := Blk.put_eq hD5 1 _ rfl
  have hE6 : StdAt (w5.setCell ⟨w.heap.size, 1, none⟩ (.int .u8 0)) E := Blk.far hE5 (by simpa using Ne.symm hDE) _
  replace hD5 := hide hD5
  replace hE5 := hide hE5
  clear hown5 hg5
  go_upto_region 52 with (fail)
  generalize w5.setCell ⟨w.heap.size, 1, none⟩ (.int .u8 0) = w6 at *
  clear z1 zf hst hD5 hE5
  -- dst[0]
  obtain ⟨y0, hy0⟩ := own_cell hown6 (show o < N by omega)
  have hf0 := hown6.frozenAt o
  have z0 : w6.cell? ⟨w.heap.size, 0, none⟩ = some (.int .u8 B0) := hD6.cell 0
  have hown7 := own_set hown6 o B0 hBl0
  have hg7 := grown_put hg6 o (.int .u8 (B0 : Int))
  have hE7 : StdAt (w6.setCell ⟨g, o, none⟩ (.int .u8 (B0 : Int))) E := Blk.far hE6 (by simpa using Ne.symm hgE) _
  replace hD6 := hide hD6
  replace hE6 := hide hE6
  clear hown6 hg6
  go_upto_region 53 with (fail)
  generalize w6.setCell ⟨g, o, none⟩ (.int .u8 (B0 : Int)) = w7 at *
  clear hy0 hf0 z0 hD6 hE6
  have hst := std_strict hE7
  go_wp2
  go_ret3
  refine ⟨by rw [show (si : Int) + 1 + 1 + 1 + 1 = (n : Int) by omega]; rfl, ?_, hg7⟩
  have hb : beBytes 3 V = [UInt8.ofNat B0, UInt8.ofNat B1, UInt8.ofNat B2] := by
    rw [hB0.out, hB1.out, hB2.out]
    exact beBytes3 V
  rw [← hV.out, hb, ← lay3 L o _ _ _ (by rw [hLl.out]; omega)]
  exact hown7
end Go.Proofs.YtfimnjdfchdldaaFmt
