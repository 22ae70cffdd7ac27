/-
  The walks of breakJoinerIntoPieces and of ZZbreakJoiner. Conditions: sizes.
-/
import Derived.Test.YtpfnonkcjlfibaaLOf
import Derived.Test.YtpfnonkcjlfibaaLBrkT
import Derived.Deep.RegionWith
namespace Go.Proofs.Ytpfnonkcjlfibaa
open Go.RowKit

/-- the form that keeps the joiner -/
def outJ (sv tv : Value) (len lb : Int) : Value := .agg #[.slice none 0 0, sv, tv, .int .u32 len, .int .u8 lb]

/-- pieces that lie in blocks of bytes -/
def BrokenP (w : World) (pre : List UInt8) (nf nc : Nat) (zs : List UInt8) (e : Ending) (w' : World) : Prop :=
  ∃ (v : Value) (ps : List Piece), e = .returned (.agg #[v, .slice none 0 0, .slice none 0 0, .int .u32 0, .int .u8 0]) ∧ w'.ownsRow w.heap.size 146 3 v ps.length (pCells ps) ∧
    (∀ q ∈ ps, RdT w' q.A q.n q.zs ∧ q.n ≤ q.c) ∧ ps.length ≤ zs.length + 1 ∧ LM.Brk pre nf nc zs (pks ps) ∧ Below w.heap.size w w'

/-- what breaking a joiner leaves -/
def BrokeJ (w : World) (sv tv : Value) (lb : Int) (TS : List BItem) (C : List UInt8) (pre : List UInt8) (nf nc : Nat) (e : Ending) (w' : World) : Prop :=
  (anyT TS pre = false ∧ e = .returned (outJ sv tv C.length lb) ∧ Below w.heap.size w w') ∨ (anyT TS pre = true ∧ BrokenP w pre nf nc C e w')

theorem r_cells {w : World} {g : Nat} {a b c d f : Value} (h : Blk w g 35 #[a, b, c, d, f]) :
    (w.cell? ⟨g, 0, none⟩ = some a ∧ w.cell? ⟨g, 1, none⟩ = some b ∧ w.cell? ⟨g, 2, none⟩ = some c ∧ w.cell? ⟨g, 3, none⟩ = some d ∧ w.cell? ⟨g, 4, none⟩ = some f) ∧
    (w.frozen? ⟨g, 0, none⟩ = false ∧ w.frozen? ⟨g, 1, none⟩ = false ∧ w.frozen? ⟨g, 2, none⟩ = false ∧ w.frozen? ⟨g, 3, none⟩ = false ∧ w.frozen? ⟨g, 4, none⟩ = false) :=
  ⟨⟨h.cell 0, h.cell 1, h.cell 2, h.cell 3, h.cell 4⟩, h.frozen 0, h.frozen 1, h.frozen 2, h.frozen 3, h.frozen 4⟩

/-- five cells are laid -/
theorem r_laid {w w' : World} {B g : Nat} {cs0 cs1 cs2 cs3 cs4 : Value} {V0 V1 V2 V3 V4 : Value} (h : Blk w' g 35 #[cs0, cs1, cs2, cs3, cs4]) (hb : Below B w w') (hg : B ≤ g) {w3 : World}
    (he : (((((w'.setCell ⟨g, 0, none⟩ V0).setCell ⟨g, 1, none⟩ V1).setCell ⟨g, 2, none⟩ V2).setCell ⟨g, 3, none⟩ V3).setCell ⟨g, 4, none⟩ V4) = w3) :
    Blk w3 g 35 #[V0, V1, V2, V3, V4] ∧ Below B w w3 ∧ w'.grownBy w3 (some g) := by
  subst he
  have h1 := Blk.put_eq h 0 V0 (cs' := #[V0, cs1, cs2, cs3, cs4]) rfl
  have h2 := Blk.put_eq h1 1 V1 (cs' := #[V0, V1, cs2, cs3, cs4]) rfl
  have h3 := Blk.put_eq h2 2 V2 (cs' := #[V0, V1, V2, cs3, cs4]) rfl
  have h4 := Blk.put_eq h3 3 V3 (cs' := #[V0, V1, V2, V3, cs4]) rfl
  have h5 := Blk.put_eq h4 4 V4 (cs' := #[V0, V1, V2, V3, V4]) rfl
  refine ⟨h5, ((((hb.setCell hg _).setCell hg _).setCell hg _).setCell hg _).setCell hg _, ?_⟩
  exact grown_put (grown_put (grown_put (grown_put (grown_put (grown_same _ _) 0 _) 1 _) 2 _) 3 _) 4 _

/-- a piece of a text of bytes lies in a block of bytes -/
theorem piece_typed {w4 w5 : World} {A D : Option Addr} {n m B : Nat} {C zs : List UInt8} (hrt : RdT w4 A n C) (hb : Below w4.heap.size w4 w5) (hr : Rd w5 B D m zs) (hs : SameB A D) (hm : m ≤ n) : RdT w5 D m zs := by
  refine ⟨hr.1, fun h0 => ?_⟩
  obtain ⟨b, off, rfl, _, hc⟩ := hr.2 h0
  obtain ⟨b', off', cs, fr, rfl, hh, _⟩ := (hrt.keep (Keep.below hb)).2 (by omega)
  have hbb : b = b' := by
    have := hs
    unfold SameB at this
    exact Option.some.inj this
  subst hbb
  exact ⟨b, off, cs, fr, rfl, hh, fun j x hx => (cell_of_row w5 b (off + j) cs 5 fr hh).symm.trans (hc j x hx)⟩

theorem keep_grown35 {w w' : World} {g : Nat} {cs : Array Value} (h : Blk w g 35 cs) (hg : w.grownBy w' (some g)) : Keep 5 w w' :=
  (Keep.refl 5 w).grown hg (fun b cs fr e he => by
    obtain rfl := Option.some.inj he
    unfold Blk at h
    rw [h] at e
    cases e)

set_option maxHeartbeats 3200000 in
set_option maxRecDepth 100000 in
theorem breakJ31_any (K : Nat) (p : ByteArray) (nf nc : Nat) (sv tv : Value) (lb : Int) (TS : List BItem) (C : List UInt8) (w : World) {B0 : Nat} (hL : Lk w w.heap.size K p nf nc) (hJ : JV w B0 sv tv [] TS) (hB0 : B0 ≤ w.heap.size) (ht : JM.Tile C (piecesT TS))
    (hp : p.size ≤ 16777216) (hC : C.length ≤ 16777216) (hT : ∀ t ∈ TS, t.n ≤ 16777216) (hnT : TS.length ≤ 16777216) (hnf : nf ≤ 65536) (hnc : nc ≤ 65536) :
    Calls Try.prog 31 #[.pointer (some ⟨K, 0, none⟩), .agg #[sv, tv, .int .u32 C.length, .int .u8 lb]] w (BrokeJ w sv tv lb TS C p.data.toList nf nc) := by
  obtain ⟨A1, q1, rfl, _, _⟩ := own_shape hJ.sOwn
  obtain ⟨A2, q2, rfl, _, _⟩ := own_shape hJ.tOwn
  go_enter Try.func31, Try.ntmps31
  have hLk := hL
  obtain ⟨⟨cs, a5, a6, a10, c10, hk, ⟨k10, k17, k20, k21⟩, hpc, hpr⟩, hK⟩ := hL
  have hJ1 : JS (w.alloc (.cells #[.slice A1 0 q1, .slice A2 TS.length q2, .int .u32 C.length, .int .u8 lb] 33)) B0 w.heap.size [] TS C.length := by
    have hb1 : Below w.heap.size w (w.alloc (.cells #[.slice A1 0 q1, .slice A2 TS.length q2, .int .u32 C.length, .int .u8 lb] 33)) := (Below.refl _ _).alloc (Nat.le_refl _) _
    have := hJ.below hb1
    exact ⟨⟨_, _, lb, Blk.new _ _ _, this.sOwn, this.tOwn⟩, hB0, this.items⟩
  have hb1 : Below w.heap.size w (w.alloc (.cells #[.slice A1 0 q1, .slice A2 TS.length q2, .int .u32 C.length, .int .u8 lb] 33)) := (Below.refl _ _).alloc (Nat.le_refl _) _
  have hs1 : (w.alloc (.cells #[.slice A1 0 q1, .slice A2 TS.length q2, .int .u32 C.length, .int .u8 lb] 33)).heap.size = w.heap.size + 1 := by simp
  have hBJ : Blk (w.alloc (.cells #[.slice A1 0 q1, .slice A2 TS.length q2, .int .u32 C.length, .int .u8 lb] 33)) w.heap.size 33 #[.slice A1 0 q1, .slice A2 TS.length q2, .int .u32 C.length, .int .u8 lb] := Blk.new _ _ _
  go_wp2
  obtain ⟨w1, hw1⟩ : ∃ w1, w.alloc (.cells #[.slice A1 0 q1, .slice A2 TS.length q2, .int .u32 C.length, .int .u8 lb] 33) = w1 := ⟨_, rfl⟩
  rw [hw1] at hJ1 hb1 hs1 hBJ ⊢
  clear hw1
  have hR := Blk.new w1 35 #[.slice none 0 0, .slice none 0 0, .slice none 0 0, .int .u32 0, .int .u8 0]
  have hb2 : Below w1.heap.size w1 (w1.alloc (.cells #[.slice none 0 0, .slice none 0 0, .slice none 0 0, .int .u32 0, .int .u8 0] 35)) := (Below.refl _ _).alloc (Nat.le_refl _) _
  have hs2 : (w1.alloc (.cells #[.slice none 0 0, .slice none 0 0, .slice none 0 0, .int .u32 0, .int .u8 0] 35)).heap.size = w1.heap.size + 1 := by simp
  rw [hs1] at hR hb2 hs2
  obtain ⟨w2, hw2⟩ : ∃ w2, w1.alloc (.cells #[.slice none 0 0, .slice none 0 0, .slice none 0 0, .int .u32 0, .int .u8 0] 35) = w2 := ⟨_, rfl⟩
  rw [hw2] at hR hb2 hs2 ⊢
  clear hw2
  have hJ2 := hJ1.below (by rw [hs1]; exact hb2)
  have hV2 : JV w2 B0 (.slice A1 0 q1) (.slice A2 TS.length q2) [] TS := hJ.below (hb1.trans (hb2.mono (by omega)))
  have hBJ2 : Blk w2 w.heap.size 33 (jBlock (.slice A1 0 q1) (.slice A2 TS.length q2) C.length lb) := hBJ.below hb2 (by omega)
  have hb02 : Below w.heap.size w w2 := hb1.trans (hb2.mono (by omega))
  have hk2 := hk.below hb02 hK
  have x20 := (hk2.cell 20).trans k20
  have x21 := (hk2.cell 21).trans k21
  have hpr2 := hpr.below hb02
  have C1 : ∀ wx, Below w2.heap.size w2 wx → Calls Try.prog 36 #[.pointer (some ⟨w.heap.size, 0, none⟩), .string p, .slice a10 p.size c10] wx fun e w' => e = .returned (.bool (anyT TS p.data.toList)) ∧ Below wx.heap.size wx w' := fun wx hx => by
    have hsx := hx.size
    have := joinContains_any w.heap.size p a10 p.size c10 p.data.toList wx (hJ2.below hx) (by simp) (fun t ht => by have := hT t ht; omega) (by omega) ((hpr2.below (hx.mono (by omega))).more (by omega)) (by omega) (by simp) (by omega)
    simpa [anyS] using this
  clear hJ1 hb1 hb2 hBJ hJ hk hpr k10 k17 k20 k21 hk2
  go_cut [14] (fun s wx => s = .bool (!anyT TS p.data.toList) ∧ Below w2.heap.size w2 wx)
  case first =>
    have hB : Below w2.heap.size w2 w2.drew := (Below.refl _ _).drew
    go_region_with (go_at_call 36; with_reducible refine (C1 _ ?_).mono ?_; exact hB; rintro e w' ⟨rfl, hq⟩; replace hB := hB.trans (hq.mono hB.size))
    all_goals go_wp2
    all_goals go_meet
    all_goals exact ⟨rfl, hB⟩
  case rest =>
    obtain ⟨rfl, hB⟩ := hcut
    have hBs := hB.size
    have hbw : Below w.heap.size w wc := hb02.trans (hB.mono (by omega))
    have hLc : Lk wc wc.heap.size K p nf nc := (hLk.below hbw).more (by omega)
    have hRc := hR.below hB (by omega)
    have hBJc := hBJ2.below hB (by omega)
    have hVc := hV2.below hB
    clear C1 hJ2 hb02 hpr2 hR hBJ2 hV2 x20 x21
    obtain ⟨⟨c0, c1, c2, c3⟩, _⟩ := j_cells hBJc
    obtain ⟨⟨d0, d1, d2, d3, d4⟩, f0, f1, f2, f3, f4⟩ := r_cells hRc
    cases hb : anyT TS p.data.toList with
    | false =>
      replace hb := hide hb
      go_wp2
      generalize hw3 : (((((wc.setCell ⟨w.heap.size + 1, 0, none⟩ (Value.slice none 0 0)).setCell ⟨w.heap.size + 1, 1, none⟩ (Value.slice A1 0 q1)).setCell ⟨w.heap.size + 1, 2, none⟩ (Value.slice A2 TS.length q2)).setCell ⟨w.heap.size + 1, 3, none⟩ (Value.int IntKind.u32 C.length)).setCell ⟨w.heap.size + 1, 4, none⟩ (Value.int IntKind.u8 lb)) = w3
      obtain ⟨hblk3, hbw3, hg3⟩ := r_laid hRc hbw (by omega) hw3
      obtain ⟨⟨g0, g1, g2, g3, g4⟩, _⟩ := r_cells hblk3
      refine bodyPost_ret (by simp [results, Try.results31, go_sem, g0, g1, g2, g3, g4]; try rfl) rfl ?_
      exact .inl ⟨hb.out, rfl, hbw3⟩
    | true =>
      replace hb := hide hb
      go_wp2_with fail
      refine (done_at w.heap.size 0 C wc ⟨hBJc.lt, c0, c1, c2⟩ hVc ht (by omega) (by simp) (by omega)).mono ?_
      rintro e w4 ⟨A, n, c, rfl, hrt, hnc', hb4⟩
      have hs4 := hb4.size
      have hlen := hrt.1
      have hL4 := (hLc.below hb4).more hs4
      have hR4 := hRc.below hb4 hRc.lt
      go_wp2_with fail
      refine (breakT_any K A n c C p nf nc w4 hL4 (Nat.le_refl _) hrt.rd hnc' (by omega) hp hnf hnc).mono ?_
      rintro e w5 ⟨v, ps, rfl, hown, hit, hlen5, hbrk, hb5⟩
      have hR5 := hR4.below hb5 hR4.lt
      clear d0 d1 d2 d3 d4 f0 f1 f2 f3 f4
      obtain ⟨⟨d0, d1, d2, d3, d4⟩, f0, f1, f2, f3, f4⟩ := r_cells hR5
      obtain ⟨A5, c5, rfl, hc5, hs5⟩ := own_shape hown
      have hbw5 : Below w.heap.size w w5 := (hbw.trans (hb4.mono (by omega))).trans (hb5.mono (by omega))
      go_wp2
      generalize hw3 : (((((w5.setCell ⟨w.heap.size + 1, 0, none⟩ (Value.slice A5 ps.length c5)).setCell ⟨w.heap.size + 1, 1, none⟩ (Value.slice none 0 0)).setCell ⟨w.heap.size + 1, 2, none⟩ (Value.slice none 0 0)).setCell ⟨w.heap.size + 1, 3, none⟩ (Value.int IntKind.u32 0)).setCell ⟨w.heap.size + 1, 4, none⟩ (Value.int IntKind.u8 0)) = w3
      obtain ⟨hblk3, hbw3, hg3⟩ := out_laid hR5 hbw5 (by omega) hw3
      obtain ⟨⟨g0, g1, g2, g3, g4⟩, _⟩ := out_cells hblk3
      refine bodyPost_ret (by simp [results, Try.results31, go_sem, g0, g1, g2, g3, g4]; try rfl) rfl ?_
      have hown3 := hown.kept hg3 (.inr (own_blk_ne hown hR5 (by decide)))
      have hle : ∀ q ∈ ps, q.n ≤ n := fun q hq => by
        have := hbrk.len (q.zs, q.idx, q.kind) (List.mem_map.2 ⟨q, hq, rfl⟩)
        rw [(hit q hq).1.len, hlen] at this
        exact this
      have hk5 := keep_grown35 hR5 hg3
      refine .inr ⟨hb.out, .slice A5 ps.length c5, ps, rfl, own_less hown3 (by omega), fun q hq => ⟨(piece_typed hrt hb5 (hit q hq).1 (hit q hq).2.2 (hle q hq)).keep hk5, (hit q hq).2.1⟩, hlen5, hbrk, hbw3⟩

set_option maxHeartbeats 3200000 in
set_option maxRecDepth 100000 in
theorem breakJ_any (K : Nat) (p : ByteArray) (nf nc : Nat) (sv tv : Value) (lb : Int) (TS : List BItem) (C : List UInt8) (w : World) {B0 : Nat} (hL : Lk w w.heap.size K p nf nc) (hJ : JV w B0 sv tv [] TS) (hB0 : B0 ≤ w.heap.size) (ht : JM.Tile C (piecesT TS))
    (hp : p.size ≤ 16777216) (hC : C.length ≤ 16777216) (hT : ∀ t ∈ TS, t.n ≤ 16777216) (hnT : TS.length ≤ 16777216) (hnf : nf ≤ 65536) (hnc : nc ≤ 65536) :
    Calls Try.prog 11 #[.pointer (some ⟨K, 0, none⟩), .agg #[sv, tv, .int .u32 C.length, .int .u8 lb]] w (BrokeJ w sv tv lb TS C p.data.toList nf nc) := by
  obtain ⟨A1, q1, rfl, _, _⟩ := own_shape hJ.sOwn
  obtain ⟨A2, q2, rfl, _, _⟩ := own_shape hJ.tOwn
  go_enter Try.func11, Try.ntmps11
  have hb1 : Below w.heap.size w (w.alloc (.cells #[.slice A1 0 q1, .slice A2 TS.length q2, .int .u32 C.length, .int .u8 lb] 33)) := (Below.refl _ _).alloc (Nat.le_refl _) _
  have hs1 : (w.alloc (.cells #[.slice A1 0 q1, .slice A2 TS.length q2, .int .u32 C.length, .int .u8 lb] 33)).heap.size = w.heap.size + 1 := by simp
  have hBJ : Blk (w.alloc (.cells #[.slice A1 0 q1, .slice A2 TS.length q2, .int .u32 C.length, .int .u8 lb] 33)) w.heap.size 33 #[.slice A1 0 q1, .slice A2 TS.length q2, .int .u32 C.length, .int .u8 lb] := Blk.new _ _ _
  go_upto_region 1 with (fail)
  obtain ⟨w1, hw1⟩ : ∃ w1, w.alloc (.cells #[.slice A1 0 q1, .slice A2 TS.length q2, .int .u32 C.length, .int .u8 lb] 33) = w1 := ⟨_, rfl⟩
  rw [hw1] at hb1 hs1 hBJ ⊢
  clear hw1
  have hR := Blk.new w1 35 #[.slice none 0 0, .slice none 0 0, .slice none 0 0, .int .u32 0, .int .u8 0]
  have hb2 : Below w1.heap.size w1 (w1.alloc (.cells #[.slice none 0 0, .slice none 0 0, .slice none 0 0, .int .u32 0, .int .u8 0] 35)) := (Below.refl _ _).alloc (Nat.le_refl _) _
  have hs2 : (w1.alloc (.cells #[.slice none 0 0, .slice none 0 0, .slice none 0 0, .int .u32 0, .int .u8 0] 35)).heap.size = w1.heap.size + 1 := by simp
  rw [hs1] at hR hb2 hs2
  obtain ⟨w2, hw2⟩ : ∃ w2, w1.alloc (.cells #[.slice none 0 0, .slice none 0 0, .slice none 0 0, .int .u32 0, .int .u8 0] 35) = w2 := ⟨_, rfl⟩
  rw [hw2] at hR hb2 hs2 ⊢
  clear hw2
  have hb02 : Below w.heap.size w w2 := hb1.trans (hb2.mono (by omega))
  have hV2 : JV w2 B0 (.slice A1 0 q1) (.slice A2 TS.length q2) [] TS := hJ.below hb02
  have hBJ2 := hBJ.below hb2 (by omega)
  have hL2 : Lk w2 w2.heap.size K p nf nc := (hL.below hb02).more (by omega)
  obtain ⟨⟨c0, c1, c2, c3⟩, _⟩ := j_cells hBJ2
  clear hb1 hb2 hBJ hJ hL
  go_wp2_with fail
  refine (breakJ31_any K p nf nc _ _ lb TS C w2 hL2 hV2 (by omega) ht hp hC hT hnT hnf hnc).mono ?_
  rintro e w3 (⟨hany, rfl, hb3⟩ | ⟨hany, v, ps, rfl, hown, hit, hlen5, hbrk, hb3⟩)
  · have hR3 := hR.below hb3 (by omega)
    have hbw3 : Below w.heap.size w w3 := hb02.trans (hb3.mono (by omega))
    obtain ⟨⟨d0, d1, d2, d3, d4⟩, f0, f1, f2, f3, f4⟩ := r_cells hR3
    clear c0 c1 c2 c3
    replace hany := hide hany
    unfold outJ
    go_wp2
    generalize hw4 : (((((w3.setCell ⟨w.heap.size + 1, 0, none⟩ (Value.slice none 0 0)).setCell ⟨w.heap.size + 1, 1, none⟩ (Value.slice A1 0 q1)).setCell ⟨w.heap.size + 1, 2, none⟩ (Value.slice A2 TS.length q2)).setCell ⟨w.heap.size + 1, 3, none⟩ (Value.int IntKind.u32 C.length)).setCell ⟨w.heap.size + 1, 4, none⟩ (Value.int IntKind.u8 lb)) = w4
    obtain ⟨hblk4, hbw4, hg4⟩ := r_laid hR3 hbw3 (by omega) hw4
    obtain ⟨⟨g0, g1, g2, g3, g4⟩, _⟩ := r_cells hblk4
    refine bodyPost_ret (by simp [results, Try.results11, go_sem, g0, g1, g2, g3, g4]; try rfl) rfl ?_
    exact .inl ⟨hany.out, rfl, hbw4⟩
  · have hR3 := hR.below hb3 (by omega)
    have hbw3 : Below w.heap.size w w3 := hb02.trans (hb3.mono (by omega))
    obtain ⟨⟨d0, d1, d2, d3, d4⟩, f0, f1, f2, f3, f4⟩ := r_cells hR3
    obtain ⟨A5, c5, rfl, hc5, hs5⟩ := own_shape hown
    clear c0 c1 c2 c3
    replace hany := hide hany
    go_wp2
    generalize hw4 : (((((w3.setCell ⟨w.heap.size + 1, 0, none⟩ (Value.slice A5 ps.length c5)).setCell ⟨w.heap.size + 1, 1, none⟩ (Value.slice none 0 0)).setCell ⟨w.heap.size + 1, 2, none⟩ (Value.slice none 0 0)).setCell ⟨w.heap.size + 1, 3, none⟩ (Value.int IntKind.u32 0)).setCell ⟨w.heap.size + 1, 4, none⟩ (Value.int IntKind.u8 0)) = w4
    obtain ⟨hblk4, hbw4, hg4⟩ := out_laid hR3 hbw3 (by omega) hw4
    obtain ⟨⟨g0, g1, g2, g3, g4⟩, _⟩ := out_cells hblk4
    refine bodyPost_ret (by simp [results, Try.results11, go_sem, g0, g1, g2, g3, g4]; try rfl) rfl ?_
    have hown4 := hown.kept hg4 (.inr (own_blk_ne hown hR3 (by decide)))
    have hk5 := keep_grown35 hR3 hg4
    exact .inr ⟨hany.out, .slice A5 ps.length c5, ps, rfl, own_less hown4 (show w.heap.size ≤ w2.heap.size by omega), fun q hq => ⟨(hit q hq).1.keep hk5, (hit q hq).2⟩, hlen5, hbrk, hbw4⟩
end Go.Proofs.Ytpfnonkcjlfibaa
