/-
  The walks of the readers of an output, and of ZZbreakOutput. Conditions: the output is of pieces.
-/
import Derived.Test.YtpfnonkcjlfibaaLBrk
namespace Go.Proofs.Ytpfnonkcjlfibaa
open Go.RowKit

/-- the pieces that a value holds; all below block B -/
def Holds (w : World) (B : Nat) (v : Value) (ps : List Piece) : Prop :=
  ∃ g cap, v = .slice (some ⟨g, 0, none⟩) ps.length cap ∧ ps.length ≤ cap ∧ g < B ∧
    (∀ i q, ps[i]? = some q → w.cell? ⟨g, i * 3, none⟩ = some (.slice q.A q.n q.c) ∧ w.cell? ⟨g, i * 3 + 1, none⟩ = some (.int .u32 (q.idx : Int)) ∧ w.cell? ⟨g, i * 3 + 2, none⟩ = some (.int .u8 (q.kind : Int))) ∧
    ∀ q ∈ ps, Rd w B q.A q.n q.zs ∧ q.n ≤ q.c

theorem Holds.below {w w' : World} {B : Nat} {v : Value} {ps : List Piece} (h : Holds w B v ps) (hb : Below B w w') : Holds w' B v ps := by
  obtain ⟨g, cap, e, hc, hg, hcell, hr⟩ := h
  refine ⟨g, cap, e, hc, hg, fun i q hq => ?_, fun q hq => ⟨(hr q hq).1.below hb, (hr q hq).2⟩⟩
  obtain ⟨h1, h2, h3⟩ := hcell i q hq
  exact ⟨(hb.cell (p := ⟨g, i * 3, none⟩) hg).trans h1, (hb.cell (p := ⟨g, i * 3 + 1, none⟩) hg).trans h2, (hb.cell (p := ⟨g, i * 3 + 2, none⟩) hg).trans h3⟩
theorem Holds.more {w : World} {B B' : Nat} {v : Value} {ps : List Piece} (h : Holds w B v ps) (hb : B ≤ B') : Holds w B' v ps := by
  obtain ⟨g, cap, e, hc, hg, hcell, hr⟩ := h
  exact ⟨g, cap, e, hc, by omega, hcell, fun q hq => ⟨(hr q hq).1.more hb, (hr q hq).2⟩⟩

theorem pCells_get {ps : List Piece} {k : Nat} {q : Piece} (h : ps[k]? = some q) : (pCells ps)[k * 3]? = some (.slice q.A q.n q.c) ∧ (pCells ps)[k * 3 + 1]? = some (.int .u32 (q.idx : Int)) ∧ (pCells ps)[k * 3 + 2]? = some (.int .u8 (q.kind : Int)) := by
  induction ps generalizing k with
  | nil => simp at h
  | cons a ps ih =>
    cases k with
    | zero =>
      obtain rfl := Option.some.inj (List.getElem?_cons_zero.symm.trans h)
      exact ⟨rfl, rfl, rfl⟩
    | succ k =>
      have h' : ps[k]? = some q := by simpa using h
      obtain ⟨h1, h2, h3⟩ := ih h'
      have e : pCells (a :: ps) = .slice a.A a.n a.c :: .int .u32 (a.idx : Int) :: .int .u8 (a.kind : Int) :: pCells ps := rfl
      rw [e, show (k + 1) * 3 = k * 3 + 1 + 1 + 1 by omega]
      exact ⟨h1, h2, h3⟩

/-- what ZZbreakOutput leaves -/
def BrokenTo (w : World) (pre : List UInt8) (nf nc : Nat) (zs : List UInt8) (e : Ending) (w' : World) : Prop :=
  ∃ (v : Value) (ps : List Piece), e = .returned (.agg #[v, .slice none 0 0, .slice none 0 0, .int .u32 0, .int .u8 0]) ∧ Holds w' w'.heap.size v ps ∧ ps.length ≤ zs.length + 1 ∧ LM.Brk pre nf nc zs (pks ps) ∧ Below w.heap.size w w'

theorem pks_length (ps : List Piece) : (pks ps).length = ps.length := by simp [pks]
theorem pks_get {ps : List Piece} {i : Nat} {q : Piece} (h : ps[i]? = some q) : (pks ps)[i]? = some (q.zs, q.idx, q.kind) := by simp [pks, h]

theorem holds_of {B B0 : Nat} {w' : World} {v : Value} {ps : List Piece} (hown : w'.ownsRow B0 146 3 v ps.length (pCells ps)) (hit : ∀ q ∈ ps, Rd w' B q.A q.n q.zs ∧ q.n ≤ q.c) (hB : B ≤ w'.heap.size) (h0 : 0 < ps.length) : Holds w' w'.heap.size v ps := by
  obtain ⟨A, c, rfl, hc, hs⟩ := own_shape hown
  obtain ⟨g, rfl, hg, hcell⟩ := hs h0
  refine ⟨g, c, rfl, hc, hg, fun i q hq => ?_, fun q hq => ⟨(hit q hq).1.more hB, (hit q hq).2⟩⟩
  obtain ⟨h1, h2, h3⟩ := pCells_get hq
  exact ⟨hcell _ _ h1, hcell _ _ h2, hcell _ _ h3⟩
theorem brk_pos {pre zs : List UInt8} {nf nc : Nat} {ps : List Piece} (h : LM.Brk pre nf nc zs (pks ps)) : 0 < ps.length := by
  rw [← pks_length]
  exact List.length_pos_iff.2 h.ne

section
variable {w : World} {v : Value} {ps : List Piece}
def outV (v : Value) : Value := .agg #[v, .slice none 0 0, .slice none 0 0, .int .u32 0, .int .u8 0]

set_option maxHeartbeats 400000 in
theorem isPieces_any (h : Holds w w.heap.size v ps) :
    Calls Try.prog 13 #[outV v] w fun e w' => e = .returned (.bool true) ∧ Below w.heap.size w w' := by
  obtain ⟨g, cap, rfl, hc, hg, hcell, hr⟩ := h
  unfold outV
  have heq : ∀ w : World, (binOp .neq 28 (.slice (some ⟨g, 0, none⟩) ps.length cap) (.slice none 0 0)).run Try.prog w = .ok (.bool true) w := fun w => Go.run_neq_slice_nil_any w 28 146 _ _ _ _ _ Try.underlying28
  go_enter Try.func13, Try.ntmps13
  go_wp2
  go_ret
  exact ⟨rfl, (Below.refl _ _).alloc (Nat.le_refl _) _⟩

set_option maxHeartbeats 400000 in
theorem count_any (h : Holds w w.heap.size v ps) :
    Calls Try.prog 14 #[outV v] w fun e w' => e = .returned (.int .i64 ps.length) ∧ Below w.heap.size w w' := by
  obtain ⟨g, cap, rfl, hc, hg, hcell, hr⟩ := h
  unfold outV
  go_enter Try.func14, Try.ntmps14
  go_wp2
  go_ret
  exact ⟨rfl, (Below.refl _ _).alloc (Nat.le_refl _) _⟩

set_option maxHeartbeats 400000 in
theorem kind_any (h : Holds w w.heap.size v ps) {i : Nat} {q : Piece} (hi : ps[i]? = some q) :
    Calls Try.prog 15 #[outV v, .int .i64 i] w fun e w' => e = .returned (.int .u8 q.kind) ∧ Below w.heap.size w w' := by
  obtain ⟨g, cap, rfl, hc, hg, hcell, hr⟩ := h
  have hlt := (List.getElem?_eq_some_iff.1 hi).1
  obtain ⟨h1, h2, h3⟩ := hcell i q hi
  clear hi hcell
  unfold outV
  go_enter Try.func15, Try.ntmps15
  go_wp2
  go_ret
  exact ⟨rfl, (Below.refl _ _).alloc (Nat.le_refl _) _⟩

set_option maxHeartbeats 400000 in
theorem data_any (h : Holds w w.heap.size v ps) {i : Nat} {q : Piece} (hi : ps[i]? = some q) :
    Calls Try.prog 26 #[outV v, .int .i64 i] w fun e w' => e = .returned (.slice q.A q.n q.c) ∧ Below w.heap.size w w' := by
  obtain ⟨g, cap, rfl, hc, hg, hcell, hr⟩ := h
  have hlt := (List.getElem?_eq_some_iff.1 hi).1
  obtain ⟨h1, h2, h3⟩ := hcell i q hi
  clear hi hcell
  unfold outV
  go_enter Try.func26, Try.ntmps26
  go_wp2
  go_ret
  exact ⟨rfl, (Below.refl _ _).alloc (Nat.le_refl _) _⟩

set_option maxHeartbeats 400000 in
theorem index_of_any (h : Holds w w.heap.size v ps) {i : Nat} {q : Piece} (hi : ps[i]? = some q) :
    Calls Try.prog 27 #[outV v, .int .i64 i] w fun e w' => e = .returned (.int .u32 q.idx) ∧ Below w.heap.size w w' := by
  obtain ⟨g, cap, rfl, hc, hg, hcell, hr⟩ := h
  have hlt := (List.getElem?_eq_some_iff.1 hi).1
  obtain ⟨h1, h2, h3⟩ := hcell i q hi
  clear hi hcell
  unfold outV
  go_enter Try.func27, Try.ntmps27
  go_wp2
  go_ret
  exact ⟨rfl, (Below.refl _ _).alloc (Nat.le_refl _) _⟩
end

set_option maxHeartbeats 1600000 in
set_option maxRecDepth 100000 in
theorem breakOut_any (K : Nat) (A : Option Addr) (n c : Nat) (zs : List UInt8) (p : ByteArray) (nf nc : Nat) (w : World) (hL : Lk w w.heap.size K p nf nc) (hr : Rd w w.heap.size A n zs) (hc : n ≤ c) (hn : n ≤ 16777216) (hp : p.size ≤ 16777216) (hnf : nf ≤ 65536) (hnc : nc ≤ 65536) :
    Calls Try.prog 22 #[.pointer (some ⟨K, 0, none⟩), .slice A n c] w (BrokenTo w p.data.toList nf nc zs) := by
  go_enter Try.func22, Try.ntmps22
  have hw1 := Blk.new w 35 #[.slice none 0 0, .slice none 0 0, .slice none 0 0, .int .u32 0, .int .u8 0]
  have hb1 : Below w.heap.size w (w.alloc (.cells #[.slice none 0 0, .slice none 0 0, .slice none 0 0, .int .u32 0, .int .u8 0] 35)) := (Below.refl _ _).alloc (Nat.le_refl _) _
  have hs1 : (w.alloc (.cells #[.slice none 0 0, .slice none 0 0, .slice none 0 0, .int .u32 0, .int .u8 0] 35)).heap.size = w.heap.size + 1 := by simp
  go_wp2_with (go_at_call 35; refine (break_any K A n c zs p nf nc _ ((hL.below hb1).more (by omega)) (B := w.heap.size) (by omega) (hr.below hb1) hc hn hp hnf hnc).mono ?_; rintro e w' hbr; obtain ⟨v, ps, rfl, hown, hit, hlen, hbrk, hb⟩ := hbr; have hblk := hw1.below hb (by omega); obtain ⟨⟨d0, d1, d2, d3, d4⟩, f0, f1, f2, f3, f4⟩ := out_cells hblk; obtain ⟨A2, c2, rfl, hc2, hs2⟩ := own_shape hown)
  have hbw : Below w.heap.size w w' := hb1.trans (hb.mono (by omega))
  generalize hw3 : (((((w'.setCell ⟨w.heap.size, 0, none⟩ (Value.slice A2 ps.length c2)).setCell ⟨w.heap.size, 1, none⟩ (Value.slice none 0 0)).setCell ⟨w.heap.size, 2, none⟩ (Value.slice none 0 0)).setCell ⟨w.heap.size, 3, none⟩ (Value.int IntKind.u32 0)).setCell ⟨w.heap.size, 4, none⟩ (Value.int IntKind.u8 0)) = w3
  obtain ⟨hblk3, hbw3, hg3⟩ := out_laid hblk hbw (Nat.le_refl _) hw3
  obtain ⟨_, hbr3, _⟩ := out_laid hblk (Below.refl w.heap.size w') (Nat.le_refl _) hw3
  obtain ⟨⟨g0, g1, g2, g3, g4⟩, _⟩ := out_cells hblk3
  refine bodyPost_ret (by simp [results, Try.results22, go_sem, g0, g1, g2, g3, g4]; try rfl) rfl ?_
  have hown3 := hown.kept hg3 (.inr (own_blk_ne hown hblk (by decide)))
  exact ⟨.slice A2 ps.length c2, ps, rfl, holds_of hown3 (fun q hq => ⟨(hit q hq).1.below hbr3, (hit q hq).2⟩) hbw3.size (brk_pos hbrk), hlen, hbrk, hbw3⟩
end Go.Proofs.Ytpfnonkcjlfibaa
