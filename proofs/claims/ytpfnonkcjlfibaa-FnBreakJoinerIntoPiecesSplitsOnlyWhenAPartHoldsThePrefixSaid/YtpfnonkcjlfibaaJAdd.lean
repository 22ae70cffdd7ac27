/-
  The walk of Joiner.AddBytes. Conditions: the joined length stays below 4294967296.
-/
import Derived.Test.YtpfnonkcjlfibaaJMem
import Derived.WalkLawsBesides
import Derived.WalkSpells
import Derived.LoopTactic
import Derived.Deep.DeepCutAuto
import Derived.Deep.RegionLaw
import Derived.Outline
namespace Go.Proofs.Ytpfnonkcjlfibaa
open Go.RowKit

theorem E29 : ElemT Try.prog 29 156 (.agg #[.string ByteArray.empty, .int .u32 0]) 2 24 := ⟨Try.underlying29, by kernel_rfl, rfl, by decide⟩
theorem E30 : ElemT Try.prog 30 154 (.agg #[.slice none 0 0, .int .u32 0]) 2 32 := ⟨Try.underlying30, by kernel_rfl, rfl, by decide⟩

theorem blk_cells {w : World} {J : Nat} {sv tv : Value} {len lb : Int} (h : Blk w J 33 (jBlock sv tv len lb)) :
    (w.cell? ⟨J, 0, none⟩ = some sv ∧ w.cell? ⟨J, 1, none⟩ = some tv ∧ w.cell? ⟨J, 2, none⟩ = some (.int .u32 len) ∧ w.cell? ⟨J, 3, none⟩ = some (.int .u8 lb)) ∧
    (w.frozen? ⟨J, 0, none⟩ = false ∧ w.frozen? ⟨J, 1, none⟩ = false ∧ w.frozen? ⟨J, 2, none⟩ = false ∧ w.frozen? ⟨J, 3, none⟩ = false) :=
  ⟨⟨h.cell 0, h.cell 1, h.cell 2, h.cell 3⟩, h.frozen 0, h.frozen 1, h.frozen 2, h.frozen 3⟩

/-- what the calls that add leave -/
def Added (w : World) (B0 J : Nat) (SS : List (ByteArray × Nat)) (TS : List BItem) (len : Nat) (w' : World) : Prop := JS w' B0 J SS TS len ∧ Below B0 w w' ∧ Keep 5 w w'

theorem last_put {w : World} {B0 J : Nat} {SS : List (ByteArray × Nat)} {TS : List BItem} {len : Nat} (h : JS w B0 J SS TS len) (n : Int) : Added w B0 J SS TS len (w.setCell ⟨J, 3, none⟩ (.int .u8 n)) := by
  obtain ⟨⟨sv, tv, lb, h1, h2, h3⟩, h4, h5⟩ := h
  have hk : Keep 5 w (w.setCell ⟨J, 3, none⟩ (.int .u8 n)) := (Keep.refl 5 w).setCell (fun cs fr e => by unfold Blk at h1; rw [h1] at e; cases e)
  have hg : w.grownBy (w.setCell ⟨J, 3, none⟩ (.int .u8 n)) (some J) := ⟨rfl, rfl, rfl, by simp [World.setCell], fun k _ hk => Below.heap_setCell _ _ _ _ (fun e => hk (by rw [e]))⟩
  refine ⟨⟨⟨sv, tv, n, h1.put 3 _, h2.kept hg (.inr (own_blk_ne h2 h1 (by decide))), h3.kept hg (.inr (own_blk_ne h3 h1 (by decide)))⟩, h4, fun t ht => ⟨(h5 t ht).1.keep hk, (h5 t ht).2⟩⟩, (Below.refl _ _).setCell h4 _, hk⟩

/-- behind the append of a byte piece and the two stores -/
theorem added_t {wc w' : World} {B0 J g cap : Nat} {sv tv : Value} {len lb : Int} {SS : List (ByteArray × Nat)} {TS : List BItem} {t : BItem} {n : Int} {N : Nat}
    (h1 : Blk wc J 33 (jBlock sv tv len lb)) (h2 : wc.ownsRow B0 156 2 sv SS.length (sCells SS)) (h3 : wc.ownsRow B0 154 2 tv TS.length (tCells TS)) (h4 : B0 ≤ J) (h5 : ∀ t ∈ TS, RdT wc t.A t.n t.zs ∧ t.n ≤ t.c)
    (ht : RdT wc t.A t.n t.zs) (htc : t.n ≤ t.c)
    (hown : w'.ownsRow B0 154 2 (.slice (some ⟨g, 0, none⟩) (TS.length + 1) cap) (TS.length + 1) (tCells TS ++ [.slice t.A t.n t.c, .int .u32 (t.off : Int)])) (hg : wc.drew.grownBy w' tv.ownBlock) (hn : n = (N : Int)) :
    Added wc B0 J SS (TS ++ [t]) N ((w'.setCell ⟨J, 1, none⟩ (.slice (some ⟨g, 0, none⟩) (TS.length + 1) cap)).setCell ⟨J, 2, none⟩ (.int .u32 n)) := by
  subst hn
  have hJ : some J ≠ tv.ownBlock := fun e => own_blk_ne h3 h1 (by decide) e.symm
  have hb' : Blk w' J 33 (jBlock sv tv len lb) := Blk.grown (w := wc.drew) h1 hg hJ
  have hk1 : Keep 5 wc w' := (Keep.refl 5 wc).drew.grown hg (fun b cs fr e he => own_blk_ne h3 e (by decide) he)
  have hs1 : w'.ownsRow B0 156 2 sv SS.length (sCells SS) := h2.drew.kept hg (own_own_ne h2 h3 (by decide))
  have hb1 : Below B0 wc w' := (Below.refl B0 wc).drew.grown hg (Nat.le_trans h4 (Nat.le_of_lt h1.lt)) (fun k hk => (h3.lt k hk).1)
  generalize hV : Value.slice (some ⟨g, 0, none⟩) (TS.length + 1) cap = V at *
  have hb2 : Blk ((w'.setCell ⟨J, 1, none⟩ V).setCell ⟨J, 2, none⟩ (.int .u32 (N : Int))) J 33 (jBlock sv V N lb) := (hb'.put 1 V).put 2 _
  have hg2 : w'.grownBy ((w'.setCell ⟨J, 1, none⟩ V).setCell ⟨J, 2, none⟩ (.int .u32 (N : Int))) (some J) :=
    ⟨rfl, rfl, rfl, by simp [World.setCell], fun k _ hk => (Below.heap_setCell _ _ _ _ (fun e => hk (by rw [e]))).trans (Below.heap_setCell _ _ _ _ (fun e => hk (by rw [e])))⟩
  have hk2 : Keep 5 wc ((w'.setCell ⟨J, 1, none⟩ V).setCell ⟨J, 2, none⟩ (.int .u32 (N : Int))) := hk1.grown hg2 (fun b cs fr e he => by
    obtain rfl := Option.some.inj he
    unfold Blk at hb'
    rw [hb'] at e
    cases e)
  refine ⟨⟨⟨sv, V, lb, hb2, hs1.kept hg2 (.inr (own_blk_ne hs1 hb' (by decide))), ?_⟩, h4, fun u hu => ?_⟩, (hb1.setCell h4 _).setCell h4 _, hk2⟩
  · rw [tCells_add, List.length_append]
    exact hown.kept hg2 (.inr (own_blk_ne hown hb' (by decide)))
  · rw [List.mem_append, List.mem_singleton] at hu
    rcases hu with hu | rfl
    · exact ⟨(h5 u hu).1.keep hk2, (h5 u hu).2⟩
    · exact ⟨ht.keep hk2, htc⟩

set_option maxHeartbeats 800000 in
theorem addBytes_any (J : Nat) (A : Option Addr) (n c : Nat) (zs : List UInt8) (w : World) {B0 : Nat} {SS : List (ByteArray × Nat)} {TS : List BItem} {len : Nat} (h : JS w B0 J SS TS len) (hz : RdT w A n zs) (hc : n ≤ c) (hlen : len + n < 4294967296) (hcnt : TS.length < 4294967295) :
    Calls Try.prog 32 #[.pointer (some ⟨J, 0, none⟩), .slice A n c] w fun e w' => e = .returned (.tuple #[]) ∧ Added w B0 J SS (TS ++ [⟨A, n, c, zs, len⟩]) (len + n) w' := by
  go_enter Try.func32, Try.ntmps32
  go_upto_if 6 with (fail)
  go_cut [] (fun wx => Added w B0 J SS TS len wx)
  case first =>
    by_cases h0 : 0 < n
    · obtain ⟨sv, tv, lb, h1, _, _⟩ := h.blk
      obtain ⟨⟨c0, c1, c2, c3⟩, f0, f1, f2, f3⟩ := blk_cells h1
      obtain ⟨b, off, x, rfl, hbl, hx, hcx⟩ := hz.rd.at (show n - 1 < n by omega)
      clear hx
      have e1 : ((n : Int) - 1).toNat = n - 1 := by omega
      go_wp2
      go_meet
      exact last_put h _
    · go_wp2
      go_meet
      exact ⟨h, Below.refl _ _, Keep.refl _ _⟩
  case rest =>
    obtain ⟨h', hb, hk⟩ := hcut
    have hz' := hz.keep hk
    clear h hz
    obtain ⟨⟨sv, tv, lb, h1, h2, h3⟩, h4, h5⟩ := h'
    obtain ⟨⟨c0, c1, c2, c3⟩, f0, f1, f2, f3⟩ := blk_cells h1
    have hJ := h1.lt
    have hne : wc.heap.size ≠ J := by omega
    have hJs : some J ≠ tv.ownBlock := fun e => own_blk_ne h3 h1 (by decide) e.symm
    go_wp2
    go_region_law (first | (refine step_push E30 rfl _ _ rfl h3.drew rfl #[_, _] rfl rfl (by intro u hu; simp at hu; rcases hu with rfl | rfl <;> rfl) (by omega) (by decide) (Nat.le_trans h4 (Nat.le_of_lt hJ)) ?_; intro g cap w1 hown hg; obtain ⟨⟨d0, d1, d2, d3⟩, e0, e1, e2, e3⟩ := blk_cells (Blk.grown (w := wc.drew) h1 hg hJs)))
    all_goals
      go_wp2
      go_end0
      refine ⟨rfl, ?_⟩
      have hA := added_t (t := ⟨A, n, c, zs, len⟩) (n := (len : Int) + n) (N := len + n) h1 h2 h3 h4 h5 hz' hc hown hg (by omega)
      obtain ⟨q1, q2, q3⟩ := hA
      refine ⟨q1, hb.trans q2, hk.trans q3⟩
end Go.Proofs.Ytpfnonkcjlfibaa
