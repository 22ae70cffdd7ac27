/-
  The walk of ZZjoinerOf: the joiner's parts are the given parts. Conditions: sizes.
-/
import Derived.Test.YtpfnonkcjlfibaaLClone
import Derived.Test.YtpfnonkcjlfibaaLDone
namespace Go.Proofs.Ytpfnonkcjlfibaa
open Go.RowKit

/-- the first k parts as a joiner's byte pieces -/
structure Items (qs : List Part) (k : Nat) (TS : List BItem) : Prop where
  len : TS.length = k
  same : TS.map (·.zs) = (qs.take k).map (·.zs)
  tile : JM.Tile (catP (qs.take k)) (piecesT TS)

theorem Items.zero (qs : List Part) : Items qs 0 [] := ⟨rfl, rfl, JM.Tile.nil⟩
theorem Items.add {qs : List Part} {k : Nat} {TS : List BItem} {q : Part} (h : Items qs k TS) (hq : qs[k]? = some q) : Items qs (k + 1) (TS ++ [⟨q.A, q.n, q.c, q.zs, (catP (qs.take k)).length⟩]) := by
  refine ⟨by rw [List.length_append, h.len]; rfl, ?_, ?_⟩
  · rw [List.map_append, h.same, List.take_add_one, hq]
    simp
  · rw [catP_succ hq]
    refine h.tile.add fun p => ?_
    unfold piecesT
    rw [List.map_append, List.mem_append]
    simp

theorem Items.small {qs : List Part} {k X : Nat} {TS : List BItem} (h : Items qs k TS) (hx : totP qs ≤ X) {w : World} {B : Nat} (hq : ∀ q ∈ qs, Rd w B q.A q.n q.zs) {w' : World} (ht : ∀ t ∈ TS, RdT w' t.A t.n t.zs ∧ t.n ≤ t.c) : ∀ t ∈ TS, t.n ≤ X := fun t hm => by
  have h1 : t.zs ∈ (qs.take k).map (·.zs) := by rw [← h.same]; exact List.mem_map.2 ⟨t, hm, rfl⟩
  obtain ⟨q, hq1, hq2⟩ := List.mem_map.1 h1
  have hq3 := List.mem_of_mem_take hq1
  have h2 := (hq q hq3).len
  have h3 := (ht t hm).1.1
  have h4 := totP_mem hq3
  rw [← h3, ← hq2, h2]
  omega

/-- what ZZjoinerOf leaves -/
def Joint (w : World) (qs : List Part) (n : Nat) (e : Ending) (w' : World) : Prop :=
  ∃ sv tv lb TS B0, e = .returned (.agg #[sv, tv, .int .u32 ((catP qs).length : Int), .int .u8 lb]) ∧ JV w' B0 sv tv [] TS ∧ w.heap.size ≤ B0 ∧ B0 ≤ w'.heap.size ∧ Items qs n TS ∧ Below w.heap.size w w'

theorem j_cells {w : World} {g : Nat} {a b c d : Value} (h : Blk w g 33 #[a, b, c, d]) :
    (w.cell? ⟨g, 0, none⟩ = some a ∧ w.cell? ⟨g, 1, none⟩ = some b ∧ w.cell? ⟨g, 2, none⟩ = some c ∧ w.cell? ⟨g, 3, none⟩ = some d) ∧
    (w.frozen? ⟨g, 0, none⟩ = false ∧ w.frozen? ⟨g, 1, none⟩ = false ∧ w.frozen? ⟨g, 2, none⟩ = false ∧ w.frozen? ⟨g, 3, none⟩ = false) :=
  ⟨⟨h.cell 0, h.cell 1, h.cell 2, h.cell 3⟩, h.frozen 0, h.frozen 1, h.frozen 2, h.frozen 3⟩

/-- the four cells of a joiner are laid -/
theorem j_laid {w w' : World} {B g : Nat} {a b c d A' B' C' D' : Value} (h : Blk w' g 33 #[a, b, c, d]) (hb : Below B w w') (hg : B ≤ g) {w3 : World}
    (he : (((w'.setCell ⟨g, 0, none⟩ A').setCell ⟨g, 1, none⟩ B').setCell ⟨g, 2, none⟩ C').setCell ⟨g, 3, none⟩ D' = w3) :
    Blk w3 g 33 #[A', B', C', D'] ∧ Below B w w3 ∧ w'.grownBy w3 (some g) := by
  subst he
  have h1 := Blk.put_eq h 0 A' (cs' := #[A', b, c, d]) rfl
  have h2 := Blk.put_eq h1 1 B' (cs' := #[A', B', c, d]) rfl
  have h3 := Blk.put_eq h2 2 C' (cs' := #[A', B', C', d]) rfl
  have h4 := Blk.put_eq h3 3 D' (cs' := #[A', B', C', D']) rfl
  refine ⟨h4, (((hb.setCell hg _).setCell hg _).setCell hg _).setCell hg _, ?_⟩
  exact grown_put (grown_put (grown_put (grown_put (grown_same _ _) 0 _) 1 _) 2 _) 3 _

theorem keep_grown33 {w w' : World} {g : Nat} {cs : Array Value} (h : Blk w g 33 cs) (hg : w.grownBy w' (some g)) : Keep 5 w w' :=
  (Keep.refl 5 w).grown hg (fun b cs fr e he => by
    obtain rfl := Option.some.inj he
    unfold Blk at h
    rw [h] at e
    cases e)

set_option maxRecDepth 100000 in
set_option maxHeartbeats 1600000 in
theorem joinerOf_any (A : Option Addr) (n c : Nat) (qs : List Part) (w : World) (h : PT w A n qs) (hn : n + totP qs ≤ 1048576) :
    Calls Try.prog 12 #[.slice A n c] w (Joint w qs n) := by
  have hcl := hide (fun k => show (catP (qs.take k)).length = totP (qs.take k) from catP_length (w := w) (B := w.heap.size) fun q hq => h.1.2.2 q (List.mem_of_mem_take hq))
  go_enter Try.func12, Try.ntmps12
  have hR := Blk.new w 33 #[.slice none 0 0, .slice none 0 0, .int .u32 0, .int .u8 0]
  have hb1 : Below w.heap.size w (w.alloc (.cells #[.slice none 0 0, .slice none 0 0, .int .u32 0, .int .u8 0] 33)) := (Below.refl _ _).alloc (Nat.le_refl _) _
  have hs1 : (w.alloc (.cells #[.slice none 0 0, .slice none 0 0, .int .u32 0, .int .u8 0] 33)).heap.size = w.heap.size + 1 := by simp
  go_upto_region 2 with (fail)
  generalize w.alloc (.cells #[.slice none 0 0, .slice none 0 0, .int .u32 0, .int .u8 0] 33) = w1 at *
  have hJ := JS.new w1
  have hb2 : Below w1.heap.size w1 (w1.alloc (.cells #[.slice none 0 0, .slice none 0 0, .int .u32 0, .int .u8 0] 33)) := (Below.refl _ _).alloc (Nat.le_refl _) _
  have hs2 : (w1.alloc (.cells #[.slice none 0 0, .slice none 0 0, .int .u32 0, .int .u8 0] 33)).heap.size = w1.heap.size + 1 := by simp
  rw [hs1] at hJ hb2 hs2
  obtain ⟨w2, hw2⟩ : ∃ w2, w1.alloc (.cells #[.slice none 0 0, .slice none 0 0, .int .u32 0, .int .u8 0] 33) = w2 := ⟨_, rfl⟩
  rw [hw2] at hJ hb2 hs2 ⊢
  clear hw2
  have hR2 : Blk w2 w.heap.size 33 #[.slice none 0 0, .slice none 0 0, .int .u32 0, .int .u8 0] := hR.below hb2 (by omega)
  have hb02 : Below w.heap.size w w2 := hb1.trans (hb2.mono (by omega))
  clear hR hb1 hb2 hs1
  go_wp2
  go_loopw [8] (fun i wr => ∃ (k : Nat) (TS : List BItem), k ≤ n ∧ i = .int .i64 k ∧ JS wr (w.heap.size + 1) (w.heap.size + 1) [] TS (catP (qs.take k)).length ∧ Hid (Items qs k TS) ∧ Below (w.heap.size + 1) w2 wr ∧ Hid (Keep 5 w2 wr)) (fun i _ => n - (intOf i).toNat)
  case atStart => exact ⟨0, [], by omega, rfl, hJ, hide (Items.zero qs), Below.refl _ _, hide (Keep.refl _ _)⟩
  case round =>
    clear hJ
    obtain ⟨k, TS, hk, rfl, hjs, hit, hb, hkp⟩ := hrel
    have hbw : Below w.heap.size w wr := hb02.trans (hb.mono (by omega))
    by_cases hlt : k < n
    · obtain ⟨ba, off, q, rfl, hB, hq, hc, hr, hqc, hqm⟩ := (h.1.below hbw).at hlt
      have hT1 := @totP_le qs (k + 1)
      rw [totP_succ hq, ← hcl.out k] at hT1
      have hTl := hit.out.len
      have hrt : RdT wr q.A q.n q.zs := ((h.2 q (List.mem_of_getElem? hq)).keep (Keep.below hb02)).keep hkp.out
      have hnx := hide (hit.out.add hq)
      have hlen : Hid ((catP (qs.take (k + 1))).length = (catP (qs.take k)).length + q.n) := hide (by rw [catP_succ hq, List.length_append, hr.len])
      clear hq hr
      go_wp2_with fail
      refine (addBytes_any (w.heap.size + 1) q.A q.n q.c q.zs wr hjs hrt hqc (by omega) (by omega)).mono ?_
      rintro e w3 ⟨rfl, hadd⟩
      go_wp2
      go_roundw
      case rel =>
        refine ⟨k + 1, _, by omega, by go_num, ?_, hnx, hb.trans hadd.2.1, hide (hkp.out.trans hadd.2.2)⟩
        rw [hlen.out]
        exact hadd.1
      case measure => simp [intOf]; omega
    · obtain rfl : k = n := by omega
      have hcat : catP (qs.take k) = catP qs := by rw [List.take_of_length_le (by rw [h.1.1]; exact Nat.le_refl _)]
      rw [hcat] at hjs
      obtain ⟨⟨sv, tv, lb, hblk, ho1, ho2⟩, hlow, hitm⟩ := hjs
      obtain ⟨A1, q1, rfl, _, _⟩ := own_shape ho1
      obtain ⟨A2, q2, rfl, _, _⟩ := own_shape ho2
      replace hitm := hide hitm
      have hRr := hR2.below hb (by omega)
      obtain ⟨⟨c0, c1, c2, c3⟩, _⟩ := j_cells hblk
      obtain ⟨⟨y0, y1, y2, y3⟩, f0, f1, f2, f3⟩ := j_cells hRr
      go_wp2
      generalize hw3 : ((((wr.setCell ⟨w.heap.size, 0, none⟩ (.slice A1 0 q1)).setCell ⟨w.heap.size, 1, none⟩ (.slice A2 TS.length q2)).setCell ⟨w.heap.size, 2, none⟩ (.int .u32 ((catP qs).length : Int))).setCell ⟨w.heap.size, 3, none⟩ (.int .u8 lb)) = w3
      obtain ⟨hblk3, hbw3, hg3⟩ := j_laid hRr hbw (Nat.le_refl _) hw3
      obtain ⟨⟨g0, g1, g2, g3⟩, _⟩ := j_cells hblk3
      refine bodyPost_ret (by simp [results, Try.results12, go_sem, g0, g1, g2, g3]; try rfl) rfl ?_
      have hk5 := keep_grown33 hRr hg3
      refine ⟨_, _, lb, TS, w.heap.size + 1, rfl, ⟨ho1.kept hg3 (.inr (own_blk_ne ho1 hRr (by decide))), ho2.kept hg3 (.inr (own_blk_ne ho2 hRr (by decide))), fun t ht => ⟨(hitm.out t ht).1.keep hk5, (hitm.out t ht).2⟩⟩, by omega, ?_, hit.out, hbw3⟩
      have := hg3.size
      have := hb.size
      omega
end Go.Proofs.Ytpfnonkcjlfibaa
