/-
  The walk of the second law on HashForFileName. Conditions: none.
-/
import Derived.Test.YteimbkhclmghhaaHEq
namespace Go.Proofs.Yteimbkhclmghhaa
open Go.RowKit

section
variable {w : World} {g B : Nat} {x0 x1 x2 x3 x4 : UInt8}
theorem rd5 (hg : g < B) (t : TypeId) (h : w.heap[g]? = some (.cells #[.int .u8 (x0.toNat : Int), .int .u8 (x1.toNat : Int), .int .u8 (x2.toNat : Int), .int .u8 (x3.toNat : Int), .int .u8 (x4.toNat : Int)] t (0, 0))) :
    Rd w B (some ⟨g, 0, none⟩) 5 [x0, x1, x2, x3, x4] := by
  refine ⟨rfl, fun _ => ⟨g, 0, rfl, hg, fun j x hx => ?_⟩⟩
  rw [cell_of_row w g (0 + j) _ t (0, 0) h]
  have hj : j < 5 := (List.getElem?_eq_some_iff.1 hx).1
  rcases (show j = 0 ∨ j = 1 ∨ j = 2 ∨ j = 3 ∨ j = 4 by omega) with rfl | rfl | rfl | rfl | rfl <;> (simp at hx; subst hx; rfl)
theorem Rd.five (h : Rd w B (some ⟨g, 0, none⟩) 5 [x0, x1, x2, x3, x4]) :
    w.cell? ⟨g, 0, none⟩ = some (.int .u8 (x0.toNat : Int)) ∧ w.cell? ⟨g, 1, none⟩ = some (.int .u8 (x1.toNat : Int)) ∧ w.cell? ⟨g, 2, none⟩ = some (.int .u8 (x2.toNat : Int)) ∧
    w.cell? ⟨g, 3, none⟩ = some (.int .u8 (x3.toNat : Int)) ∧ w.cell? ⟨g, 4, none⟩ = some (.int .u8 (x4.toNat : Int)) := by
  obtain ⟨b, off, he, _, hc⟩ := h.2 (by omega)
  obtain ⟨rfl, rfl, _⟩ : g = b ∧ 0 = off ∧ True := by
    have := Option.some.inj he
    simp only [Addr.mk.injEq] at this
    exact ⟨this.1, this.2.1, trivial⟩
  refine ⟨?_, ?_, ?_, ?_, ?_⟩
  · simpa using hc 0 x0 rfl
  · simpa using hc 1 x1 rfl
  · simpa using hc 2 x2 rfl
  · simpa using hc 3 x3 rfl
  · simpa using hc 4 x4 rfl
end

set_option maxRecDepth 100000 in
set_option maxHeartbeats 1600000 in
theorem five_any (x0 x1 x2 x3 x4 y0 y1 y2 y3 y4 : UInt8) (A : Option Addr) (n cap : Nat) (zs : List UInt8) (w : World) (hr : Rd w w.heap.size A n zs) (hcap : n ≤ cap) (hn : n ≤ 1048576) :
    Calls Try.prog 5 #[.agg #[.int .u8 (x0.toNat : Int), .int .u8 (x1.toNat : Int), .int .u8 (x2.toNat : Int), .int .u8 (x3.toNat : Int), .int .u8 (x4.toNat : Int)],
      .agg #[.int .u8 (y0.toNat : Int), .int .u8 (y1.toNat : Int), .int .u8 (y2.toNat : Int), .int .u8 (y3.toNat : Int), .int .u8 (y4.toNat : Int)], .slice A n cap] w
      fun e w' => e = .returned (.bool true) ∧ Below w.heap.size w w' := by
  have hd : decide (n ≤ 1048576) = true := by simpa using hn
  have hlen := hide hr.len
  go_enter Try.func5, Try.ntmps5
  go_wp2_with fail
  refine (room5_any _ _ _ _ _ _).mono ?_
  rintro e w1 ⟨rfl, hb1⟩
  have hB : w.heap.size + 2 ≤ w1.heap.size := by simpa using hb1.size
  have hbw : Below w.heap.size w w1 := (((Below.refl _ _).alloc (Nat.le_refl _) _).alloc (by simp) _).trans (hb1.mono (by simp; omega))
  have hX : Rd w1 (w.heap.size + 2) (some ⟨w.heap.size, 0, none⟩) 5 [x0, x1, x2, x3, x4] := rd5 (by omega) _ ((hb1.block w.heap.size (by simp; omega)).trans ((Below.heap_alloc _ _ _ (by simp)).trans (heap_alloc_new w _)))
  have hY : Rd w1 (w.heap.size + 2) (some ⟨w.heap.size + 1, 0, none⟩) 5 [y0, y1, y2, y3, y4] := rd5 (by omega) _ ((hb1.block (w.heap.size + 1) (by simp)).trans (by
    have := heap_alloc_new (w.alloc (.cells #[.int .u8 (x0.toNat : Int), .int .u8 (x1.toNat : Int), .int .u8 (x2.toNat : Int), .int .u8 (x3.toNat : Int), .int .u8 (x4.toNat : Int)] 39)) (.cells #[.int .u8 (y0.toNat : Int), .int .u8 (y1.toNat : Int), .int .u8 (y2.toNat : Int), .int .u8 (y3.toNat : Int), .int .u8 (y4.toNat : Int)] 39)
    simpa using this))
  have hrA := hr.below hbw
  clear hr hb1
  go_wp2_with (at_make; refine wpList_mk (c := n) E22 rfl _ rfl (w.heap.size + 2) n rfl rfl (by omega) (by decide) hB ?_; intro w2 hown hg hsz)
  rw [made_bytes, ← fill_zero zs n] at hown
  have hb2 : Below (w.heap.size + 2) w1 w2 := (Below.refl _ _).grown hg hB (by intro k hk; cases hk)
  clear hg hsz
  go_loopw [8] (fun i wr => ∃ k : Nat, k ≤ n ∧ i = .int .i64 k ∧ wr.ownsRow (w.heap.size + 2) 5 1 (.slice (some ⟨w1.heap.size, 0, none⟩) n n) n ((fill zs n k).map bv) ∧ Below (w.heap.size + 2) w1 wr) (fun i _ => n - (intOf i).toNat)
  case atStart => exact ⟨0, by omega, rfl, hown, hb2⟩
  case round =>
    clear hown hb2
    obtain ⟨k, hk, rfl, hown, hb⟩ := hrel
    have hr' := hrA.below (hb.mono (by omega))
    by_cases hkl : k < n
    · obtain ⟨b, off, x, rfl, hbl, hx, hc⟩ := hr'.at hkl
      have hf := hown.frozenAt k
      have hu := fill_cell hown hlen.out hkl
      have R := hide (fill_store hown hlen.out hx)
      clear hx hown
      go_wp2
      go_roundw
      case rel => exact ⟨k + 1, by omega, by go_num, R.out, hb.setCell (by simpa using hB) _⟩
      case measure => simp [intOf]; omega
    · obtain rfl : k = n := by omega
      rw [fill_all _ _ hlen.out] at hown
      have hS := hb.size
      have hrd := Rd.of_own hown
      go_wp2_with fail
      refine (name_any _ _ _ _ _ ((hX.below hb).more (by omega)) (by omega) (by omega) (by omega)).mono ?_
      rintro e w3 ⟨rfl, hb3⟩
      have hS3 := hb3.size
      go_wp2_with fail
      refine (name_any _ _ _ _ _ (((hY.below hb).below (hb3.mono (by omega))).more (by omega)) (by omega) (by omega) (by omega)).mono ?_
      rintro e w4 ⟨rfl, hb4⟩
      have hS4 := hb4.size
      have hw14 : Below (w.heap.size + 2) w1 w4 := (hb.trans (hb3.mono (by omega))).trans (hb4.mono (by omega))
      have hX4 := hX.below hw14
      have hrd4 := (hrd.below hb3).below (hb4.mono hS3)
      have hk2 : (5 : Int) + (k : Int) = ((5 + k : Nat) : Int) := by omega
      have hk2' := hide hk2
      clear hk2
      have hY4 := hY.below hw14
      clear hk hkl hrA hr' hX hY hown
      obtain ⟨b, hxy', hs12⟩ := five_key x0 x1 x2 x3 x4 y0 y1 y2 y3 y4
      have hnb := five_none x0 x1 x2 x3 x4
      have hsz : (ofBytes (HM.head8 [x0, x1, x2, x3, x4])).size ≤ 9223372036854775807 := by rw [ofBytes_size, HM.head8_length]; omega
      go_wp2_with (first
        | (at_make; refine wpList_mk0 (c := 5 + k) E22 rfl _ _ rfl w4.heap.size _ rfl rfl hk2'.out (by omega) (by decide) (Nat.le_refl _) ?_; intro w5 hown5 hg5; have hS5 := hg5.size; have hX5 := hX4.grown hg5 (by omega) (by intro g hg; cases hg); have hrd5 := hrd4.grown hg5 (by omega) (by intro g hg; cases hg))
        | (at_builtin; refine wpList_app E22 rfl (.tmp 46) (.tmp 47) rfl [] hown5 rfl hX5 rfl (by omega) (by omega) ?_; intro v6 w6 hown6 hg6; have hS6 := hg6.size; have hrd6 := hrd5.grown hg6 (by omega) (fun g hg => by have := (hown5.lt g hg).1; omega))
        | (at_builtin; refine wpList_app E22 rfl (.tmp 49) (.tmp 50) rfl _ hown6 rfl hrd6 rfl (by omega) (by omega) ?_; intro v7 w7 hown7 hg7; have hS7 := hg7.size; have hown7' : w7.ownsRow w4.heap.size 5 1 v7 (5 + k) (([x0, x1, x2, x3, x4] ++ zs).map bv) := (by simpa using hown7); obtain ⟨A7, c7, rfl, hc7, hrd7⟩ := own_rd hown7')
        | (go_at_call 8; have hn8 := name_any _ _ _ _ _ hrd7 hc7 (by omega) (by omega); rw [five_more] at hn8; refine hn8.mono ?_; clear hn8; rintro e w8 ⟨rfl, hb8⟩; have hS8 := hb8.size; have hw48 : Below w4.heap.size w4 w8 := ((((Below.refl _ w4).grown hg5 (Nat.le_refl _) (by intro g hg; cases hg)).grown hg6 (by omega) (fun g hg => (hown5.lt g hg).1)).grown hg7 (by omega) (fun g hg => (hown6.lt g hg).1)).trans (hb8.mono (by omega)); obtain ⟨cx0, cx1, cx2, cx3, cx4⟩ := (hX4.below (hw48.mono (by omega))).five; obtain ⟨cy0, cy1, cy2, cy3, cy4⟩ := (hY4.below (hw48.mono (by omega))).five; have heq := run_eq5b x0 x1 x2 x3 x4 y0 y1 y2 y3 y4 w8; rw [hxy'.out] at heq)
        | (go_at_call 17; refine (hasByte_any _ 61 _ hsz).mono ?_; rintro e w9 ⟨rfl, rfl⟩))
      go_ret
      exact ⟨rfl, hbw.trans ((hw14.mono (by omega)).trans (hw48.mono (by omega)))⟩

set_option maxHeartbeats 400000 in
theorem five_all (x0 x1 x2 x3 x4 y0 y1 y2 y3 y4 : UInt8) (A : Option Addr) (n cap : Nat) (zs : List UInt8) (w : World) (hr : Rd w w.heap.size A n zs) (hcap : n ≤ cap) :
    Calls Try.prog 5 #[.agg #[.int .u8 (x0.toNat : Int), .int .u8 (x1.toNat : Int), .int .u8 (x2.toNat : Int), .int .u8 (x3.toNat : Int), .int .u8 (x4.toNat : Int)],
      .agg #[.int .u8 (y0.toNat : Int), .int .u8 (y1.toNat : Int), .int .u8 (y2.toNat : Int), .int .u8 (y3.toNat : Int), .int .u8 (y4.toNat : Int)], .slice A n cap] w
      fun e w' => e = .returned (.bool true) ∧ Below w.heap.size w w' := by
  by_cases hn : n ≤ 1048576
  · exact five_any x0 x1 x2 x3 x4 y0 y1 y2 y3 y4 A n cap zs w hr hcap hn
  · have hd : decide (n ≤ 1048576) = false := by simpa using hn
    go_enter Try.func5, Try.ntmps5
    go_wp2_with fail
    refine (room5_any _ _ _ _ _ _).mono ?_
    rintro e w1 ⟨rfl, hb1⟩
    go_wp2
    go_ret
    exact ⟨rfl, (((Below.refl _ _).alloc (Nat.le_refl _) _).alloc (by simp) _).trans (hb1.mono (by simp; omega))⟩
end Go.Proofs.Yteimbkhclmghhaa
