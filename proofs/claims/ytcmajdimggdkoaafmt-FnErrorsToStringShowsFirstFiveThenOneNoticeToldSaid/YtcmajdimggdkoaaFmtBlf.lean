/-
  The walk of strings.Builder's WriteString where other blocks above the builder's are to be kept. Conditions: sizes.
-/
import Derived.Test.YtcmajdimggdkoaaFmtBld
import Derived.Laws.IdiomRangeMap
namespace Go.Proofs.YtcmajdimggdkoaaFmt
open Go.RowKit

/-- all that stood below R stands, but for block b -/
structure Far (R b : Nat) (w w' : World) : Prop where
  os : w'.os = w.os
  tape : w'.tape = w.tape
  output : w'.output = w.output
  size : w.heap.size ≤ w'.heap.size
  block : ∀ k, k < R → k ≠ b → w'.heap[k]? = w.heap[k]?
theorem Far.refl (R b : Nat) (w : World) : Far R b w w := ⟨rfl, rfl, rfl, Nat.le_refl _, fun _ _ _ => rfl⟩
theorem Far.trans {R b : Nat} {w w' w'' : World} (h : Far R b w w') (h' : Far R b w' w'') : Far R b w w'' :=
  ⟨h'.os.trans h.os, h'.tape.trans h.tape, h'.output.trans h.output, Nat.le_trans h.size h'.size, fun k hk hb => (h'.block k hk hb).trans (h.block k hk hb)⟩
theorem Far.cell {R b : Nat} {w w' : World} (h : Far R b w w') {p : Addr} (hp : p.block < R) (hb : p.block ≠ b) : w'.cell? p = w.cell? p := World.cell?_of_block (h.block _ hp hb)
theorem Far.of_below {R b : Nat} {w w' : World} (h : Below R w w') : Far R b w w' := ⟨h.os, h.tape, h.output, h.size, fun k hk _ => h.block k hk⟩
theorem Far.below {R b : Nat} {w w' : World} (h : Far R b w w') {B : Nat} (hR : B ≤ R) (hb : B ≤ b) : Below B w w' := ⟨h.os, h.tape, h.output, h.size, fun k hk => h.block k (by omega) (by omega)⟩
theorem Far.set {R b : Nat} {w w' : World} (h : Far R b w w') {j : Nat} (v : Value) : Far R b w (w'.setCell ⟨b, j, none⟩ v) := by
  refine ⟨h.os, h.tape, h.output, by simpa using h.size, fun k hk hb => ?_⟩
  rw [← h.block k hk hb]
  simp only [World.setCell, Array.getElem?_modify]
  rw [if_neg (fun e : b = k => hb e.symm)]
theorem Far.grown {R b : Nat} {w w' w'' : World} {row : Option Nat} (h : Far R b w w') (hg : w'.grownBy w'' row) (hR : R ≤ w.heap.size) (hr : ∀ k, row = some k → R ≤ k) : Far R b w w'' :=
  ⟨hg.os.trans h.os, hg.tape.trans h.tape, hg.output.trans h.output, Nat.le_trans h.size hg.size, fun k hk hb => (hg.block k (by have := h.size; omega) (fun e => by have := hr k e.symm; omega)).trans (h.block k hk hb)⟩

/-- block b < R is a builder whose row lies from R on -/
def BuR (R b : Nat) (l : List UInt8) (w : World) : Prop := b < R ∧ ∃ q v, (q = none ∨ q = some ⟨b, 0, none⟩) ∧ w.heap[b]? = some (.cells #[.pointer q, v] 57 (0, 0)) ∧ w.ownsRow R 5 1 v l.length (l.map bv)

theorem own_setCell {R b n j : Nat} {w : World} {v u : Value} {xs : List Value} (h : w.ownsRow R 5 1 v n xs) (hb : b < R) : (w.setCell ⟨b, j, none⟩ u).ownsRow R 5 1 v n xs := by
  refine ⟨h.1, ?_⟩
  rcases h.2 with hn | ⟨g, cap, cur, hv, hg, hh, rest⟩
  · exact .inl hn
  · refine .inr ⟨g, cap, cur, hv, hg, ?_, rest⟩
    rw [← hh]
    simp only [World.setCell, Array.getElem?_modify]
    rw [if_neg (fun e : b = g => by omega)]
theorem heap_setCell {b j : Nat} {w : World} {u : Value} {cs : Array Value} (h : w.heap[b]? = some (.cells cs 57 (0, 0))) : (w.setCell ⟨b, j, none⟩ u).heap[b]? = some (.cells (cs.setIfInBounds j u) 57 (0, 0)) := by
  simp [World.setCell, Array.getElem?_modify, h]

theorem check_far (R b : Nat) (l : List UInt8) (w : World) (h : BuR R b l w) :
    Calls Tryf.prog 32 #[.pointer (some ⟨b, 0, none⟩)] w fun e w' => e = .returned (.tuple #[]) ∧ (∃ v, w'.heap[b]? = some (.cells #[.pointer (some ⟨b, 0, none⟩), v] 57 (0, 0)) ∧ w'.ownsRow R 5 1 v l.length (l.map bv)) ∧ Far R b w w' := by
  obtain ⟨hbR, q, v, hq, hbk, hown⟩ := h
  rcases hq with rfl | rfl
  · refine (check_fresh b w (by rw [Lib.cell_of_heap hbk]; rfl) (by simp [World.shape?, hbk]) (Lib.frozen_of_heap hbk 0)).mono ?_
    rintro e w' ⟨rfl, rfl⟩
    exact ⟨rfl, ⟨v, heap_setCell hbk, own_setCell hown hbR⟩, (Far.refl R b w).set _⟩
  · refine (check_used b w (by rw [Lib.cell_of_heap hbk]; rfl)).mono ?_
    rintro e w' ⟨rfl, rfl⟩
    exact ⟨rfl, ⟨v, hbk, hown⟩, Far.refl R b _⟩

set_option maxHeartbeats 2000000 in
set_option maxRecDepth 100000 in
theorem writeString_far (R b : Nat) (l : List UInt8) (s : ByteArray) (w : World) (h : BuR R b l w) (hlen : l.length + s.size ≤ 1073741824) (hR : R ≤ w.heap.size) :
    Calls Tryf.prog 25 #[.pointer (some ⟨b, 0, none⟩), .string s] w fun e w' => e = .returned (.tuple #[.int .i64 s.size, .nilIface]) ∧ BuR R b (l ++ s.data.toList) w' ∧ Far R b w w' := by
  obtain ⟨i0, hi, hz0, hz1, hz2⟩ := info_parts info5
  have hbR := h.1
  go_enter Tryf.func25, Tryf.ntmps25
  go_wp2_with fail
  refine (check_far R b l _ h).mono ?_
  rintro e w1 ⟨rfl, ⟨v, hbk, hown⟩, hf1⟩
  have hs1 := hf1.size
  have c0 : w1.cell? ⟨b, 0, none⟩ = some (.pointer (some ⟨b, 0, none⟩)) := by rw [Lib.cell_of_heap hbk]; rfl
  have c1 : w1.cell? ⟨b, 1, none⟩ = some v := by rw [Lib.cell_of_heap hbk]; rfl
  go_wp2_with (at_builtin; refine Lib.wpList_append_own_string _ rfl _ _ 55 9 rfl R 5 i0 Tryf.underlying55 Tryf.underlying9 hi hz0 hz1 hz2 _ _ _ rfl hown s rfl ?c3 ?c4 ?c5 ?_)
  case c3 => unfold maxLen; omega
  case c4 => omega
  case c5 => omega
  intro v' w2 hown' hgrow _
  have hlt : b < w1.heap.size := (Array.getElem?_eq_some_iff.1 hbk).1
  have hb2 : w2.heap[b]? = some (.cells #[.pointer (some ⟨b, 0, none⟩), v] 57 (0, 0)) := (hgrow.block b hlt (fun e => absurd (hown.lt b e.symm).1 (by omega))).trans hbk
  have d0 : w2.cell? ⟨b, 0, none⟩ = some (.pointer (some ⟨b, 0, none⟩)) := by rw [Lib.cell_of_heap hb2]; rfl
  have d1 : w2.cell? ⟨b, 1, none⟩ = some v := by rw [Lib.cell_of_heap hb2]; rfl
  have f1 : w2.frozen? ⟨b, 1, none⟩ = false := Lib.frozen_of_heap hb2 1
  obtain ⟨ao, n', cap, rfl⟩ : ∃ ao n' cap, v' = .slice ao n' cap := by
    rcases hown'.2 with ⟨hv, _⟩ | ⟨g, cap, cur, hv, _⟩
    · exact ⟨_, _, _, hv⟩
    · exact ⟨_, _, _, hv⟩
  have hnew : w2.ownsRow R 5 1 (.slice ao n' cap) ((l ++ s.data.toList)).length ((l ++ s.data.toList).map bv) := by
    rw [List.length_append, List.map_append, ba_len]
    exact hown'
  have hf2 : Far R b w w2 := hf1.grown hgrow hR (fun k hk => (hown.lt k hk).1)
  replace hnew := hide hnew
  replace hf2 := hide hf2
  clear hown' hgrow hown h hf1
  go_wp2
  go_ret2
  exact ⟨rfl, ⟨hbR, _, _, .inr rfl, heap_setCell hb2, own_setCell hnew.out hbR⟩, hf2.out.set _⟩

theorem BuR.bu {R b : Nat} {l : List UInt8} {w : World} (h : BuR R b l w) : Bu b b l w := by
  obtain ⟨hbR, q, v, hq, hbk, hown⟩ := h
  have hne : v.ownBlock ≠ some b := fun e => absurd (hown.lt b e).1 (by omega)
  have hown2 : w.ownsRow b 5 1 v (l.map bv).length (l.map bv) := by
    rw [List.length_map]
    refine ⟨hown.1, ?_⟩
    rcases hown.2 with hn | ⟨g, cap, cur, hv, hg, rest⟩
    · exact .inl hn
    · exact .inr ⟨g, cap, cur, hv, by omega, rest⟩
  rcases hq with rfl | rfl
  · exact .inl ⟨Nat.le_refl _, v, hbk, hown2, hne⟩
  · exact .inr ⟨Nat.le_refl _, v, hbk, hown2, hne⟩
theorem BuR.new {w w2 : World} {n R : Nat} (hn : n = w.heap.size) (hb : Below (w.alloc (.cells #[.pointer none, .slice none 0 0] 57)).heap.size (w.alloc (.cells #[.pointer none, .slice none 0 0] 57)) w2) (hR : n < R) : BuR R n [] w2 := by
  subst hn
  refine ⟨hR, none, .slice none 0 0, .inl rfl, ?_, rfl, .inl ⟨rfl, rfl⟩⟩
  rw [hb.block w.heap.size (by simp)]
  exact heap_alloc_new w _
end Go.Proofs.YtcmajdimggdkoaaFmt
