/-
  The walks of strings.Builder's copyCheck, WriteByte, WriteString at a builder that the call made. Conditions: sizes.
-/
import Derived.Test.YtcmajdimggdkoaaFmtHelp
import Derived.Lib.Strings
import Derived.Lib.Slices
import Derived.Lib.Builder
import Derived.Lib.AppendStr
import Derived.Laws.Externs
import Derived.OwnWalk
namespace Go.Proofs.YtcmajdimggdkoaaFmt
open Go.RowKit

theorem size57 : (Tryf.prog.info? 57).map (·.size) = some 2 := by kernel_rfl
theorem lies57 : liesAt Tryf.prog Tryf.prog.depth 57 (2 / Tryf.prog.cellsOf 57) 0 57 1 = true := by kernel_rfl
theorem info5 : (Tryf.prog.info? 5).map (fun i => (i.zero, i.size, i.bytes)) = some (some (.int .u8 0), 1, 1) := by kernel_rfl

set_option maxHeartbeats 800000 in
set_option maxRecDepth 100000 in
theorem check_used (b : Nat) (w : World) (h0 : w.cell? ⟨b, 0, none⟩ = some (.pointer (some ⟨b, 0, none⟩))) :
    Calls Tryf.prog 32 #[.pointer (some ⟨b, 0, none⟩)] w fun e w' => e = .returned (.tuple #[]) ∧ w = w' := by
  obtain ⟨j, hj, _⟩ := Option.map_eq_some_iff.1 size57
  go_enter Tryf.func32, Tryf.ntmps32
  go_wp2
  rw [Lib.run_neq_ptr_same w _ Tryf.underlying54 hj]
  go_wp2
  go_end0
  exact ⟨rfl, rfl⟩

set_option maxHeartbeats 800000 in
set_option maxRecDepth 100000 in
theorem check_fresh (b : Nat) (w : World) (h0 : w.cell? ⟨b, 0, none⟩ = some (.pointer none)) (hsh : w.shape? b = some (57, 2)) (hfz : w.frozen? ⟨b, 0, none⟩ = false) :
    Calls Tryf.prog 32 #[.pointer (some ⟨b, 0, none⟩)] w fun e w' => e = .returned (.tuple #[]) ∧ w' = w.setCell ⟨b, 0, none⟩ (.pointer (some ⟨b, 0, none⟩)) := by
  obtain ⟨j, hj, hjs⟩ := Option.map_eq_some_iff.1 size57
  go_enter Tryf.func32, Tryf.ntmps32
  go_wp2
  rw [Lib.run_to_unsafe w ⟨b, 0, none⟩ Tryf.underlying54 Tryf.underlying88 hj (by rw [hjs]; decide) hsh (Nat.zero_lt_succ 1)]
  simp only [Result.andThen]
  rw [Oper.upon_value]
  go_wp2
  rw [run_callFunc_extern Tryf.func36 (by kernel_rfl) (by kernel_rfl) (by kernel_rfl) (e := Extern.AbiNoEscape.same) (by kernel_rfl)]
  rw [Lib.run_noEscape]
  simp only [Result.andThen]
  rw [Oper.upon_value]
  go_wp2
  rw [Lib.run_from_unsafe w ⟨b, 0, none⟩ Tryf.underlying88 Tryf.underlying54 hj hsh lies57]
  simp only [Result.andThen]
  rw [Oper.upon_value]
  go_wp2
  go_end0
  exact ⟨rfl, rfl⟩

theorem check_any (B b : Nat) (bs : List Value) (w : World) (h : Lib.IsBuilder 57 5 B b bs w) :
    Calls Tryf.prog 32 #[.pointer (some ⟨b, 0, none⟩)] w fun e w' => e = .returned (.tuple #[]) ∧ (Lib.BuilderAt 57 5 B b (.pointer (some ⟨b, 0, none⟩)) bs w' ∧ Below B w w') := by
  rcases h with h | h
  · refine (check_fresh b w h.cell0 h.shape h.frozen0).mono ?_
    rintro e w' ⟨rfl, rfl⟩
    exact ⟨rfl, h.used _, (Below.refl B w).setCell (p := ⟨b, 0, none⟩) h.1 _⟩
  · refine (check_used b w h.cell0).mono ?_
    rintro e w' ⟨rfl, rfl⟩
    exact ⟨rfl, h, Below.refl B _⟩

/-- block b is a builder of the call's own that holds the bytes l -/
def Bu (B b : Nat) (l : List UInt8) (w : World) : Prop := Lib.IsBuilder 57 5 B b (l.map bv) w
theorem Bu.new (w : World) : Bu w.heap.size w.heap.size [] (w.alloc (.cells #[.pointer none, .slice none 0 0] 57)) := Lib.fresh_isBuilder 57 5 w

set_option maxHeartbeats 2000000 in
set_option maxRecDepth 100000 in
theorem writeByte_any (B b : Nat) (l : List UInt8) (x : UInt8) (n : Int) (w : World) (hn : n = (x.toNat : Int)) (h : Bu B b l w) (hlen : l.length ≤ 1073741824) (hBw : B ≤ w.heap.size) :
    Calls Tryf.prog 38 #[.pointer (some ⟨b, 0, none⟩), .int .u8 n] w fun e w' => e = .returned .nilIface ∧ (Bu B b (l ++ [x]) w' ∧ Below B w w') := by
  replace hn := hide hn
  go_enter Tryf.func38, Tryf.ntmps38
  go_wp2_with fail
  refine (check_any B b _ _ h).mono ?_
  rintro e w1 ⟨rfl, h1, hb1⟩
  obtain ⟨hB, v, hbk, hown, hne⟩ := h1
  rw [List.length_map] at hown
  have hs1 := hb1.size
  have c0 : w1.cell? ⟨b, 0, none⟩ = some (.pointer (some ⟨b, 0, none⟩)) := by rw [Lib.cell_of_heap hbk]; rfl
  have c1 : w1.cell? ⟨b, 1, none⟩ = some v := by rw [Lib.cell_of_heap hbk]; rfl
  go_wp2_with (at_builtin; refine wpList_push E55 rfl (.tmp 11) (.tmp 13) rfl hown rfl #[.int .u8 n] rfl rfl (one_byte _) ?c4 (by decide) ?c5 ?_)
  case c4 => omega
  case c5 => omega
  intro v' w2 hown' hgrow
  have hlt : b < w1.heap.size := (Array.getElem?_eq_some_iff.1 hbk).1
  have hb2 : w2.heap[b]? = some (.cells #[.pointer (some ⟨b, 0, none⟩), v] 57 (0, 0)) := (hgrow.block b hlt (fun e => hne e.symm)).trans hbk
  have d0 : w2.cell? ⟨b, 0, none⟩ = some (.pointer (some ⟨b, 0, none⟩)) := by rw [Lib.cell_of_heap hb2]; rfl
  have d1 : w2.cell? ⟨b, 1, none⟩ = some v := by rw [Lib.cell_of_heap hb2]; rfl
  have f1 : w2.frozen? ⟨b, 1, none⟩ = false := Lib.frozen_of_heap hb2 1
  obtain ⟨g, cap, rfl⟩ : ∃ g cap, v' = .slice (some ⟨g, 0, none⟩) (l.length + 1) cap := by
    rcases hown'.2 with ⟨_, h0⟩ | ⟨g, cap, cur, hv, _⟩
    · omega
    · exact ⟨g, cap, hv⟩
  have hnew : w2.ownsRow B 5 1 (.slice (some ⟨g, 0, none⟩) (l.length + 1) cap) ((l ++ [x]).map bv).length ((l ++ [x]).map bv) := by
    rw [hn.out] at hown'
    rw [List.length_map, List.length_append, List.map_append]
    exact hown'
  have hbe := hb1.grown hgrow (by omega) (fun k hk => (hown.lt k hk).1)
  replace hnew := hide hnew
  replace hbe := hide hbe
  clear hown' hgrow hown hn h
  go_wp2
  go_ret
  exact ⟨rfl, .inr (Lib.BuilderAt.put (T := 57) (e := 5) hB hb2 hnew.out (by decide)), hbe.out.setCell (p := ⟨b, 1, none⟩) hB _⟩

set_option maxHeartbeats 2000000 in
set_option maxRecDepth 100000 in
theorem writeString_any (B b : Nat) (l : List UInt8) (s : ByteArray) (w : World) (h : Bu B b l w) (hlen : l.length + s.size ≤ 1073741824) (hBw : B ≤ w.heap.size) :
    Calls Tryf.prog 25 #[.pointer (some ⟨b, 0, none⟩), .string s] w fun e w' => e = .returned (.tuple #[.int .i64 s.size, .nilIface]) ∧ (Bu B b (l ++ s.data.toList) w' ∧ Below B w w') := by
  obtain ⟨i0, hi, hz0, hz1, hz2⟩ := info_parts info5
  go_enter Tryf.func25, Tryf.ntmps25
  go_wp2_with fail
  refine (check_any B b _ _ h).mono ?_
  rintro e w1 ⟨rfl, h1, hb1⟩
  obtain ⟨hB, v, hbk, hown, hne⟩ := h1
  rw [List.length_map] at hown
  have hs1 := hb1.size
  have c0 : w1.cell? ⟨b, 0, none⟩ = some (.pointer (some ⟨b, 0, none⟩)) := by rw [Lib.cell_of_heap hbk]; rfl
  have c1 : w1.cell? ⟨b, 1, none⟩ = some v := by rw [Lib.cell_of_heap hbk]; rfl
  go_wp2_with (at_builtin; refine Lib.wpList_append_own_string _ rfl _ _ 55 9 rfl B 5 i0 Tryf.underlying55 Tryf.underlying9 hi hz0 hz1 hz2 _ _ _ rfl hown s rfl ?c3 ?c4 ?c5 ?_)
  case c3 => unfold maxLen; omega
  case c4 => omega
  case c5 => omega
  intro v' w2 hown' hgrow _
  have hlt : b < w1.heap.size := (Array.getElem?_eq_some_iff.1 hbk).1
  have hb2 : w2.heap[b]? = some (.cells #[.pointer (some ⟨b, 0, none⟩), v] 57 (0, 0)) := (hgrow.block b hlt (fun e => hne e.symm)).trans hbk
  have d0 : w2.cell? ⟨b, 0, none⟩ = some (.pointer (some ⟨b, 0, none⟩)) := by rw [Lib.cell_of_heap hb2]; rfl
  have d1 : w2.cell? ⟨b, 1, none⟩ = some v := by rw [Lib.cell_of_heap hb2]; rfl
  have f1 : w2.frozen? ⟨b, 1, none⟩ = false := Lib.frozen_of_heap hb2 1
  obtain ⟨ao, n', cap, rfl⟩ : ∃ ao n' cap, v' = .slice ao n' cap := by
    rcases hown'.2 with ⟨hv, _⟩ | ⟨g, cap, cur, hv, _⟩
    · exact ⟨_, _, _, hv⟩
    · exact ⟨_, _, _, hv⟩
  have hnew : w2.ownsRow B 5 1 (.slice ao n' cap) ((l ++ s.data.toList).map bv).length ((l ++ s.data.toList).map bv) := by
    rw [List.length_map, List.length_append, List.map_append, ba_len]
    exact hown'
  have hbe := hb1.grown hgrow (by omega) (fun k hk => (hown.lt k hk).1)
  replace hnew := hide hnew
  replace hbe := hide hbe
  clear hown' hgrow hown h
  go_wp2
  go_ret2
  exact ⟨rfl, .inr (Lib.BuilderAt.put (T := 57) (e := 5) hB hb2 hnew.out (by decide)), hbe.out.setCell (p := ⟨b, 1, none⟩) hB _⟩
end Go.Proofs.YtcmajdimggdkoaaFmt
