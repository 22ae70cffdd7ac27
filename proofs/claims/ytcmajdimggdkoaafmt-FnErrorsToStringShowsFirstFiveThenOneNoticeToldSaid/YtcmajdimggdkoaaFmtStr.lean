/-
  Slices of strings that came in, the size tests and the small helpers over them (total length, a copy, messages of texts). Conditions: sizes.
-/
import Derived.Test.YtcmajdimggdkoaaFmtLaw30A
import Derived.ProofKit
import Derived.Deep.Slices
import Derived.IntWalk
namespace Go.Proofs.YtcmajdimggdkoaaFmt
open Go.RowKit

/-- a slice that reads as the values vs, one cell each; below block B -/
def RdV (w : World) (B : Nat) (A : Option Addr) (n : Nat) (vs : List Value) : Prop :=
  vs.length = n ∧ (0 < n → ∃ b off, A = some ⟨b, off, none⟩ ∧ b < B ∧ ∀ j u, vs[j]? = some u → w.cell? ⟨b, off + j, none⟩ = some u)
/-- .. as the strings ss -/
def RdS (w : World) (B : Nat) (A : Option Addr) (n : Nat) (ss : List ByteArray) : Prop := RdV w B A n (ss.map Value.string)
section
variable {w w' : World} {B B' n k : Nat} {A : Option Addr} {ss : List ByteArray}
theorem RdS.len (h : RdS w B A n ss) : ss.length = n := by simpa using h.1
theorem RdS.below (h : RdS w B A n ss) (hb : Below B w w') : RdS w' B A n ss :=
  ⟨h.1, fun hn => by
    obtain ⟨b, off, e, hB, hc⟩ := h.2 hn
    exact ⟨b, off, e, hB, fun j u hu => (hb.cell (p := ⟨b, off + j, none⟩) hB).trans (hc j u hu)⟩⟩
theorem RdS.more (h : RdS w B A n ss) (hB : B ≤ B') : RdS w B' A n ss :=
  ⟨h.1, fun hn => by
    obtain ⟨b, off, e, hb, hc⟩ := h.2 hn
    exact ⟨b, off, e, by omega, hc⟩⟩
theorem RdS.at (h : RdS w B A n ss) (hk : k < n) : ∃ b off s, A = some ⟨b, off, none⟩ ∧ b < B ∧ ss[k]? = some s ∧ w.cell? ⟨b, off + k, none⟩ = some (.string s) := by
  obtain ⟨b, off, e, hb, hc⟩ := h.2 (by omega)
  have hl : k < ss.length := by have := h.len; omega
  exact ⟨b, off, ss[k], e, hb, List.getElem?_eq_getElem hl, hc k _ (by rw [List.getElem?_map, List.getElem?_eq_getElem hl]; rfl)⟩
theorem RdS.of_own {base c : Nat} (h : w.ownsRow base 9 1 (.slice A n c) n (ss.map Value.string)) : RdS w w.heap.size A n ss := by
  refine ⟨by simpa using h.1, fun hn => ?_⟩
  rcases h.2 with ⟨h', h0⟩ | ⟨g, cap, cur, hv, hg, hh, r⟩
  · omega
  · simp only [Value.slice.injEq] at hv
    obtain ⟨rfl, _⟩ := hv
    refine ⟨g, 0, rfl, (Array.getElem?_eq_some_iff.1 hh).1, fun j x hx => ?_⟩
    have := h.cells (g := g) rfl j x hx
    rw [addr_add0] at this
    exact this
theorem own_rds {base : Nat} {v : Value} (h : w.ownsRow base 9 1 v n (ss.map Value.string)) : ∃ A c, v = .slice A n c ∧ n ≤ c ∧ c ≤ maxLen ∧ RdS w w.heap.size A n ss := by
  rcases h.2 with ⟨rfl, rfl⟩ | ⟨g, cap, cur, rfl, hg, hh, hc, hm, r⟩
  · have : ss = [] := List.eq_nil_of_length_eq_zero (by simpa using h.1)
    subst this
    exact ⟨none, 0, rfl, Nat.le_refl _, Nat.zero_le _, ⟨rfl, fun h => absurd h (by omega)⟩⟩
  · exact ⟨_, cap, rfl, hc, hm, RdS.of_own h⟩
end

def tot (ss : List ByteArray) : Nat := (ss.map (·.size)).sum
theorem tot_succ (ss : List ByteArray) {k : Nat} {s : ByteArray} (h : ss[k]? = some s) : tot (ss.take (k + 1)) = tot (ss.take k) + s.size := by
  unfold tot
  rw [List.take_add_one, h]
  simp
theorem tot_all {ss : List ByteArray} {n : Nat} (h : ss.length = n) : tot (ss.take n) = tot ss := by rw [List.take_of_length_le (by omega)]
theorem tot_mem : ∀ {ss : List ByteArray} {s : ByteArray}, s ∈ ss → s.size ≤ tot ss
  | a :: r, s, h => by
    rcases List.mem_cons.1 h with rfl | h
    · simp [tot]
    · have := tot_mem h
      simp only [tot, List.map_cons, List.sum_cons] at this ⊢
      omega
theorem tot_take (ss : List ByteArray) (k : Nat) : tot (ss.take k) ≤ tot ss := by
  have e : tot ss = tot (ss.take k) + tot (ss.drop k) := by
    unfold tot
    rw [← List.sum_append, ← List.map_append, List.take_append_drop]
  omega

def Small (n : Nat) (ss : List ByteArray) (w : World) (e : Ending) (w' : World) : Prop := ∃ b : Bool, e = .returned (.bool b) ∧ w = w' ∧ (b = true → n + tot ss ≤ 1048576)

set_option maxHeartbeats 1600000 in
theorem bytes15_any (A : Option Addr) (n c : Nat) (ss : List ByteArray) (b0 : Bool) (w : World) (h : RdS w w.heap.size A n ss) :
    Calls Tryf.prog 15 #[.slice A n c, .bool b0] w (Small n ss w) := by
  have hlen := h.len
  by_cases hn : n ≤ 1048576
  · go_enter Tryf.func15, Tryf.ntmps15
    go_wp2
    go_loop [5, 6] (fun z i => ∃ k : Nat, k ≤ n ∧ i = .int .i64 k ∧ z = .int .i64 ((n + tot (ss.take k) : Nat) : Int) ∧ n + tot (ss.take k) ≤ 1048576) (fun _ i => n - (intOf i).toNat)
    case atStart => exact ⟨0, by omega, rfl, by simp [tot], by simp [tot]; omega⟩
    case round =>
      obtain ⟨k, hk, rfl, rfl, hz⟩ := hrel
      by_cases hlt : k < n
      · obtain ⟨b, off, s, rfl, hb, hs, hc⟩ := h.at hlt
        have ht := hide (tot_succ ss hs)
        clear hs
        generalize hZ : n + tot (ss.take k) = Z at *
        have hZ' := hide hZ
        clear hZ
        by_cases h1 : s.size ≤ 1048576
        · by_cases h2 : Z + s.size ≤ 1048576
          · go_wp2
            go_round
            case rel => exact ⟨k + 1, by omega, by go_num, by rw [ht.out, ← Nat.add_assoc, hZ'.out]; go_num, by rw [ht.out, ← Nat.add_assoc, hZ'.out]; exact h2⟩
            case measure => simp [intOf]; omega
          · go_wp2
            go_ret
            exact ⟨false, rfl, rfl, fun h => by cases h⟩
        · go_wp2
          go_ret
          exact ⟨false, rfl, rfl, fun h => by cases h⟩
      · obtain rfl : k = n := by omega
        have hz' := hide hz
        go_wp2
        go_ret
        refine ⟨true, rfl, rfl, fun _ => ?_⟩
        have := hz'.out
        rw [tot_all hlen] at this
        exact this
  · go_enter Tryf.func15, Tryf.ntmps15
    go_wp2
    go_ret
    exact ⟨false, rfl, rfl, fun h => by cases h⟩

set_option maxHeartbeats 1600000 in
theorem total16_any (A : Option Addr) (n c : Nat) (ss : List ByteArray) (w : World) (h : RdS w w.heap.size A n ss) (hs : n + tot ss ≤ 1048576) :
    Calls Tryf.prog 16 #[.slice A n c] w fun e w' => e = .returned (.int .i64 (tot ss)) ∧ w = w' := by
  have hlen := h.len
  go_enter Tryf.func16, Tryf.ntmps16
  go_wp2
  go_loop [3, 4] (fun z i => ∃ k : Nat, k ≤ n ∧ i = .int .i64 k ∧ z = .int .i64 ((tot (ss.take k) : Nat) : Int)) (fun _ i => n - (intOf i).toNat)
  case atStart => exact ⟨0, by omega, rfl, by simp [tot]⟩
  case round =>
    obtain ⟨k, hk, rfl, rfl⟩ := hrel
    by_cases hlt : k < n
    · obtain ⟨b, off, s, rfl, hb, hs, hc⟩ := h.at hlt
      have ht := hide (tot_succ ss hs)
      have hz := tot_take ss k
      have hy := tot_take ss (k + 1)
      rw [ht.out] at hy
      clear hs
      generalize tot (ss.take k) = Z at *
      go_wp2
      go_round
      case rel => exact ⟨k + 1, by omega, by go_num, by rw [ht.out]; go_num⟩
      case measure => simp [intOf]; omega
    · obtain rfl : k = n := by omega
      rw [tot_all hlen]
      go_wp2
      go_ret
      exact ⟨rfl, rfl⟩

set_option maxHeartbeats 1600000 in
theorem clone17_any (A : Option Addr) (n c : Nat) (ss : List ByteArray) (w : World) (h : RdS w w.heap.size A n ss) (hs : n ≤ 1048576) :
    Calls Tryf.prog 17 #[.slice A n c] w fun e w' => ∃ v, e = .returned v ∧ w'.ownsRow w.heap.size 9 1 v n (ss.map .string) ∧ Below w.heap.size w w' := by
  have hlen := h.len
  rcases A with _ | a
  · have hn0 : n = 0 := by
      rcases Nat.eq_zero_or_pos n with h0 | h0
      · exact h0
      · obtain ⟨b, off, h, _⟩ := h.2 h0
        cases h
    have hss : ss = [] := List.eq_nil_of_length_eq_zero (by omega)
    have e0 := @Lib.run_eql_slice_nil Tryf.prog
    subst hn0
    subst hss
    go_enter Tryf.func17, Tryf.ntmps17
    go_wp2
    go_ret
    exact ⟨_, rfl, ⟨rfl, .inl ⟨rfl, rfl⟩⟩, Below.refl _ _⟩
  · have e0 := @Lib.run_eql_slice_nil Tryf.prog
    replace hlen := hide hlen
    go_enter Tryf.func17, Tryf.ntmps17
    go_wp2_with (at_make; refine wpList_mk (c := n) E32 rfl _ rfl w.heap.size n rfl rfl (by omega) (by decide) (Nat.le_refl _) ?_; intro w3 hown3 hg hsz)
    rw [made_strings] at hown3
    have hb3 : Below w.heap.size w w3 := (Below.refl _ _).grown hg (Nat.le_refl _) (by intro k hk; cases hk)
    replace e0 := hide e0
    go_loopw [4] (fun s4 wr => ∃ i : Nat, i ≤ n ∧ s4 = .int .i64 i ∧ Hid (wr.ownsRow w.heap.size 9 1 (.slice (some ⟨w.heap.size, 0, none⟩) n n) n (sfill ss n i)) ∧ Hid (Below w.heap.size w wr)) (fun s4 _ => n - (intOf s4).toNat)
    case atStart => exact ⟨0, Nat.zero_le _, rfl, hide (by simpa [sfill] using hown3), hide hb3⟩
    case round =>
      clear hown3 hb3 hg hsz
      obtain ⟨i, hi, rfl, hown, hb⟩ := hrel
      by_cases hin : i < n
      · obtain ⟨b, off, s, ha, hB, hk, hc⟩ := h.at hin
        obtain rfl := Option.some.inj ha
        have hc2 := (hb.out.cell (p := ⟨b, off + i, none⟩) hB).trans hc
        have hf := hown.out.frozenAt i
        have hu := (hown.out.cellAt i (by omega)).trans (sfill_get ss n i hlen.out hin)
        have R := (hown.out.stored i (.string s)).1
        rw [sfill_set ss n i hlen.out hk] at R
        have hb6 := hb.out.setCell (p := ⟨w.heap.size, i, none⟩) (Nat.le_refl _) (.string s)
        replace R := hide R
        replace hb6 := hide hb6
        clear hown hb hk ha hc
        go_wp2
        go_roundw
        case rel => exact ⟨i + 1, by omega, by go_num, R, hb6⟩
        case measure => simp [intOf]; omega
      · obtain rfl : i = n := by omega
        have hfin := hown.out
        rw [sfill_full ss i hlen.out] at hfin
        replace hfin := hide hfin
        clear hown
        go_wp2
        go_ret
        exact ⟨_, rfl, hfin.out, hb.out⟩
end Go.Proofs.YtcmajdimggdkoaaFmt
