/-
  The walks of the bounds on size (zzTooBig, zzBytes_..) and of zzBuild. Conditions: none for the bounds; for zzBuild what zzTooBig has let through.
-/
import Derived.Test.YteimbkhclmghhaaJDone
namespace Go.Proofs.Yteimbkhclmghhaa
open Go.RowKit

/-- a slice that reads as the values vs, one cell each; below block B -/
def RdV (w : World) (B : Nat) (A : Option Addr) (n : Nat) (vs : List Value) : Prop :=
  vs.length = n ∧ (0 < n → ∃ b off, A = some ⟨b, off, none⟩ ∧ b < B ∧ ∀ j u, vs[j]? = some u → w.cell? ⟨b, off + j, none⟩ = some u)
theorem RdV.below {w w' : World} {B n : Nat} {A : Option Addr} {vs : List Value} (h : RdV w B A n vs) (hb : Below B w w') : RdV w' B A n vs :=
  ⟨h.1, fun hn => by
    obtain ⟨b, off, e, hB, hc⟩ := h.2 hn
    exact ⟨b, off, e, hB, fun j u hu => (hb.cell (p := ⟨b, off + j, none⟩) hB).trans (hc j u hu)⟩⟩
theorem RdV.at {w : World} {B n k : Nat} {A : Option Addr} {vs : List Value} (h : RdV w B A n vs) (hk : k < n) : ∃ b off u, A = some ⟨b, off, none⟩ ∧ b < B ∧ vs[k]? = some u ∧ w.cell? ⟨b, off + k, none⟩ = some u := by
  obtain ⟨b, off, e, hb, hc⟩ := h.2 (by omega)
  have hl : k < vs.length := by have := h.1; omega
  exact ⟨b, off, vs[k], e, hb, List.getElem?_eq_getElem hl, hc k _ (List.getElem?_eq_getElem hl)⟩
theorem RdV.str {w : World} {B n k : Nat} {A : Option Addr} {ss : List ByteArray} (h : RdV w B A n (ss.map Value.string)) (hk : k < n) : ∃ b off s, A = some ⟨b, off, none⟩ ∧ b < B ∧ ss[k]? = some s ∧ w.cell? ⟨b, off + k, none⟩ = some (.string s) := by
  obtain ⟨b, off, u, e, hb, hu, hc⟩ := h.at hk
  rw [List.getElem?_map, Option.map_eq_some_iff] at hu
  obtain ⟨s, hs, rfl⟩ := hu
  exact ⟨b, off, s, e, hb, hs, hc⟩
theorem RdV.boo {w : World} {B n k : Nat} {A : Option Addr} {bs : List Bool} (h : RdV w B A n (bs.map Value.bool)) (hk : k < n) : ∃ b off x, A = some ⟨b, off, none⟩ ∧ b < B ∧ bs[k]? = some x ∧ w.cell? ⟨b, off + k, none⟩ = some (.bool x) := by
  obtain ⟨b, off, u, e, hb, hu, hc⟩ := h.at hk
  rw [List.getElem?_map, Option.map_eq_some_iff] at hu
  obtain ⟨s, hs, rfl⟩ := hu
  exact ⟨b, off, s, e, hb, hs, hc⟩

def tot (ss : List ByteArray) : Nat := (ss.map (·.size)).sum
theorem tot_succ (ss : List ByteArray) {k : Nat} {s : ByteArray} (h : ss[k]? = some s) : tot (ss.take (k + 1)) = tot (ss.take k) + s.size := by
  unfold tot
  rw [List.take_add_one, h]
  simp
theorem tot_all {ss : List ByteArray} {n : Nat} (h : ss.length = n) : tot (ss.take n) = tot ss := by rw [List.take_of_length_le (by omega)]

def SomeBool (w : World) (e : Ending) (w' : World) : Prop := ∃ b : Bool, e = .returned (.bool b) ∧ w = w'
def Small (n m : Nat) (ss : List ByteArray) (w : World) (e : Ending) (w' : World) : Prop := ∃ b : Bool, e = .returned (.bool b) ∧ w = w' ∧ (b = false → n ≤ 65536 ∧ m ≤ 65536 ∧ tot ss ≤ 65536)

set_option maxHeartbeats 1600000 in
theorem tooBig_any (A D : Option Addr) (n c m d : Nat) (ss : List ByteArray) (w : World) (h : RdV w w.heap.size A n (ss.map Value.string)) :
    Calls Try.prog 11 #[.slice A n c, .slice D m d, .int .i64 65536] w (Small n m ss w) := by
  have hlen : ss.length = n := by simpa using h.1
  by_cases hn : n ≤ 65536
  · by_cases hm : m ≤ 65536
    · by_cases hN : m + 16 * n ≤ 65536
      · go_enter Try.func11, Try.ntmps11
        go_wp2
        go_loop [7, 8] (fun z i => ∃ k : Nat, k ≤ n ∧ i = .int .i64 k ∧ z = .int .i64 ((m + 16 * n + tot (ss.take k) : Nat) : Int) ∧ m + 16 * n + tot (ss.take k) ≤ 65536) (fun _ i => n - (intOf i).toNat)
        case atStart => exact ⟨0, by omega, rfl, by simp [tot], by simp [tot]; omega⟩
        case round =>
          obtain ⟨k, hk, rfl, rfl, hz⟩ := hrel
          by_cases hlt : k < n
          · obtain ⟨b, off, s, rfl, hb, hs, hc⟩ := h.str hlt
            have ht := hide (tot_succ ss hs)
            clear hs
            generalize hZ : m + 16 * n + tot (ss.take k) = Z at *
            have hZ' := hide hZ
            clear hZ
            by_cases h1 : s.size ≤ 65536
            · by_cases h2 : Z + s.size ≤ 65536
              · go_wp2
                go_round
                case rel => exact ⟨k + 1, by omega, by go_num, by rw [ht.out, ← Nat.add_assoc, hZ'.out]; go_num, by rw [ht.out, ← Nat.add_assoc, hZ'.out]; exact h2⟩
                case measure => simp [intOf]; omega
              · go_wp2
                go_ret
                exact ⟨true, rfl, rfl, fun h => by cases h⟩
            · go_wp2
              go_ret
              exact ⟨true, rfl, rfl, fun h => by cases h⟩
          · obtain rfl : k = n := by omega
            have hz' := hide hz
            go_wp2
            go_ret
            refine ⟨false, rfl, rfl, fun _ => ⟨hn, hm, ?_⟩⟩
            have := hz'.out
            rw [tot_all hlen] at this
            omega
      · go_enter Try.func11, Try.ntmps11
        go_wp2
        go_ret
        exact ⟨true, rfl, rfl, fun h => by cases h⟩
    · go_enter Try.func11, Try.ntmps11
      go_wp2
      go_ret
      exact ⟨true, rfl, rfl, fun h => by cases h⟩
  · go_enter Try.func11, Try.ntmps11
    go_wp2
    go_ret
    exact ⟨true, rfl, rfl, fun h => by cases h⟩

set_option maxHeartbeats 1600000 in
theorem bytes3_any (A D : Option Addr) (n c m d : Nat) (ss : List ByteArray) (s0 : ByteArray) (w : World) (h : RdV w w.heap.size A n (ss.map Value.string)) :
    Calls Try.prog 10 #[.slice A n c, .slice D m d, .string s0] w (SomeBool w) := by
  by_cases hn : n ≤ 1048576
  · go_enter Try.func10, Try.ntmps10
    go_wp2
    go_loop [7, 8] (fun z i => ∃ k N : Nat, k ≤ n ∧ i = .int .i64 k ∧ z = .int .i64 N ∧ N ≤ 1048576) (fun _ i => n - (intOf i).toNat)
    case atStart => exact ⟨0, n, by omega, rfl, by go_num, hn⟩
    case round =>
      obtain ⟨k, N, hk, rfl, rfl, hz⟩ := hrel
      by_cases hlt : k < n
      · obtain ⟨b, off, s, rfl, hb, hs, hc⟩ := h.str hlt
        clear hs
        by_cases h1 : s.size ≤ 1048576
        · by_cases h2 : N + s.size ≤ 1048576
          · go_wp2
            go_round
            case rel => exact ⟨k + 1, N + s.size, by omega, by go_num, by go_num, h2⟩
            case measure => simp [intOf]; omega
          · go_wp2
            go_ret
            exact ⟨_, rfl, rfl⟩
        · go_wp2
          go_ret
          exact ⟨_, rfl, rfl⟩
      · by_cases hm : m ≤ 1048576
        · by_cases hNm : N + m ≤ 1048576
          · by_cases hs0 : s0.size ≤ 1048576
            · by_cases hNs : N + m + s0.size ≤ 1048576
              all_goals
                go_wp2
                go_ret
                exact ⟨_, rfl, rfl⟩
            · go_wp2
              go_ret
              exact ⟨_, rfl, rfl⟩
          · go_wp2
            go_ret
            exact ⟨_, rfl, rfl⟩
        · go_wp2
          go_ret
          exact ⟨_, rfl, rfl⟩
  · go_enter Try.func10, Try.ntmps10
    go_wp2
    go_ret
    exact ⟨_, rfl, rfl⟩
end Go.Proofs.Yteimbkhclmghhaa
