/-
  Law 53's size test, and the plain facts on the texts that it compares. Conditions: sizes.
-/
import Derived.Test.YtcmajdimggdkoaaFmtErm
import Derived.Test.YtcmajdimggdkoaaFmtMsr
namespace Go.Proofs.YtcmajdimggdkoaaFmt
open Go.RowKit

def Small2 (n m : Nat) (ss : List ByteArray) (w : World) (e : Ending) (w' : World) : Prop := ∃ b : Bool, e = .returned (.bool b) ∧ w = w' ∧ (b = true → n + tot ss + m ≤ 1048576)

set_option maxHeartbeats 1600000 in
theorem bytes19_any (A : Option Addr) (n c : Nat) (ss : List ByteArray) (s0 : ByteArray) (w : World) (h : RdS w w.heap.size A n ss) :
    Calls Tryf.prog 19 #[.slice A n c, .string s0] w (Small2 n s0.size ss w) := by
  have hlen := h.len
  by_cases hn : n ≤ 1048576
  · go_enter Tryf.func19, Tryf.ntmps19
    go_wp2
    go_loop [5, 6] (fun z i => ∃ k : Nat, k ≤ n ∧ i = .int .i64 k ∧ z = .int .i64 ((n + tot (ss.take k) : Nat) : Int) ∧ n + tot (ss.take k) ≤ 1048576) (fun _ i => n - (intOf i).toNat)
    case atStart => exact ⟨0, by omega, rfl, by simp [tot], by simp [tot]; omega⟩
    case round =>
      obtain ⟨k, hk, rfl, rfl, hz⟩ := hrel
      by_cases hlt : k < n
      · obtain ⟨b, off, s, rfl, hb, hs, hc⟩ := h.at hlt
        have ht := hide (tot_succ ss hs)
        clear hs
        generalize hZ : n + tot (ss.take k) = Z at *
        have hZ' := hide hZ
        clear hZ
        by_cases h1 : s.size ≤ 1048576
        · by_cases h2 : Z + s.size ≤ 1048576
          · go_wp2
            go_round
            case rel => exact ⟨k + 1, by omega, by go_num, by rw [ht.out, ← Nat.add_assoc, hZ'.out]; go_num, by rw [ht.out, ← Nat.add_assoc, hZ'.out]; exact h2⟩
            case measure => simp [intOf]; omega
          · go_wp2
            go_ret
            exact ⟨false, rfl, rfl, fun h => by cases h⟩
        · go_wp2
          go_ret
          exact ⟨false, rfl, rfl, fun h => by cases h⟩
      · obtain rfl : k = n := by omega
        have ht := hide (tot_all hlen)
        generalize hZ : k + tot (ss.take k) = Z at *
        have hZ' := hide hZ
        clear hZ
        by_cases h1 : s0.size ≤ 1048576
        · by_cases h2 : Z + s0.size ≤ 1048576
          · go_wp2
            go_ret
            refine ⟨true, rfl, rfl, fun _ => ?_⟩
            have := hZ'.out
            rw [ht.out] at this
            omega
          · go_wp2
            go_ret
            exact ⟨false, rfl, rfl, fun h => by cases h⟩
        · go_wp2
          go_ret
          exact ⟨false, rfl, rfl, fun h => by cases h⟩
  · go_enter Tryf.func19, Tryf.ntmps19
    go_wp2
    go_ret
    exact ⟨false, rfl, rfl, fun h => by cases h⟩

theorem ofBytes_append (a b : List UInt8) : ofBytes a ++ ofBytes b = ofBytes (a ++ b) := by
  apply ofBytes_eq
  rw [ByteArray.data_append, Array.toList_append]
  rfl
/-- one text of a slice of texts: 'ss[i:i+1]' -/
theorem RdS.one {w : World} {B b off n i : Nat} {ss : List ByteArray} {t : ByteArray} (h : RdS w B (some ⟨b, off, none⟩) n ss) (hi : i < n) (ht : ss[i]? = some t) : RdS w B (some ⟨b, off + i, none⟩) 1 [t] := by
  obtain ⟨b', off', e, hB, hc⟩ := h.2 (by omega)
  simp only [Option.some.injEq, Addr.mk.injEq, and_true] at e
  obtain ⟨rfl, rfl⟩ := e
  refine ⟨rfl, fun _ => ⟨b, off + i, rfl, hB, fun j u hu => ?_⟩⟩
  have hj : j = 0 := by
    cases j with
    | zero => rfl
    | succ j => simp at hu
  subst hj
  simp only [List.map_cons, List.getElem?_cons_zero, Option.some.injEq] at hu
  subst hu
  exact hc i _ (by rw [List.getElem?_map, ht]; rfl)

/-- the other texts: the first five, then alt -/
def others (ss : List ByteArray) (n : Nat) (alt : ByteArray) : List ByteArray := ss.take 5 ++ List.replicate (n - 5) alt
section
variable {ss : List ByteArray} {n : Nat} {alt : ByteArray}
theorem others_len (h : ss.length = n) (hn : 5 < n) : (others ss n alt).length = n := by simp [others]; omega
theorem others_take (h : ss.length = n) (hn : 5 < n) : (others ss n alt).take 5 = ss.take 5 := by
  unfold others
  rw [List.take_append_of_le_length (by simp; omega), List.take_take, Nat.min_self]
theorem others_low (h : ss.length = n) (hn : 5 < n) {i : Nat} (hi : i < 5) : (others ss n alt)[i]? = ss[i]? := by
  unfold others
  rw [List.getElem?_append_left (by simp; omega), List.getElem?_take, if_pos hi]
theorem others_high (h : ss.length = n) (hn : 5 < n) {i : Nat} (hi : 5 ≤ i) (hin : i < n) : (others ss n alt)[i]? = some alt := by
  unfold others
  rw [List.getElem?_append_right (by simp; omega), List.getElem?_replicate, if_pos (by simp; omega)]
theorem others_mem {t : ByteArray} (h : t ∈ others ss n alt) : t ∈ ss ∨ t = alt := by
  unfold others at h
  rcases List.mem_append.1 h with h | h
  · exact .inl (List.mem_of_mem_take h)
  · exact .inr (List.mem_replicate.1 h).2
end
end Go.Proofs.YtcmajdimggdkoaaFmt
