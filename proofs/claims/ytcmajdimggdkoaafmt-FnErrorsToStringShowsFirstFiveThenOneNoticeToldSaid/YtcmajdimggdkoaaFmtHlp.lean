/-
  The walks of law 30's helpers: the size test, zzPrintable, zzContains. Conditions: sizes.
-/
import Derived.Test.YtcmajdimggdkoaaFmtHelp
namespace Go.Proofs.YtcmajdimggdkoaaFmt
open Go.RowKit

set_option maxHeartbeats 400000 in
theorem bytes10_any (s : ByteArray) (b : Bool) (w : World) (hs : s.size ≤ maxLen) :
    Calls Tryf.prog 10 #[.string s, .bool b] w fun e w' => (e = .returned (.bool (decide (s.size ≤ 1048576)))) ∧ w = w' := by
  unfold maxLen at hs
  go_enter Tryf.func10, Tryf.ntmps10
  by_cases h1 : s.size ≤ 1048576
  · rw [decide_eq_true h1]
    go_wp2
    go_ret
    exact ⟨rfl, rfl⟩
  · rw [decide_eq_false h1]
    go_wp2
    go_ret
    exact ⟨rfl, rfl⟩

/-- printable ASCII? -/
def printB (x : UInt8) : Bool := decide (32 ≤ x.toNat ∧ x.toNat ≤ 126)
def allPrint (zs : List UInt8) : Bool := zs.all printB
set_option maxHeartbeats 800000 in
theorem print11_any (m : ByteArray) (w : World) (hm : m.size ≤ 4294967296) :
    Calls Tryf.prog 11 #[.string m] w fun e w' => e = .returned (.bool (allPrint m.data.toList)) ∧ w = w' := by
  go_enter Tryf.func11, Tryf.ntmps11
  go_wp2
  go_loop [3] (fun i => ∃ k : Nat, k ≤ m.size ∧ i = .int .i64 k ∧ Hid ((m.data.toList.take k).all printB = true)) (fun i => m.size - (intOf i).toNat)
  case atStart => exact ⟨0, by omega, rfl, hide rfl⟩
  case round =>
    obtain ⟨k, hk, rfl, hno⟩ := hrel
    by_cases hkl : k < m.size
    · have hx := hide (ba_get m k hkl)
      have hlt := (m[k]'hkl).toNat_lt
      by_cases hc : 32 ≤ (m[k]'hkl).toNat
      · by_cases hc2 : (m[k]'hkl).toNat ≤ 126
        · have hn : Hid ((m.data.toList.take (k + 1)).all printB = true) := hide (by
            rw [List.take_add_one, hx.out, List.all_append, hno.out]
            simp [printB, hc, hc2])
          go_wp2
          exact ⟨⟨k + 1, by omega, by go_num, hn⟩, by simp [intOf]; omega⟩
        · have hn : Hid (allPrint m.data.toList = false) := hide (by
            unfold allPrint
            rw [List.all_eq_false]
            exact ⟨_, List.mem_of_getElem? hx.out, by simp [printB, hc2]⟩)
          go_wp2
          go_ret
          exact ⟨by rw [hn.out]; rfl, rfl⟩
      · have hn : Hid (allPrint m.data.toList = false) := hide (by
          unfold allPrint
          rw [List.all_eq_false]
          exact ⟨_, List.mem_of_getElem? hx.out, by simp [printB, hc]⟩)
        go_wp2
        go_ret
        exact ⟨by rw [hn.out]; rfl, rfl⟩
    · obtain rfl : k = m.size := by omega
      have := hno.out
      rw [List.take_of_length_le (by rw [ba_len]; exact Nat.le_refl _)] at this
      replace this : Hid (allPrint m.data.toList = true) := hide this
      go_wp2
      go_ret
      exact ⟨by rw [this.out]; rfl, rfl⟩

set_option maxHeartbeats 1600000 in
theorem contains13_yes (s p : ByteArray) (w : World) (q : Nat) (hp : 0 < p.size) (hs : s.size ≤ 4294967296) (hq : q + p.size ≤ s.size) (he : s.extract q (q + p.size) = p) :
    Calls Tryf.prog 13 #[.string s, .string p] w fun e w' => e = .returned (.bool true) ∧ w = w' := by
  replace he := hide he
  go_enter Tryf.func13, Tryf.ntmps13
  go_wp2
  go_loop [5] (fun i => ∃ k : Nat, k ≤ q ∧ i = .int .i64 k) (fun i => s.size - (intOf i).toNat)
  case atStart => exact ⟨0, by omega, rfl⟩
  case round =>
    obtain ⟨k, hk, rfl⟩ := hrel
    by_cases hm : s.extract k (k + p.size) = p
    · have hb : ((s.extract k (k + p.size)).toList == p.toList) = true := by rw [hm]; simp
      clear hm
      go_wp2
      go_ret
      exact ⟨rfl, rfl⟩
    · have hkq : k < q := by
        rcases Nat.lt_or_ge k q with h | h
        · exact h
        · obtain rfl : k = q := by omega
          exact absurd he.out hm
      have hb : ((s.extract k (k + p.size)).toList == p.toList) = false := by
        rw [ByteArray.toList_eq, ByteArray.toList_eq]
        simp only [beq_eq_false_iff_ne, ne_eq]
        intro e
        apply hm
        cases hx : s.extract k (k + p.size)
        cases hy : p
        rw [hx, hy] at e
        exact congrArg ByteArray.mk (Array.toList_inj.1 e)
      clear hm
      go_wp2
      exact ⟨⟨k + 1, by omega, by go_num⟩, by simp [intOf]; omega⟩
end Go.Proofs.YtcmajdimggdkoaaFmt
