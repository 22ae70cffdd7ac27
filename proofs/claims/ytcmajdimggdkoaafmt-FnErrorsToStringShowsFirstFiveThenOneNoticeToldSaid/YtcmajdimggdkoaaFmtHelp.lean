/-
  Small words and the walks of the laws' small helpers. Conditions: sizes.
-/
import Derived.Test.YtcmajdimggdkoaaFmtMem
import Derived.Test.YtcmajdimggdkoaaFmtProg
import Derived.WalkKit
import Derived.WalkSpells
import Derived.LoopTactic
import Derived.Deep.DeepCutAuto
import Derived.Outline
namespace Go.Proofs.YtcmajdimggdkoaaFmt
open Go.RowKit

theorem E55 : ElemT Tryf.prog 55 5 (.int .u8 0) 1 1 := ⟨Tryf.underlying55, by kernel_rfl, rfl, by decide⟩

theorem ofBytes_eq {a : ByteArray} {zs : List UInt8} (h : a.data.toList = zs) : a = ofBytes zs := by
  rw [← h, ofBytes_self]

theorem ba_get (s : ByteArray) (k : Nat) (h : k < s.size) : s.data.toList[k]? = some (s[k]'h) := by
  have h' : k < s.data.size := h
  rw [Array.getElem?_toList, Array.getElem?_eq_getElem h']
  rfl
theorem ba_len (s : ByteArray) : s.data.toList.length = s.size := Array.length_toList

/-- does a byte stand in a list? -/
def hasB (zs : List UInt8) (c : Nat) : Bool := zs.any fun x => decide (x.toNat = c)
theorem hasB_succ {zs : List UInt8} {k : Nat} {x : UInt8} (h : zs[k]? = some x) (c : Nat) : hasB (zs.take (k + 1)) c = (hasB (zs.take k) c || decide (x.toNat = c)) := by
  unfold hasB
  rw [List.take_add_one, h, List.any_append]
  simp
theorem hasB_yes {zs : List UInt8} {k : Nat} {x : UInt8} (h : zs[k]? = some x) {c : Nat} (hx : x.toNat = c) : hasB zs c = true := by
  unfold hasB
  rw [List.any_eq_true]
  exact ⟨x, List.mem_of_getElem? h, by simp [hx]⟩
theorem hasB_no {zs : List UInt8} {c : Nat} (h : hasB zs c = false) {x : UInt8} (hx : x ∈ zs) : x.toNat ≠ c := fun e => by
  have : hasB zs c = true := by
    unfold hasB
    rw [List.any_eq_true]
    exact ⟨x, hx, by simp [e]⟩
  rw [h] at this
  cases this

set_option maxHeartbeats 400000 in
theorem hasByte14_any (m : ByteArray) (c : UInt8) (w : World) (hm : m.size ≤ 4294967296) :
    Calls Tryf.prog 14 #[.string m, .int .u8 c.toNat] w fun e w' => e = .returned (.bool (hasB m.data.toList c.toNat)) ∧ w = w' := by
  go_enter Tryf.func14, Tryf.ntmps14
  go_wp2
  go_loop [5] (fun i => ∃ k : Nat, k ≤ m.size ∧ i = .int .i64 k ∧ Hid (hasB (m.data.toList.take k) c.toNat = false)) (fun i => m.size - (intOf i).toNat)
  case atStart => exact ⟨0, by omega, rfl, hide rfl⟩
  case round =>
    obtain ⟨k, hk, rfl, hno⟩ := hrel
    by_cases hkl : k < m.size
    · have hx := hide (ba_get m k hkl)
      by_cases hc : (m[k]'hkl).toNat = c.toNat
      · have b1 : (((m[k]'hkl).toNat : Int) == (c.toNat : Int)) = true := by simp; exact_mod_cast hc
        have hy := hide (hasB_yes hx.out hc)
        clear hc
        go_wp2
        go_ret
        exact ⟨by rw [hy.out]; rfl, rfl⟩
      · have b1 : (((m[k]'hkl).toNat : Int) == (c.toNat : Int)) = false := by simp; omega
        have hn : Hid (hasB (m.data.toList.take (k + 1)) c.toNat = false) := hide (by rw [hasB_succ hx.out, hno.out, decide_eq_false hc]; rfl)
        clear hc
        go_wp2
        exact ⟨⟨k + 1, by omega, by go_num, hn⟩, by simp [intOf]; omega⟩
    · obtain rfl : k = m.size := by omega
      go_wp2
      go_ret
      have := hno.out
      rw [List.take_of_length_le (by rw [ba_len]; exact Nat.le_refl _)] at this
      exact ⟨by rw [this]; rfl, rfl⟩
end Go.Proofs.YtcmajdimggdkoaaFmt
