/-
  The law 'breaking restarts behind the first key', for every input. Conditions: none.
-/
import Derived.Test.YtpfnonkcjlfibaaLLaw43
namespace Go.Proofs.Ytpfnonkcjlfibaa
open Go.RowKit

set_option maxHeartbeats 1600000 in
theorem law43_all (p : ByteArray) (a b : Int) (A : Option Addr) (n c : Nat) (zs : List UInt8) (w : World) (hp : p.size ≤ maxLen) (hr : Rd w w.heap.size A n zs) (hc : n ≤ c) (hm : c ≤ maxLen) :
    Calls Try.prog 5 #[.string p, .int .i64 a, .int .i64 b, .slice A n c] w fun e w' => e = .returned (.bool true) ∧ Below w.heap.size w w' := by
  by_cases hsz : p.size + n ≤ 1048576
  · by_cases hab : (0 ≤ a ∧ a ≤ 65536) ∧ (0 ≤ b ∧ b ≤ 65536)
    · obtain ⟨⟨ha0, ha1⟩, hb0, hb1⟩ := hab
      obtain ⟨nf, rfl⟩ : ∃ nf : Nat, a = nf := ⟨a.toNat, by omega⟩
      obtain ⟨nc, rfl⟩ : ∃ nc : Nat, b = nc := ⟨b.toNat, by omega⟩
      exact law43_any p nf nc A n c zs w hr hc hsz (by omega) (by omega)
    · have hd : decide (p.size + n ≤ 1048576) = true := by simpa using hsz
      go_enter Try.func5, Try.ntmps5
      go_wp2_with fail
      refine (bytes24_any p a b A n c w hp (by omega)).mono ?_
      rintro e w' ⟨rfl, rfl⟩
      rw [hd]
      clear hd
      by_cases h1 : a < 0
      · go_wp2
        go_ret
        exact ⟨rfl, Below.refl _ _⟩
      · by_cases h2 : 65536 < a
        · go_wp2
          go_ret
          exact ⟨rfl, Below.refl _ _⟩
        · by_cases h3 : b < 0
          · go_wp2
            go_ret
            exact ⟨rfl, Below.refl _ _⟩
          · have h4 : 65536 < b := by omega
            go_wp2
            go_ret
            exact ⟨rfl, Below.refl _ _⟩
  · have hd : decide (p.size + n ≤ 1048576) = false := by simpa using hsz
    go_enter Try.func5, Try.ntmps5
    go_wp2_with fail
    refine (bytes24_any p a b A n c w hp (by omega)).mono ?_
    rintro e w' ⟨rfl, rfl⟩
    rw [hd]
    clear hd
    go_wp2
    go_ret
    exact ⟨rfl, Below.refl _ _⟩
end Go.Proofs.Ytpfnonkcjlfibaa
