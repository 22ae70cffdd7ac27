/-
  The law 'breaking is the unique decomposition at keys', for every input. Conditions: none.
-/
import Derived.Test.YtpfnonkcjlfibaaLLaw59
namespace Go.Proofs.Ytpfnonkcjlfibaa
open Go.RowKit

set_option maxHeartbeats 1600000 in
set_option maxRecDepth 100000 in
theorem law59_all (p : ByteArray) (a b : Int) (A : Option Addr) (n c : Nat) (zs : List UInt8) (w : World) (hp : p.size ≤ maxLen) (hr : Rd w w.heap.size A n zs) (hc : n ≤ c) (hm : c ≤ maxLen) :
    Calls Try.prog 6 #[.string p, .int .i64 a, .int .i64 b, .slice A n c] w fun e w' => e = .returned (.bool true) ∧ Below w.heap.size w w' := by
  by_cases hsz : p.size + n ≤ 1048576
  · by_cases hab : (0 ≤ a ∧ a ≤ 65536) ∧ (0 ≤ b ∧ b ≤ 65536)
    · obtain ⟨⟨ha0, ha1⟩, hb0, hb1⟩ := hab
      obtain ⟨nf, rfl⟩ : ∃ nf : Nat, a = nf := ⟨a.toNat, by omega⟩
      obtain ⟨nc, rfl⟩ : ∃ nc : Nat, b = nc := ⟨b.toNat, by omega⟩
      by_cases hp0 : 0 < p.size
      · exact law59_any p nf nc A n c zs w hr hc hsz hp0 (by omega) (by omega)
      · have hd : decide (p.size + n ≤ 1048576) = true := by simpa using hsz
        have hp0' : p.size = 0 := by omega
        go_enter Try.func6, Try.ntmps6
        go_wp2_with fail
        refine (bytes28_any p nf nc A n c w hp (by omega)).mono ?_
        rintro e w' ⟨rfl, rfl⟩
        rw [hd]
        clear hd
        go_wp2
        go_ret
        exact ⟨rfl, Below.refl _ _⟩
    · have hd : decide (p.size + n ≤ 1048576) = true := by simpa using hsz
      go_enter Try.func6, Try.ntmps6
      go_wp2_with fail
      refine (bytes28_any p a b A n c w hp (by omega)).mono ?_
      rintro e w' ⟨rfl, rfl⟩
      rw [hd]
      clear hd
      by_cases h1 : a < 0
      · go_wp2
        go_ret
        exact ⟨rfl, Below.refl _ _⟩
      · by_cases h2 : 65536 < a
        · go_wp2
          go_ret
          exact ⟨rfl, Below.refl _ _⟩
        · by_cases h3 : b < 0
          · go_wp2
            go_ret
            exact ⟨rfl, Below.refl _ _⟩
          · have h4 : 65536 < b := by omega
            go_wp2
            go_ret
            exact ⟨rfl, Below.refl _ _⟩
  · have hd : decide (p.size + n ≤ 1048576) = false := by simpa using hsz
    go_enter Try.func6, Try.ntmps6
    go_wp2_with fail
    refine (bytes28_any p a b A n c w hp (by omega)).mono ?_
    rintro e w' ⟨rfl, rfl⟩
    rw [hd]
    clear hd
    go_wp2
    go_ret
    exact ⟨rfl, Below.refl _ _⟩
end Go.Proofs.Ytpfnonkcjlfibaa
