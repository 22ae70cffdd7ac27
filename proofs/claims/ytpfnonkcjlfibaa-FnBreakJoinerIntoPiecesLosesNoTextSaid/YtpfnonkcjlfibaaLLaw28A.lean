/-
  The law 'breaking a joiner loses no text', for every input. Conditions: none.
-/
import Derived.Test.YtpfnonkcjlfibaaLLaw28
namespace Go.Proofs.Ytpfnonkcjlfibaa
open Go.RowKit

set_option maxHeartbeats 1600000 in
set_option maxRecDepth 100000 in
theorem law28_all (p : ByteArray) (a b : Int) (A : Option Addr) (n c : Nat) (qs : List Part) (w : World) (hp : p.size ≤ maxLen) (hr : RdP w w.heap.size A n qs) (hc : n ≤ c) (hm : c ≤ maxLen) :
    Calls Try.prog 3 #[.string p, .int .i64 a, .int .i64 b, .slice A n c] w fun e w' => e = .returned (.bool true) ∧ Below w.heap.size w w' := by
  by_cases hab : (0 ≤ a ∧ a ≤ 65536) ∧ (0 ≤ b ∧ b ≤ 65536)
  · obtain ⟨⟨ha0, ha1⟩, hb0, hb1⟩ := hab
    obtain ⟨nf, rfl⟩ : ∃ nf : Nat, a = nf := ⟨a.toNat, by omega⟩
    obtain ⟨nc, rfl⟩ : ∃ nc : Nat, b = nc := ⟨b.toNat, by omega⟩
    exact law28_any p nf nc A n c qs w hr hp (by omega) (by omega) (by omega)
  · go_enter Try.func3, Try.ntmps3
    go_wp2_with fail
    refine (bytesP7_any p a b A n c qs w hr hp (by omega)).mono ?_
    rintro e w' ⟨t, rfl, hsz, rfl⟩
    cases t with
    | false =>
      go_wp2
      go_ret
      exact ⟨rfl, Below.refl _ _⟩
    | true =>
      replace hsz := hsz rfl
      go_wp2_with fail
      refine (partsBytes_any A n c p.size qs w hr hsz).mono ?_
      rintro e w' ⟨r, rfl, rfl⟩
      by_cases hr1 : 1048576 < r
      · go_wp2
        go_ret
        exact ⟨rfl, Below.refl _ _⟩
      · by_cases h1 : a < 0
        · go_wp2
          go_ret
          exact ⟨rfl, Below.refl _ _⟩
        · by_cases h2 : 65536 < a
          · go_wp2
            go_ret
            exact ⟨rfl, Below.refl _ _⟩
          · by_cases h3 : b < 0
            · go_wp2
              go_ret
              exact ⟨rfl, Below.refl _ _⟩
            · have h4 : 65536 < b := by omega
              go_wp2
              go_ret
              exact ⟨rfl, Below.refl _ _⟩
end Go.Proofs.Ytpfnonkcjlfibaa
