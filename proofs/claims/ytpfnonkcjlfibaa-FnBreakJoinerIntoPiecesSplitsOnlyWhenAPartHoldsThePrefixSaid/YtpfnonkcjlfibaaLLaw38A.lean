/-
  The law 'breaking a joiner splits only when a part holds the prefix', for every input. Conditions: none.
-/
import Derived.Test.YtpfnonkcjlfibaaLLaw38
namespace Go.Proofs.Ytpfnonkcjlfibaa
open Go.RowKit

set_option maxHeartbeats 8000000 in
set_option maxRecDepth 100000 in
theorem law38_all (p : ByteArray) (a b : Int) (A : Option Addr) (n c : Nat) (qs : List Part) (w : World) (hp : p.size ≤ maxLen) (hr : RdP w w.heap.size A n qs) (hc : n ≤ c) (hm : c ≤ maxLen) :
    Calls Try.prog 4 #[.string p, .int .i64 a, .int .i64 b, .slice A n c] w fun e w' => e = .returned (.bool true) ∧ Below w.heap.size w w' := by
  by_cases hab : (0 ≤ a ∧ a ≤ 65536) ∧ (0 ≤ b ∧ b ≤ 65536)
  · obtain ⟨⟨ha0, ha1⟩, hb0, hb1⟩ := hab
    obtain ⟨nf, rfl⟩ : ∃ nf : Nat, a = nf := ⟨a.toNat, by omega⟩
    obtain ⟨nc, rfl⟩ : ∃ nc : Nat, b = nc := ⟨b.toNat, by omega⟩
    by_cases hp0 : 0 < p.size
    · exact law38_any p nf nc A n c qs w hr hp (by omega) hp0 (by omega) (by omega)
    · replace hp0 := hide hp0
      go_enter Try.func4, Try.ntmps4
      go_wp2_with fail
      refine (bytesP19_any p nf nc A n c qs w hr hp (by omega)).mono ?_
      rintro e w' ⟨t, rfl, hsz, rfl⟩
      cases t with
      | false =>
        go_wp2
        go_ret
        exact ⟨rfl, Below.refl _ _⟩
      | true =>
        replace hsz := hsz rfl
        go_wp2_with fail
        refine (partsBytes_any A n c p.size qs w hr hsz).mono ?_
        rintro e w' ⟨r, rfl, rfl⟩
        by_cases hr1 : 1048576 < r
        · go_wp2
          go_ret
          exact ⟨rfl, Below.refl _ _⟩
        · have hp0' : p.size = 0 := by have := hp0.out; omega
          go_wp2
          go_ret
          exact ⟨rfl, Below.refl _ _⟩
  · go_enter Try.func4, Try.ntmps4
    go_wp2_with fail
    refine (bytesP19_any p a b A n c qs w hr hp (by omega)).mono ?_
    rintro e w' ⟨t, rfl, hsz, rfl⟩
    cases t with
    | false =>
      go_wp2
      go_ret
      exact ⟨rfl, Below.refl _ _⟩
    | true =>
      replace hsz := hsz rfl
      go_wp2_with fail
      refine (partsBytes_any A n c p.size qs w hr hsz).mono ?_
      rintro e w' ⟨r, rfl, rfl⟩
      by_cases hr1 : 1048576 < r
      · go_wp2
        go_ret
        exact ⟨rfl, Below.refl _ _⟩
      · by_cases h1 : a < 0
        · go_wp2
          go_ret
          exact ⟨rfl, Below.refl _ _⟩
        · by_cases h2 : 65536 < a
          · go_wp2
            go_ret
            exact ⟨rfl, Below.refl _ _⟩
          · by_cases h3 : b < 0
            · go_wp2
              go_ret
              exact ⟨rfl, Below.refl _ _⟩
            · have h4 : 65536 < b := by omega
              go_wp2
              go_ret
              exact ⟨rfl, Below.refl _ _⟩
end Go.Proofs.Ytpfnonkcjlfibaa
