/-
  The walks of HashForFileName and of the first law's bound on size. Conditions: not empty, at most 16777216 bytes.
-/
import Derived.Test.YteimbkhclmghhaaHBase
namespace Go.Proofs.Yteimbkhclmghhaa
open Go.RowKit

set_option maxHeartbeats 400000 in
theorem name_any (A : Option Addr) (n cap : Nat) (zs : List UInt8) (w : World) (h : Rd w w.heap.size A n zs) (hcap : n ≤ cap) (hn : n ≤ 16777216) (h0 : 0 < n) :
    Calls Try.prog 8 #[.slice A n cap] w fun e w' => e = .returned (.string (ofBytes (HM.head8 zs))) ∧ Below w.heap.size w w' := by
  go_enter Try.func8, Try.ntmps8
  go_wp2_with fail
  refine (base32_any A n cap zs _ h hcap hn h0).mono ?_
  rintro e w' ⟨L, rfl, h8, hL, hb⟩
  have hs : 8 ≤ (ofBytes L).size := by rw [ofBytes_size]; exact h8
  have hL' := hide hL
  clear hL
  go_wp2
  go_ret
  exact ⟨by rw [ofBytes_extract, hL'.out]; rfl, hb⟩

set_option maxHeartbeats 400000 in
theorem room_any (A : Option Addr) (n cap : Nat) (w : World) : 
    Calls Try.prog 7 #[.slice A n cap] w fun e w' => e = .returned (.bool (decide (n ≤ 1048576))) ∧ w = w' := by
  by_cases hn : n ≤ 1048576
  · go_enter Try.func7, Try.ntmps7
    go_wp2
    go_ret
    exact ⟨by simp [hn], rfl⟩
  · go_enter Try.func7, Try.ntmps7
    go_wp2
    go_ret
    exact ⟨by simp [hn], rfl⟩
end Go.Proofs.Yteimbkhclmghhaa
