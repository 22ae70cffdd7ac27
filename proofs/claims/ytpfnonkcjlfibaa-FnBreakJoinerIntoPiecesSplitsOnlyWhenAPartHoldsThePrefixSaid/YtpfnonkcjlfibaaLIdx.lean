/-
  The walk of zzIndexBytes. Conditions: sizes below 4294967296.
-/
import Derived.Test.YtpfnonkcjlfibaaJSub
import Derived.Test.YtpfnonkcjlfibaaLMath
namespace Go.Proofs.Ytpfnonkcjlfibaa
open Go.RowKit

/-- a place that was found, or -1 -/
def Found (pre zs : List UInt8) (r : Int) : Prop := (∃ b : Nat, r = b ∧ LM.First pre zs b) ∨ (r = -1 ∧ ∀ b, ¬ LM.First pre zs b)

def FoundIs (pre zs : List UInt8) (w : World) (e : Ending) (w' : World) : Prop := ∃ (r : Int) (k : Nat), e = .returned (.int .i64 r) ∧ Found pre zs r ∧ w' = w.drewN k

theorem NoneTo.none {h n : List UInt8} {k : Nat} (hk : NoneTo h n k) (hl : h.length < k + n.length) : ∀ b, ¬ LM.First n h b := fun b hb => by
  have := hk b (by have := hb.1; omega)
  rw [hb.2.1] at this
  cases this

set_option maxHeartbeats 800000 in
theorem indexBytes_any (A D : Option Addr) (n c m d : Nat) (zs bs : List UInt8) (w : World) (hr : Rd w w.heap.size A n zs) (hc : n ≤ c) (hb : Rd w w.heap.size D m bs) (hn : n ≤ 4294967295) (hm : m ≤ 4294967295) :
    Calls Try.prog 37 #[.slice A n c, .slice D m d] w (FoundIs bs zs w) := by
  go_enter Try.func37, Try.ntmps37
  go_wp2
  go_loopw [5] (fun i wr => ∃ k q : Nat, k ≤ n + 1 ∧ i = .int .i64 k ∧ NoneTo zs bs k ∧ wr = w.drewN q) (fun i _ => n + 1 - (intOf i).toNat)
  case atStart => exact ⟨0, 0, by omega, rfl, NoneTo.zero _ _, rfl⟩
  case round =>
    obtain ⟨k, q, hk, rfl, hno, rfl⟩ := hrel
    by_cases hlt : k + m ≤ n
    · have hs1 : ∀ N, (convert 42 9 (.slice (if c = k then A else A.map (·.add k)) m (c - k))).run Try.prog (w.drewN N) = .ok (.string (ofBytes ((zs.drop k).take bs.length))) (w.drewN N) := fun N => by
        rw [hb.len]
        exact (((hr.from_ (show k ≤ n by omega) hc).upto (show m ≤ n - k by omega)).drewN N).string 42 5 9 _ Try.underlying42 Try.underlying5 Try.underlying9
      have hs2 : ∀ N, (convert 42 9 (.slice D m d)).run Try.prog (w.drewN N) = .ok (.string (ofBytes bs)) (w.drewN N) := fun N =>
        (hb.drewN N).string 42 5 9 _ Try.underlying42 Try.underlying5 Try.underlying9
      have he := bytes_occ zs bs k
      have hlen := hide hb.len
      have hlz := hide hr.len
      clear hr hb
      cases ho : JM.occ zs bs k with
      | true =>
        rw [ho] at he
        have HO := hide ho
        clear ho
        go_wp2
        go_quiet (fail)
        go_wp2
        all_goals go_ret
        all_goals exact ⟨k, _, rfl, .inl ⟨k, rfl, by rw [hlen.out, hlz.out]; omega, HO.out, hno⟩, rfl⟩
      | false =>
        rw [ho] at he
        have HO := hide ho
        clear ho
        go_wp2
        go_quiet (fail)
        go_wp2
        go_roundw
        case rel => exact ⟨k + 1, _, by omega, by go_num, hno.succ HO.out, rfl⟩
        case measure => simp [intOf]; omega
    · go_wp2
      go_ret
      refine ⟨-1, q, rfl, .inr ⟨rfl, hno.none (by rw [hr.len, hb.len]; omega)⟩, rfl⟩

end Go.Proofs.Ytpfnonkcjlfibaa
