/-
  The walks of the searches: zzIndex, zzContains (strings), zzHasBytes (byte slices). Conditions: sizes below 4294967296.
-/
import Derived.Test.YtpfnonkcjlfibaaMem
import Derived.Test.YtpfnonkcjlfibaaJMath
import Derived.Test.YtpfnonkcjlfibaaRows
import Derived.WalkKit
import Derived.WalkLawsBesides
import Derived.WalkSpells
import Derived.LoopTactic
import Derived.Deep.DeepCutAuto
import Derived.Deep.QuietTactic
import Derived.BigQuiet
import Derived.Outline
namespace Go.Proofs.Ytpfnonkcjlfibaa
open Go.RowKit

def IdxIs (s n : ByteArray) (w : World) (e : Ending) (w' : World) : Prop :=
  ∃ i : Int, e = .returned (.int .i64 i) ∧ decide (0 ≤ i) = JM.hasSub s.data.toList n.data.toList ∧ w = w'

theorem extract_occ (s n : ByteArray) (k : Nat) : ((s.extract k (k + n.size)).toList == n.toList) = JM.occ s.data.toList n.data.toList k := by
  rw [ByteArray.toList_eq, ByteArray.toList_eq]
  unfold JM.occ
  congr 1
  simp [ByteArray.data_extract, List.extract_eq_take_drop]

def NoneTo (h n : List UInt8) (k : Nat) : Prop := ∀ j, j < k → JM.occ h n j = false
theorem NoneTo.zero (h n : List UInt8) : NoneTo h n 0 := fun _ hj => absurd hj (by omega)
theorem NoneTo.succ {h n : List UInt8} {k : Nat} (hk : NoneTo h n k) (ho : JM.occ h n k = false) : NoneTo h n (k + 1) := fun j hj => by
  by_cases e : j = k
  · rw [e]; exact ho
  · exact hk j (by omega)
theorem NoneTo.end_ {h n : List UInt8} {k : Nat} (hk : NoneTo h n k) (hl : h.length < k + n.length) : JM.hasSub h n = false := JM.hasSub_no fun i hi => hk i (by omega)

theorem len_data (s : ByteArray) : s.data.toList.length = s.size := Array.length_toList

set_option maxHeartbeats 400000 in
theorem index_any (s n : ByteArray) (w : World) (hs : s.size ≤ 4294967296) (hn : n.size ≤ 4294967296) :
    Calls Try.prog 40 #[.string s, .string n] w (IdxIs s n w) := by
  go_enter Try.func40, Try.ntmps40
  go_wp2
  go_loop [5] (fun i => ∃ k : Nat, k ≤ s.size + 1 ∧ i = .int .i64 k ∧ NoneTo s.data.toList n.data.toList k) (fun i => s.size + 1 - (intOf i).toNat)
  case atStart => exact ⟨0, by omega, rfl, NoneTo.zero _ _⟩
  case round =>
    obtain ⟨k, hk, rfl, hno⟩ := hrel
    by_cases hlt : k + n.size ≤ s.size
    · have he := extract_occ s n k
      cases ho : JM.occ s.data.toList n.data.toList k with
      | true =>
        rw [ho] at he
        have HO := hide ho
        clear ho
        go_wp2
        go_ret
        exact ⟨k, rfl, by rw [JM.hasSub_yes (by rw [len_data, len_data]; exact hlt) HO.out]; simp, rfl⟩
      | false =>
        rw [ho] at he
        have HO := hide ho
        clear ho
        go_wp2
        go_round
        case rel => exact ⟨k + 1, by omega, by go_num, hno.succ HO.out⟩
        case measure => simp [intOf]; omega
    · go_wp2
      go_ret
      exact ⟨-1, rfl, by rw [hno.end_ (by rw [len_data, len_data]; omega)]; rfl, rfl⟩

set_option maxHeartbeats 400000 in
theorem contains_any (s n : ByteArray) (w : World) (hs : s.size ≤ 4294967296) (hn : n.size ≤ 4294967296) :
    Calls Try.prog 38 #[.string s, .string n] w fun e w' => e = .returned (.bool (JM.hasSub s.data.toList n.data.toList)) ∧ w = w' := by
  go_enter Try.func38, Try.ntmps38
  go_wp2_with fail
  refine (index_any s n _ hs hn).mono ?_
  rintro e w' ⟨i, rfl, hi, rfl⟩
  have hi' := hide hi
  clear hi
  go_wp2
  go_ret
  exact ⟨by rw [← hi'.out]; rfl, rfl⟩

/-- two strings out of byte slices -/
theorem bytes_occ (zs bs : List UInt8) (k : Nat) : ((ofBytes ((zs.drop k).take bs.length)).toList == (ofBytes bs).toList) = JM.occ zs bs k := by
  rw [ByteArray.toList_eq, ByteArray.toList_eq]
  rfl

set_option maxHeartbeats 800000 in
theorem hasBytes_any (A D : Option Addr) (n c m d : Nat) (zs bs : List UInt8) (w : World) (hr : Rd w w.heap.size A n zs) (hc : n ≤ c) (hb : Rd w w.heap.size D m bs) (hn : n ≤ 4294967295) (hm : m ≤ 4294967295) :
    Calls Try.prog 39 #[.slice A n c, .slice D m d] w fun e w' => e = .returned (.bool (JM.hasSub zs bs)) ∧ ∃ k, w' = w.drewN k := by
  go_enter Try.func39, Try.ntmps39
  go_wp2
  go_loopw [5] (fun i wr => ∃ k q : Nat, k ≤ n + 1 ∧ i = .int .i64 k ∧ NoneTo zs bs k ∧ wr = w.drewN q) (fun i _ => n + 1 - (intOf i).toNat)
  case atStart => exact ⟨0, 0, by omega, rfl, NoneTo.zero _ _, rfl⟩
  case round =>
    obtain ⟨k, q, hk, rfl, hno, rfl⟩ := hrel
    by_cases hlt : k + m ≤ n
    · have hs1 : ∀ N, (convert 42 9 (.slice (if c = k then A else A.map (·.add k)) m (c - k))).run Try.prog (w.drewN N) = .ok (.string (ofBytes ((zs.drop k).take bs.length))) (w.drewN N) := fun N => by
        rw [hb.len]
        exact (((hr.from_ (show k ≤ n by omega) hc).upto (show m ≤ n - k by omega)).drewN N).string 42 5 9 _ Try.underlying42 Try.underlying5 Try.underlying9
      have hs2 : ∀ N, (convert 42 9 (.slice D m d)).run Try.prog (w.drewN N) = .ok (.string (ofBytes bs)) (w.drewN N) := fun N =>
        (hb.drewN N).string 42 5 9 _ Try.underlying42 Try.underlying5 Try.underlying9
      have he := bytes_occ zs bs k
      have hlen := hide hb.len
      have hlz := hide hr.len
      clear hr hb
      cases ho : JM.occ zs bs k with
      | true =>
        rw [ho] at he
        have HO := hide ho
        clear ho
        go_wp2
        go_quiet (fail)
        go_wp2
        all_goals go_ret
        all_goals exact ⟨by rw [JM.hasSub_yes (by rw [hlen.out, hlz.out]; exact hlt) HO.out]; rfl, _, rfl⟩
      | false =>
        rw [ho] at he
        have HO := hide ho
        clear ho
        go_wp2
        go_quiet (fail)
        go_wp2
        go_roundw
        case rel => exact ⟨k + 1, _, by omega, by go_num, hno.succ HO.out, rfl⟩
        case measure => simp [intOf]; omega
    · go_wp2
      go_ret
      refine ⟨by rw [hno.end_ (by rw [hr.len, hb.len]; omega)]; rfl, q, rfl⟩

end Go.Proofs.Ytpfnonkcjlfibaa
