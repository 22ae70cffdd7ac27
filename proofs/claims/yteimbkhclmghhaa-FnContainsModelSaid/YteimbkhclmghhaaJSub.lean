/-
  The walks of the searches: zzIndex, zzContains (strings), zzHasBytes, zzHasSub (byte slices). Conditions: sizes below 4294967296.
-/
import Derived.Test.YteimbkhclmghhaaMem
import Derived.Test.YteimbkhclmghhaaJMath
import Derived.Test.YteimbkhclmghhaaRows
import Derived.WalkKit
import Derived.WalkLawsBesides
import Derived.WalkSpells
import Derived.LoopTactic
import Derived.Deep.DeepCutAuto
import Derived.Deep.QuietTactic
import Derived.BigQuiet
import Derived.Outline
namespace Go.Proofs.Yteimbkhclmghhaa
open Go.RowKit

def IdxIs (s n : ByteArray) (w : World) (e : Ending) (w' : World) : Prop :=
  ∃ i : Int, e = .returned (.int .i64 i) ∧ decide (0 ≤ i) = JM.hasSub s.data.toList n.data.toList ∧ w = w'

theorem extract_occ (s n : ByteArray) (k : Nat) : ((s.extract k (k + n.size)).toList == n.toList) = JM.occ s.data.toList n.data.toList k := by
  rw [ByteArray.toList_eq, ByteArray.toList_eq]
  unfold JM.occ
  congr 1
  simp [ByteArray.data_extract, List.extract_eq_take_drop]

def NoneTo (h n : List UInt8) (k : Nat) : Prop := ∀ j, j < k → JM.occ h n j = false
theorem NoneTo.zero (h n : List UInt8) : NoneTo h n 0 := fun _ hj => absurd hj (by omega)
theorem NoneTo.succ {h n : List UInt8} {k : Nat} (hk : NoneTo h n k) (ho : JM.occ h n k = false) : NoneTo h n (k + 1) := fun j hj => by
  by_cases e : j = k
  · rw [e]; exact ho
  · exact hk j (by omega)
theorem NoneTo.end_ {h n : List UInt8} {k : Nat} (hk : NoneTo h n k) (hl : h.length < k + n.length) : JM.hasSub h n = false := JM.hasSub_no fun i hi => hk i (by omega)

theorem len_data (s : ByteArray) : s.data.toList.length = s.size := Array.length_toList

set_option maxHeartbeats 400000 in
theorem index_any (s n : ByteArray) (w : World) (hs : s.size ≤ 4294967296) (hn : n.size ≤ 4294967296) :
    Calls Try.prog 24 #[.string s, .string n] w (IdxIs s n w) := by
  go_enter Try.func24, Try.ntmps24
  go_wp2
  go_loop [5] (fun i => ∃ k : Nat, k ≤ s.size + 1 ∧ i = .int .i64 k ∧ NoneTo s.data.toList n.data.toList k) (fun i => s.size + 1 - (intOf i).toNat)
  case atStart => exact ⟨0, by omega, rfl, NoneTo.zero _ _⟩
  case round =>
    obtain ⟨k, hk, rfl, hno⟩ := hrel
    by_cases hlt : k + n.size ≤ s.size
    · have he := extract_occ s n k
      cases ho : JM.occ s.data.toList n.data.toList k with
      | true =>
        rw [ho] at he
        have HO := hide ho
        clear ho
        go_wp2
        go_ret
        exact ⟨k, rfl, by rw [JM.hasSub_yes (by rw [len_data, len_data]; exact hlt) HO.out]; simp, rfl⟩
      | false =>
        rw [ho] at he
        have HO := hide ho
        clear ho
        go_wp2
        go_round
        case rel => exact ⟨k + 1, by omega, by go_num, hno.succ HO.out⟩
        case measure => simp [intOf]; omega
    · go_wp2
      go_ret
      exact ⟨-1, rfl, by rw [hno.end_ (by rw [len_data, len_data]; omega)]; rfl, rfl⟩

set_option maxHeartbeats 400000 in
theorem contains_any (s n : ByteArray) (w : World) (hs : s.size ≤ 4294967296) (hn : n.size ≤ 4294967296) :
    Calls Try.prog 22 #[.string s, .string n] w fun e w' => e = .returned (.bool (JM.hasSub s.data.toList n.data.toList)) ∧ w = w' := by
  go_enter Try.func22, Try.ntmps22
  go_wp2_with fail
  refine (index_any s n _ hs hn).mono ?_
  rintro e w' ⟨i, rfl, hi, rfl⟩
  have hi' := hide hi
  clear hi
  go_wp2
  go_ret
  exact ⟨by rw [← hi'.out]; rfl, rfl⟩

/-- two strings out of byte slices -/
theorem bytes_occ (zs bs : List UInt8) (k : Nat) : ((ofBytes ((zs.drop k).take bs.length)).toList == (ofBytes bs).toList) = JM.occ zs bs k := by
  rw [ByteArray.toList_eq, ByteArray.toList_eq]
  rfl

set_option maxHeartbeats 800000 in
theorem hasBytes_any (A D : Option Addr) (n c m d : Nat) (zs bs : List UInt8) (w : World) (hr : Rd w w.heap.size A n zs) (hc : n ≤ c) (hb : Rd w w.heap.size D m bs) (hn : n ≤ 4294967295) (hm : m ≤ 4294967295) :
    Calls Try.prog 23 #[.slice A n c, .slice D m d] w fun e w' => e = .returned (.bool (JM.hasSub zs bs)) ∧ ∃ k, w' = w.drewN k := by
  go_enter Try.func23, Try.ntmps23
  go_wp2
  go_loopw [5] (fun i wr => ∃ k q : Nat, k ≤ n + 1 ∧ i = .int .i64 k ∧ NoneTo zs bs k ∧ wr = w.drewN q) (fun i _ => n + 1 - (intOf i).toNat)
  case atStart => exact ⟨0, 0, by omega, rfl, NoneTo.zero _ _, rfl⟩
  case round =>
    obtain ⟨k, q, hk, rfl, hno, rfl⟩ := hrel
    by_cases hlt : k + m ≤ n
    · have hs1 : ∀ N, (convert 22 9 (.slice (if c = k then A else A.map (·.add k)) m (c - k))).run Try.prog (w.drewN N) = .ok (.string (ofBytes ((zs.drop k).take bs.length))) (w.drewN N) := fun N => by
        rw [hb.len]
        exact (((hr.from_ (show k ≤ n by omega) hc).upto (show m ≤ n - k by omega)).drewN N).string 22 5 9 _ Try.underlying22 Try.underlying5 Try.underlying9
      have hs2 : ∀ N, (convert 22 9 (.slice D m d)).run Try.prog (w.drewN N) = .ok (.string (ofBytes bs)) (w.drewN N) := fun N =>
        (hb.drewN N).string 22 5 9 _ Try.underlying22 Try.underlying5 Try.underlying9
      have he := bytes_occ zs bs k
      have hlen := hide hb.len
      have hlz := hide hr.len
      clear hr hb
      cases ho : JM.occ zs bs k with
      | true =>
        rw [ho] at he
        have HO := hide ho
        clear ho
        go_wp2
        go_quiet (fail)
        go_wp2
        all_goals go_ret
        all_goals exact ⟨by rw [JM.hasSub_yes (by rw [hlen.out, hlz.out]; exact hlt) HO.out]; rfl, _, rfl⟩
      | false =>
        rw [ho] at he
        have HO := hide ho
        clear ho
        go_wp2
        go_quiet (fail)
        go_wp2
        go_roundw
        case rel => exact ⟨k + 1, _, by omega, by go_num, hno.succ HO.out, rfl⟩
        case measure => simp [intOf]; omega
    · go_wp2
      go_ret
      refine ⟨by rw [hno.end_ (by rw [hr.len, hb.len]; omega)]; rfl, q, rfl⟩

/-- the needle fits as far as its first k bytes -/
def SoFar (h n : List UInt8) (i k : Nat) : Prop := ∀ j x, j < k → n[j]? = some x → h[i + j]? = some x

theorem SoFar.succ {h n : List UInt8} {i k : Nat} {x : UInt8} (hs : SoFar h n i k) (hy : n[k]? = some x) (hx : h[i + k]? = some x) : SoFar h n i (k + 1) := fun j y hj hn => by
  by_cases e : j = k
  · subst e
    rw [hy] at hn
    obtain rfl := Option.some.inj hn
    exact hx
  · exact hs j y (by omega) hn
theorem SoFar.all {h n : List UInt8} {i : Nat} (hs : SoFar h n i n.length) (hi : i + n.length ≤ h.length) : JM.hasSub h n = true :=
  JM.hasSub_yes hi ((JM.occ_iff hi).2 fun j x hx => hs j x (List.getElem?_eq_some_iff.1 hx).1 hx)

set_option maxHeartbeats 800000 in
theorem sub_any (A D : Option Addr) (n c m d : Nat) (zs bs : List UInt8) (w : World) (hr : Rd w w.heap.size A n zs) (hb : Rd w w.heap.size D m bs) (hn : n ≤ 4294967295) (hm : m ≤ 4294967295) :
    Calls Try.prog 14 #[.slice A n c, .slice D m d] w fun e w' => e = .returned (.bool (JM.hasSub zs bs)) ∧ ∃ k, w' = w.drewN k := by
  by_cases hm0 : m = 0
  · subst hm0
    have hz : ((0 : Int) == 0) = true := rfl
    go_enter Try.func14, Try.ntmps14
    go_wp2
    go_ret
    refine ⟨?_, 0, rfl⟩
    have : bs = [] := List.eq_nil_of_length_eq_zero hb.1
    subst this
    rw [JM.hasSub_yes (i := 0) (by simp) (by simp [JM.occ])]
    rfl
  · have hz : ((m : Int) == 0) = false := by simp; omega
    go_enter Try.func14, Try.ntmps14
    go_wp2
    go_loopw [5] (fun i wr => ∃ k q : Nat, k ≤ n + 1 ∧ i = .int .i64 k ∧ NoneTo zs bs k ∧ wr = w.drewN q) (fun i _ => n + 1 - (intOf i).toNat)
    case atStart => exact ⟨0, 0, by omega, rfl, NoneTo.zero _ _, rfl⟩
    case round =>
      obtain ⟨k, q, hk, rfl, hno, rfl⟩ := hrel
      by_cases hlt : k + m ≤ n
      · go_wp2
        go_loopw [6, 7] (fun ok i wr => ∃ j q : Nat, j ≤ m ∧ ok = .bool true ∧ i = .int .i64 j ∧ SoFar zs bs k j ∧ wr = w.drewN q) (fun _ i _ => m - (intOf i).toNat)
        case atStart => exact ⟨0, q, by omega, rfl, rfl, fun _ _ hj => absurd hj (by omega), rfl⟩
        case round =>
          obtain ⟨j, q, hj, rfl, rfl, hso, rfl⟩ := hrel
          by_cases hjm : j < m
          · obtain ⟨b1, o1, x, rfl, hb1, hx, hcx⟩ := hr.at (show k + j < n by omega)
            obtain ⟨b2, o2, y, rfl, hb2, hy, hcy⟩ := hb.at hjm
            have hsum : IntKind.i64.wrap ((k : Int) + (j : Int)) = (k : Int) + (j : Int) := IntWalk.i64_in _ (by omega)
            have hs0 : 0 ≤ (k : Int) + (j : Int) := by omega
            have hs1 : (k : Int) + (j : Int) < (n : Int) := by omega
            have hs2 : ((k : Int) + (j : Int)).toNat = k + j := by omega
            have hs3 : (j : Int) < (m : Int) := by omega
            by_cases hxy : x = y
            · have hne : ((x.toNat : Int) != (y.toNat : Int)) = false := by rw [hxy]; simp
              have hxy := hide hxy
              have HX := hide hx
              have HY := hide hy
              clear hx hy
              go_wp2
              go_quiet (fail)
              go_wp2
              go_roundw
              case rel => exact ⟨j + 1, _, by omega, rfl, by go_num, hso.succ HY.out (by rw [← hxy.out]; exact HX.out), rfl⟩
              case measure => simp [intOf]; omega
            · have hne : ((x.toNat : Int) != (y.toNat : Int)) = true := by
                simp only [bne_iff_ne, ne_eq]
                exact fun h => hxy (UInt8.toNat.inj (by omega))
              have HX := hide hx
              have HY := hide hy
              clear hx hy
              go_wp2
              go_quiet (fail)
              go_wp2
              go_roundw
              case rel => exact ⟨k + 1, _, by omega, by go_num, hno.succ (JM.occ_no (by rw [hr.len, hb.len]; exact hlt) HX.out HY.out hxy), rfl⟩
              case measure => simp [intOf]; omega
          · obtain rfl : j = m := by omega
            have hlb := hb.len
            have hall := hso
            rw [← hlb] at hall
            have HF := hide (hall.all (by rw [hr.len, hlb]; exact hlt))
            clear hlb hall hso
            go_wp2
            go_ret
            exact ⟨by rw [HF.out]; rfl, _, rfl⟩
      · go_wp2
        go_ret
        refine ⟨by rw [hno.end_ (by rw [hr.len, hb.len]; omega)]; rfl, q, rfl⟩
end Go.Proofs.Yteimbkhclmghhaa
