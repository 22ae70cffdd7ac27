/-
  The walks of the laws' own helpers: the bound on length, zzCloneBytes, zzEqualBytes, zzHasAt, zzFirst, zzKeyAt. Conditions: sizes.
-/
import Derived.Test.YtpfnonkcjlfibaaLBrk
import Derived.Lib.SliceRun
namespace Go.Proofs.Ytpfnonkcjlfibaa
open Go.RowKit

set_option maxHeartbeats 400000 in
theorem bytes24_any (p : ByteArray) (a b : Int) (A : Option Addr) (n c : Nat) (w : World) (hp : p.size ≤ maxLen) (hc : n ≤ maxLen) :
    Calls Try.prog 24 #[.string p, .int .i64 a, .int .i64 b, .slice A n c] w fun e w' => e = .returned (.bool (decide (p.size + n ≤ 1048576))) ∧ w = w' := by
  unfold maxLen at hp hc
  go_enter Try.func24, Try.ntmps24
  by_cases h1 : p.size ≤ 1048576
  · by_cases h2 : n ≤ 1048576
    · by_cases h3 : p.size + n ≤ 1048576
      · have hd : decide (p.size + n ≤ 1048576) = true := by simpa using h3
        rw [hd]
        clear hd
        go_wp2
        go_ret
        exact ⟨rfl, rfl⟩
      · have hd : decide (p.size + n ≤ 1048576) = false := by simpa using h3
        rw [hd]
        clear hd
        go_wp2
        go_ret
        exact ⟨rfl, rfl⟩
    · have hd : decide (p.size + n ≤ 1048576) = false := by simp; omega
      rw [hd]
      clear hd
      go_wp2
      go_ret
      exact ⟨rfl, rfl⟩
  · have hd : decide (p.size + n ≤ 1048576) = false := by simp; omega
    rw [hd]
    clear hd
    go_wp2
    go_ret
    exact ⟨rfl, rfl⟩

set_option maxHeartbeats 400000 in
theorem bytes28_any (p : ByteArray) (a b : Int) (A : Option Addr) (n c : Nat) (w : World) (hp : p.size ≤ maxLen) (hc : n ≤ maxLen) :
    Calls Try.prog 28 #[.string p, .int .i64 a, .int .i64 b, .slice A n c] w fun e w' => e = .returned (.bool (decide (p.size + n ≤ 1048576))) ∧ w = w' := by
  unfold maxLen at hp hc
  go_enter Try.func28, Try.ntmps28
  by_cases h1 : p.size ≤ 1048576
  · by_cases h2 : n ≤ 1048576
    · by_cases h3 : p.size + n ≤ 1048576
      · have hd : decide (p.size + n ≤ 1048576) = true := by simpa using h3
        rw [hd]
        clear hd
        go_wp2
        go_ret
        exact ⟨rfl, rfl⟩
      · have hd : decide (p.size + n ≤ 1048576) = false := by simpa using h3
        rw [hd]
        clear hd
        go_wp2
        go_ret
        exact ⟨rfl, rfl⟩
    · have hd : decide (p.size + n ≤ 1048576) = false := by simp; omega
      rw [hd]
      clear hd
      go_wp2
      go_ret
      exact ⟨rfl, rfl⟩
  · have hd : decide (p.size + n ≤ 1048576) = false := by simp; omega
    rw [hd]
    clear hd
    go_wp2
    go_ret
    exact ⟨rfl, rfl⟩

def ClonedTo (w : World) (n : Nat) (zs : List UInt8) (e : Ending) (w' : World) : Prop :=
  ∃ A' c', e = .returned (.slice A' n c') ∧ n ≤ c' ∧ RdT w' A' n zs ∧ Below w.heap.size w w'

set_option maxRecDepth 100000 in
set_option maxHeartbeats 800000 in
theorem clone_any (A : Option Addr) (n c : Nat) (zs : List UInt8) (w : World) (hr : Rd w w.heap.size A n zs) (hc : n ≤ c) (hn : n ≤ 16777216) :
    Calls Try.prog 25 #[.slice A n c] w (ClonedTo w n zs) := by
  go_enter Try.func25, Try.ntmps25
  cases A with
  | none =>
    obtain rfl : n = 0 := by
      rcases Nat.eq_zero_or_pos n with h | h
      · exact h
      · obtain ⟨b, off, e, _⟩ := hr.2 h
        cases e
    have heq := Lib.run_eql_slice_nil (P := Try.prog) w 42 5 none 0 c 0 0 Try.underlying42
    go_wp2
    go_ret
    exact ⟨none, 0, rfl, Nat.le_refl _, ⟨hr.1, fun h => absurd h (by omega)⟩, Below.refl _ _⟩
  | some ad =>
    have heq := Lib.run_eql_slice_nil (P := Try.prog) w 42 5 (some ad) n c 0 0 Try.underlying42
    have hlen := hide hr.len
    go_wp2_with (at_make; refine wpList_mk (c := n) E42 rfl _ rfl w.heap.size n rfl rfl (by omega) (by decide) (Nat.le_refl _) ?_; intro w1 hown hg hsz)
    rw [made_bytes, ← fill_zero zs n] at hown
    have hb1 : Below w.heap.size w w1 := (Below.refl _ _).grown hg (Nat.le_refl _) (by intro k hk; cases hk)
    clear hg hsz
    go_loopw [4] (fun i wr => ∃ k : Nat, k ≤ n ∧ i = .int .i64 k ∧ wr.ownsRow w.heap.size 5 1 (.slice (some ⟨w.heap.size, 0, none⟩) n n) n ((fill zs n k).map bv) ∧ Below w.heap.size w wr) (fun i _ => n - (intOf i).toNat)
    case atStart => exact ⟨0, by omega, rfl, hown, hb1⟩
    case round =>
      clear hown hb1
      obtain ⟨k, hk, rfl, hown, hb⟩ := hrel
      by_cases hkl : k < n
      · obtain ⟨b, off, x, he, hbl, hx, hcx⟩ := (hr.below hb).at hkl
        cases he
        have hf := hown.frozenAt k
        have hu := fill_cell hown hlen.out hkl
        have R := hide (fill_store hown hlen.out hx)
        clear hx hown
        go_wp2
        go_roundw
        case rel => exact ⟨k + 1, by omega, by go_num, R.out, hb.setCell (Nat.le_refl _) _⟩
        case measure => simp [intOf]; omega
      · obtain rfl : k = n := by omega
        rw [fill_all _ _ hlen.out] at hown
        have hrt := own_rdT hown
        go_wp2
        go_ret
        exact ⟨_, _, rfl, Nat.le_refl _, hrt, hb⟩

theorem same_next {zs bs : List UInt8} {k : Nat} {x : UInt8} (h : zs.take k = bs.take k) (hx : zs[k]? = some x) (hy : bs[k]? = some x) : zs.take (k + 1) = bs.take (k + 1) := by
  rw [List.take_add_one, List.take_add_one, h, hx, hy]

set_option maxHeartbeats 800000 in
theorem equal_any (A D : Option Addr) (n c m d : Nat) (zs bs : List UInt8) (w : World) (hr : Rd w w.heap.size A n zs) (hb : Rd w w.heap.size D m bs) (hn : n ≤ 4294967295) (hm : m ≤ 4294967295) :
    Calls Try.prog 16 #[.slice A n c, .slice D m d] w fun e w' => e = .returned (.bool (decide (zs = bs))) ∧ ∃ k, w' = w.drewN k := by
  go_enter Try.func16, Try.ntmps16
  by_cases hnm : n = m
  · subst hnm
    go_wp2
    go_loopw [5] (fun i wr => ∃ k q : Nat, k ≤ n ∧ i = .int .i64 k ∧ Hid (zs.take k = bs.take k) ∧ wr = w.drewN q) (fun i _ => n - (intOf i).toNat)
    case atStart => exact ⟨0, 0, by omega, rfl, hide rfl, rfl⟩
    case round =>
      obtain ⟨k, q, hk, rfl, hsame, rfl⟩ := hrel
      by_cases hkn : k < n
      · obtain ⟨b1, o1, x, rfl, hb1, hx, hcx⟩ := hr.at hkn
        obtain ⟨b2, o2, y, rfl, hb2, hy, hcy⟩ := hb.at hkn
        have HX := hide hx
        have HY := hide hy
        clear hx hy
        by_cases hxy : x = y
        · have hne : ((x.toNat : Int) != (y.toNat : Int)) = false := by rw [hxy]; simp
          subst hxy
          go_wp2
          go_quiet (fail)
          go_wp2
          go_roundw
          case rel => exact ⟨k + 1, _, by omega, by go_num, hide (same_next hsame.out HX.out HY.out), rfl⟩
          case measure => simp [intOf]; omega
        · have hne : ((x.toNat : Int) != (y.toNat : Int)) = true := by
            simp only [bne_iff_ne, ne_eq]
            exact fun h => hxy (UInt8.toNat.inj (by omega))
          have hd : decide (zs = bs) = false := by
            rw [decide_eq_false_iff_not]
            intro e
            have h1 := HX.out
            rw [e, HY.out] at h1
            exact hxy (Option.some.inj h1).symm
          have hd' := hide hd
          have hxy' := hide hxy
          clear hd hxy
          go_wp2
          go_quiet (fail)
          go_wp2
          go_ret
          exact ⟨by rw [hd'.out]; rfl, _, World.drewN_drewN _ _ _⟩
      · obtain rfl : k = n := by omega
        have hd : decide (zs = bs) = true := by
          have h := hsame.out
          rw [List.take_of_length_le (by rw [hr.len]; omega), List.take_of_length_le (by rw [hb.len]; omega)] at h
          simpa using h
        have hd' := hide hd
        clear hd
        go_wp2
        go_ret
        exact ⟨by rw [hd'.out]; rfl, _, rfl⟩
  · have hd : decide (zs = bs) = false := by
      rw [decide_eq_false_iff_not]
      intro e
      exact hnm (by rw [← hr.len, ← hb.len, e])
    have hne : ((n : Int) != (m : Int)) = true := by
      simp only [bne_iff_ne, ne_eq]
      omega
    have hd' := hide hd
    clear hd
    go_wp2
    go_ret
    exact ⟨by rw [hd'.out]; rfl, 0, rfl⟩
end Go.Proofs.Ytpfnonkcjlfibaa
