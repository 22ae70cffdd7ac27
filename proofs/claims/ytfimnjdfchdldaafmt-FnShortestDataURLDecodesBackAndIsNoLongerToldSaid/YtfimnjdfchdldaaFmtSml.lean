/-
  The walks of the small byte tests. Conditions: none.
-/
import Derived.Test.YtfimnjdfchdldaaFmtEsc
import Derived.Test.YtfimnjdfchdldaaFmtHelp
namespace Go.Proofs.YtfimnjdfchdldaaFmt
open Go.RowKit

theorem ret_bool {a b : Bool} (h : a = b) : Ending.returned (.bool a) = .returned (.bool b) := by rw [h]
theorem hex_yes {n : Nat} {c : UInt8} (e : n = c.toNat) (h : PM.isHex c = true) : (48 ≤ n ∧ n ≤ 57) ∨ (97 ≤ n ∧ n ≤ 102) ∨ (65 ≤ n ∧ n ≤ 70) := by
  have := PM.isHex_iff.1 h
  omega
theorem hex_no {n : Nat} {c : UInt8} (e : n = c.toNat) (h : PM.isHex c = false) : n < 48 ∨ (58 ≤ n ∧ n < 65) ∨ (71 ≤ n ∧ n < 97) ∨ 102 < n := by
  have h2 : ¬ PM.isHex c = true := by rw [h]; simp
  rw [PM.isHex_iff] at h2
  omega

set_option maxHeartbeats 800000 in
theorem hex44_any (c : UInt8) (w : World) : Calls Tryf.prog 44 #[.int .u8 c.toNat] w fun e w' => e = .returned (.bool (PM.isHex c)) ∧ w = w' := by
  have hc := c.toNat_lt
  obtain ⟨n, hn⟩ : ∃ n, n = c.toNat := ⟨_, rfl⟩
  rw [← hn] at hc ⊢
  cases hb : PM.isHex c
  · have h := hex_no hn hb
    clear hn hb
    rcases h with h | ⟨h, h'⟩ | ⟨h, h'⟩ | h
    all_goals
      go_enter Tryf.func44, Tryf.ntmps44
      go_wp2
      go_ret
      exact ⟨ret_bool (by simp; try omega), rfl⟩
  · have h := hex_yes hn hb
    clear hn hb
    rcases h with ⟨h, h'⟩ | ⟨h, h'⟩ | ⟨h, h'⟩
    all_goals
      go_enter Tryf.func44, Tryf.ntmps44
      go_wp2
      go_ret
      exact ⟨ret_bool (by simp; try omega), rfl⟩

set_option maxHeartbeats 800000 in
theorem hex35_any (c : UInt8) (w : World) : Calls Tryf.prog 35 #[.int .u8 c.toNat] w fun e w' => e = .returned (.bool (PM.isHex c)) ∧ w = w' := by
  have hc := c.toNat_lt
  obtain ⟨n, hn⟩ : ∃ n, n = c.toNat := ⟨_, rfl⟩
  rw [← hn] at hc ⊢
  cases hb : PM.isHex c
  · have h := hex_no hn hb
    clear hn hb
    rcases h with h | ⟨h, h'⟩ | ⟨h, h'⟩ | h
    all_goals
      go_enter Tryf.func35, Tryf.ntmps35
      go_wp2
      go_ret
      exact ⟨ret_bool (by simp; try omega), rfl⟩
  · have h := hex_yes hn hb
    clear hn hb
    rcases h with ⟨h, h'⟩ | ⟨h, h'⟩ | ⟨h, h'⟩
    all_goals
      go_enter Tryf.func35, Tryf.ntmps35
      go_wp2
      go_ret
      exact ⟨ret_bool (by simp; try omega), rfl⟩

set_option maxHeartbeats 800000 in
theorem blank34_any (c : UInt8) (w : World) : Calls Tryf.prog 34 #[.int .u8 c.toNat] w fun e w' => e = .returned (.bool (PE.blank c)) ∧ w = w' := by
  have hc := c.toNat_lt
  obtain ⟨n, hn⟩ : ∃ n, n = c.toNat := ⟨_, rfl⟩
  unfold PE.blank
  rw [← hn] at hc ⊢
  by_cases hb : n ≤ 32 ∧ n ≠ 9 ∧ n ≠ 10 ∧ n ≠ 13
  · rw [decide_eq_true hb]
    obtain ⟨h1, h2, h3, h4⟩ := hb
    have b2 : ((n : Int) == 9) = false := by simp; omega
    have b3 : ((n : Int) == 10) = false := by simp; omega
    have b4 : ((n : Int) == 13) = false := by simp; omega
    have b2' : ((n : Int) != 9) = true := by simp; omega
    have b3' : ((n : Int) != 10) = true := by simp; omega
    have b4' : ((n : Int) != 13) = true := by simp; omega
    clear h2 h3 h4 hn
    go_enter Tryf.func34, Tryf.ntmps34
    go_wp2
    go_ret
    exact ⟨ret_bool (by simp; try omega), rfl⟩
  · rw [decide_eq_false hb]
    clear hn
    have h : 32 < n ∨ n = 9 ∨ n = 10 ∨ n = 13 := by omega
    clear hb
    rcases h with h | rfl | rfl | rfl
    all_goals
      go_enter Tryf.func34, Tryf.ntmps34
      go_wp2
      go_ret
      exact ⟨ret_bool (by simp; try omega), rfl⟩

theorem digit36_any (v : Nat) (hv : v < 16) (w : World) : Calls Tryf.prog 36 #[.int .u8 v] w fun e w' => e = .returned (.int .u8 ((PE.hd v).toNat : Int)) ∧ w = w' := by
  rw [PE.hd_toNat hv]
  by_cases h : v < 10
  · rw [if_pos h]
    go_enter Tryf.func36, Tryf.ntmps36
    go_wp2
    go_ret
    exact ⟨by go_num, rfl⟩
  · rw [if_neg h]
    go_enter Tryf.func36, Tryf.ntmps36
    go_wp2
    go_ret
    exact ⟨by go_num, rfl⟩

set_option maxHeartbeats 800000 in
theorem hexv40_any (c : UInt8) (hx : PM.isHex c = true) (w : World) : Calls Tryf.prog 40 #[.int .u8 c.toNat] w fun e w' => e = .returned (.int .u8 (PM.hexV c : Int)) ∧ w = w' := by
  have hc := c.toNat_lt
  obtain ⟨n, hn⟩ : ∃ n, n = c.toNat := ⟨_, rfl⟩
  have h := hex_yes hn hx
  unfold PM.hexV
  rw [← hn] at hc ⊢
  clear hn hx
  rcases h with ⟨h, h'⟩ | ⟨h, h'⟩ | ⟨h, h'⟩
  · rw [if_pos ⟨h, h'⟩]
    go_enter Tryf.func40, Tryf.ntmps40
    go_wp2
    go_ret
    exact ⟨by go_num, rfl⟩
  · rw [if_neg (by omega), if_pos ⟨h, h'⟩]
    go_enter Tryf.func40, Tryf.ntmps40
    go_wp2
    go_ret
    exact ⟨by go_num, rfl⟩
  · rw [if_neg (by omega), if_neg (by omega)]
    go_enter Tryf.func40, Tryf.ntmps40
    go_wp2
    go_ret
    exact ⟨by go_num, rfl⟩
end Go.Proofs.YtfimnjdfchdldaaFmt
