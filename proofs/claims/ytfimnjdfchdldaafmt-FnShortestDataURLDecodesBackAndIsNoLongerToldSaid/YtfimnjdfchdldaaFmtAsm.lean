/-
  The walks of assemble64, assemble32. Conditions: the digits are below 64.
-/
import Derived.Test.YtfimnjdfchdldaaFmtEnc
import Derived.Laws.BitsAllLaws
namespace Go.Proofs.YtfimnjdfchdldaaFmt
open Go.RowKit

theorem or_small (a b : Nat) (ha : a < 64) (hb : b < 64) : ∃ c : Nat, c < 64 ∧ Go.bits .or .u8 (a : Int) (b : Int) = (c : Int) := by
  refine ⟨a ||| b, Nat.or_lt_two_pow (n := 6) ha hb, ?_⟩
  exact Go.u8_or_nat a b (by omega) (by omega)

theorem or_step64 (q d p k : Nat) (hp : p = 2 ^ k) (hd : d < 64) (hq : (q * 64 + 63) * p < 18446744073709551616) : Go.bits .or .u64 ((q * (64 * p) : Nat) : Int) ((d * p : Nat) : Int) = (((q * 64 + d) * p : Nat) : Int) := by
  have h1 : d * p ≤ 63 * p := Nat.mul_le_mul_right p (by omega)
  have h2 : (q * 64 + 63) * p = q * (64 * p) + 63 * p := by rw [Nat.add_mul, Nat.mul_assoc]
  have h3 : d * p < 64 * p := by
    subst hp
    exact Nat.mul_lt_mul_of_pos_right hd (Nat.two_pow_pos k)
  have hk : 64 * p = 2 ^ (k + 6) := by rw [hp, Nat.pow_add]; omega
  have h := or_add q (d * p) (64 * p) (k + 6) hk h3 (by omega) (by omega)
  rw [h]
  congr 1
  rw [Nat.add_mul, Nat.mul_assoc]
set_option maxHeartbeats 1600000 in
set_option maxRecDepth 100000 in
theorem assemble64_any (d0 d1 d2 d3 d4 d5 d6 d7 : Nat) (h0 : d0 < 64) (h1 : d1 < 64) (h2 : d2 < 64) (h3 : d3 < 64) (h4 : d4 < 64) (h5 : d5 < 64) (h6 : d6 < 64) (h7 : d7 < 64) (w : World) :
    Calls Tryf.prog 61 #[.int .u8 d0, .int .u8 d1, .int .u8 d2, .int .u8 d3, .int .u8 d4, .int .u8 d5, .int .u8 d6, .int .u8 d7] w fun e w' => e = .returned (.tuple #[.int .u64 (((((((((d0 * 64 + d1) * 64 + d2) * 64 + d3) * 64 + d4) * 64 + d5) * 64 + d6) * 64 + d7) * 65536 : Nat) : Int), .bool true]) ∧ w = w' := by
  obtain ⟨c1, hc1, e1⟩ := or_small d0 d1 h0 h1
  obtain ⟨c2, hc2, e2⟩ := or_small c1 d2 hc1 h2
  obtain ⟨c3, hc3, e3⟩ := or_small c2 d3 hc2 h3
  obtain ⟨c4, hc4, e4⟩ := or_small c3 d4 hc3 h4
  obtain ⟨c5, hc5, e5⟩ := or_small c4 d5 hc4 h5
  obtain ⟨c6, hc6, e6⟩ := or_small c5 d6 hc5 h6
  obtain ⟨c7, hc7, e7⟩ := or_small c6 d7 hc6 h7
  have b255 : ((c7 : Int) == 255) = false := by simp; omega
  have w0 : IntKind.u64.wrap ((d0 : Int) * 288230376151711744) = (d0 : Int) * 288230376151711744 := IntWalk.u64_in _ (by omega)
  have w1 : IntKind.u64.wrap ((d1 : Int) * 4503599627370496) = (d1 : Int) * 4503599627370496 := IntWalk.u64_in _ (by omega)
  have w2 : IntKind.u64.wrap ((d2 : Int) * 70368744177664) = (d2 : Int) * 70368744177664 := IntWalk.u64_in _ (by omega)
  have w3 : IntKind.u64.wrap ((d3 : Int) * 1099511627776) = (d3 : Int) * 1099511627776 := IntWalk.u64_in _ (by omega)
  have w4 : IntKind.u64.wrap ((d4 : Int) * 17179869184) = (d4 : Int) * 17179869184 := IntWalk.u64_in _ (by omega)
  have w5 : IntKind.u64.wrap ((d5 : Int) * 268435456) = (d5 : Int) * 268435456 := IntWalk.u64_in _ (by omega)
  have w6 : IntKind.u64.wrap ((d6 : Int) * 4194304) = (d6 : Int) * 4194304 := IntWalk.u64_in _ (by omega)
  have w7 : IntKind.u64.wrap ((d7 : Int) * 65536) = (d7 : Int) * 65536 := IntWalk.u64_in _ (by omega)
  obtain ⟨S0, hS0⟩ : ∃ S, S = d0 * 288230376151711744 := ⟨_, rfl⟩
  have s0 : (d0 : Int) * 288230376151711744 = (S0 : Int) := by rw [hS0]; omega
  obtain ⟨S1, hS1⟩ : ∃ S, S = (d0 * 64 + d1) * 4503599627370496 := ⟨_, rfl⟩
  have s1 : Go.bits .or .u64 (S0 : Int) ((d1 : Int) * 4503599627370496) = (S1 : Int) := by
    have h := or_step64 d0 d1 4503599627370496 52 rfl h1 (by omega)
    rw [show d0 * (64 * 4503599627370496) = S0 by rw [hS0], ← hS1] at h
    rw [← h]
    congr 1
  obtain ⟨S2, hS2⟩ : ∃ S, S = ((d0 * 64 + d1) * 64 + d2) * 70368744177664 := ⟨_, rfl⟩
  have s2 : Go.bits .or .u64 (S1 : Int) ((d2 : Int) * 70368744177664) = (S2 : Int) := by
    have h := or_step64 (d0 * 64 + d1) d2 70368744177664 46 rfl h2 (by omega)
    rw [show (d0 * 64 + d1) * (64 * 70368744177664) = S1 by rw [hS1], ← hS2] at h
    rw [← h]
    congr 1
  obtain ⟨S3, hS3⟩ : ∃ S, S = (((d0 * 64 + d1) * 64 + d2) * 64 + d3) * 1099511627776 := ⟨_, rfl⟩
  have s3 : Go.bits .or .u64 (S2 : Int) ((d3 : Int) * 1099511627776) = (S3 : Int) := by
    have h := or_step64 ((d0 * 64 + d1) * 64 + d2) d3 1099511627776 40 rfl h3 (by omega)
    rw [show ((d0 * 64 + d1) * 64 + d2) * (64 * 1099511627776) = S2 by rw [hS2], ← hS3] at h
    rw [← h]
    congr 1
  obtain ⟨S4, hS4⟩ : ∃ S, S = ((((d0 * 64 + d1) * 64 + d2) * 64 + d3) * 64 + d4) * 17179869184 := ⟨_, rfl⟩
  have s4 : Go.bits .or .u64 (S3 : Int) ((d4 : Int) * 17179869184) = (S4 : Int) := by
    have h := or_step64 (((d0 * 64 + d1) * 64 + d2) * 64 + d3) d4 17179869184 34 rfl h4 (by omega)
    rw [show (((d0 * 64 + d1) * 64 + d2) * 64 + d3) * (64 * 17179869184) = S3 by rw [hS3], ← hS4] at h
    rw [← h]
    congr 1
  obtain ⟨S5, hS5⟩ : ∃ S, S = (((((d0 * 64 + d1) * 64 + d2) * 64 + d3) * 64 + d4) * 64 + d5) * 268435456 := ⟨_, rfl⟩
  have s5 : Go.bits .or .u64 (S4 : Int) ((d5 : Int) * 268435456) = (S5 : Int) := by
    have h := or_step64 ((((d0 * 64 + d1) * 64 + d2) * 64 + d3) * 64 + d4) d5 268435456 28 rfl h5 (by omega)
    rw [show ((((d0 * 64 + d1) * 64 + d2) * 64 + d3) * 64 + d4) * (64 * 268435456) = S4 by rw [hS4], ← hS5] at h
    rw [← h]
    congr 1
  obtain ⟨S6, hS6⟩ : ∃ S, S = ((((((d0 * 64 + d1) * 64 + d2) * 64 + d3) * 64 + d4) * 64 + d5) * 64 + d6) * 4194304 := ⟨_, rfl⟩
  have s6 : Go.bits .or .u64 (S5 : Int) ((d6 : Int) * 4194304) = (S6 : Int) := by
    have h := or_step64 (((((d0 * 64 + d1) * 64 + d2) * 64 + d3) * 64 + d4) * 64 + d5) d6 4194304 22 rfl h6 (by omega)
    rw [show (((((d0 * 64 + d1) * 64 + d2) * 64 + d3) * 64 + d4) * 64 + d5) * (64 * 4194304) = S5 by rw [hS5], ← hS6] at h
    rw [← h]
    congr 1
  obtain ⟨S7, hS7⟩ : ∃ S, S = (((((((d0 * 64 + d1) * 64 + d2) * 64 + d3) * 64 + d4) * 64 + d5) * 64 + d6) * 64 + d7) * 65536 := ⟨_, rfl⟩
  have s7 : Go.bits .or .u64 (S6 : Int) ((d7 : Int) * 65536) = (S7 : Int) := by
    have h := or_step64 ((((((d0 * 64 + d1) * 64 + d2) * 64 + d3) * 64 + d4) * 64 + d5) * 64 + d6) d7 65536 16 rfl h7 (by omega)
    rw [show ((((((d0 * 64 + d1) * 64 + d2) * 64 + d3) * 64 + d4) * 64 + d5) * 64 + d6) * (64 * 65536) = S6 by rw [hS6], ← hS7] at h
    rw [← h]
    congr 1
  rw [← hS7]
  clear hS0 hS1 hS2 hS3 hS4 hS5 hS6 hS7
  go_enter Tryf.func61, Tryf.ntmps61
  go_wp2
  go_ret2
  exact ⟨rfl, rfl⟩

theorem or_add32 (a b p k : Nat) (hp : p = 2 ^ k) (hb : b < p) (ha : a * p < 4294967296) (hb2 : b < 4294967296) : Go.bits .or .u32 ((a * p : Nat) : Int) (b : Int) = ((a * p + b : Nat) : Int) := by
  rw [Go.u32_or_nat _ _ (by omega) (by omega)]
  subst hp
  have := Nat.shiftLeft_add_eq_or_of_lt hb a
  rw [Nat.shiftLeft_eq] at this
  rw [← this]
theorem or_step32 (q d p k : Nat) (hp : p = 2 ^ k) (hd : d < 64) (hq : (q * 64 + 63) * p < 4294967296) : Go.bits .or .u32 ((q * (64 * p) : Nat) : Int) ((d * p : Nat) : Int) = (((q * 64 + d) * p : Nat) : Int) := by
  have h1 : d * p ≤ 63 * p := Nat.mul_le_mul_right p (by omega)
  have h2 : (q * 64 + 63) * p = q * (64 * p) + 63 * p := by rw [Nat.add_mul, Nat.mul_assoc]
  have h3 : d * p < 64 * p := by
    subst hp
    exact Nat.mul_lt_mul_of_pos_right hd (Nat.two_pow_pos k)
  have hk : 64 * p = 2 ^ (k + 6) := by rw [hp, Nat.pow_add]; omega
  have h := or_add32 q (d * p) (64 * p) (k + 6) hk h3 (by omega) (by omega)
  rw [h]
  congr 1
  rw [Nat.add_mul, Nat.mul_assoc]

set_option maxHeartbeats 1600000 in
set_option maxRecDepth 100000 in
theorem assemble32_any (d0 d1 d2 d3 : Nat) (h0 : d0 < 64) (h1 : d1 < 64) (h2 : d2 < 64) (h3 : d3 < 64) (w : World) :
    Calls Tryf.prog 64 #[.int .u8 d0, .int .u8 d1, .int .u8 d2, .int .u8 d3] w fun e w' => e = .returned (.tuple #[.int .u32 (((((d0 * 64 + d1) * 64 + d2) * 64 + d3) * 256 : Nat) : Int), .bool true]) ∧ w = w' := by
  obtain ⟨c1, hc1, e1⟩ := or_small d0 d1 h0 h1
  obtain ⟨c2, hc2, e2⟩ := or_small c1 d2 hc1 h2
  obtain ⟨c3, hc3, e3⟩ := or_small c2 d3 hc2 h3
  have b255 : ((c3 : Int) == 255) = false := by simp; omega
  have w0 : IntKind.u32.wrap ((d0 : Int) * 67108864) = (d0 : Int) * 67108864 := IntWalk.u32_in _ (by omega)
  have w1 : IntKind.u32.wrap ((d1 : Int) * 1048576) = (d1 : Int) * 1048576 := IntWalk.u32_in _ (by omega)
  have w2 : IntKind.u32.wrap ((d2 : Int) * 16384) = (d2 : Int) * 16384 := IntWalk.u32_in _ (by omega)
  have w3 : IntKind.u32.wrap ((d3 : Int) * 256) = (d3 : Int) * 256 := IntWalk.u32_in _ (by omega)
  obtain ⟨S0, hS0⟩ : ∃ S, S = d0 * 67108864 := ⟨_, rfl⟩
  have s0 : (d0 : Int) * 67108864 = (S0 : Int) := by rw [hS0]; omega
  obtain ⟨S1, hS1⟩ : ∃ S, S = (d0 * 64 + d1) * 1048576 := ⟨_, rfl⟩
  have s1 : Go.bits .or .u32 (S0 : Int) ((d1 : Int) * 1048576) = (S1 : Int) := by
    have h := or_step32 d0 d1 1048576 20 rfl h1 (by omega)
    rw [show d0 * (64 * 1048576) = S0 by rw [hS0], ← hS1] at h
    rw [← h]
    congr 1
  obtain ⟨S2, hS2⟩ : ∃ S, S = ((d0 * 64 + d1) * 64 + d2) * 16384 := ⟨_, rfl⟩
  have s2 : Go.bits .or .u32 (S1 : Int) ((d2 : Int) * 16384) = (S2 : Int) := by
    have h := or_step32 (d0 * 64 + d1) d2 16384 14 rfl h2 (by omega)
    rw [show (d0 * 64 + d1) * (64 * 16384) = S1 by rw [hS1], ← hS2] at h
    rw [← h]
    congr 1
  obtain ⟨S3, hS3⟩ : ∃ S, S = (((d0 * 64 + d1) * 64 + d2) * 64 + d3) * 256 := ⟨_, rfl⟩
  have s3 : Go.bits .or .u32 (S2 : Int) ((d3 : Int) * 256) = (S3 : Int) := by
    have h := or_step32 ((d0 * 64 + d1) * 64 + d2) d3 256 8 rfl h3 (by omega)
    rw [show ((d0 * 64 + d1) * 64 + d2) * (64 * 256) = S2 by rw [hS2], ← hS3] at h
    rw [← h]
    congr 1
  rw [← hS3]
  clear hS0 hS1 hS2 hS3
  go_enter Tryf.func64, Tryf.ntmps64
  go_wp2
  go_ret2
  exact ⟨rfl, rfl⟩
end Go.Proofs.YtfimnjdfchdldaaFmt
