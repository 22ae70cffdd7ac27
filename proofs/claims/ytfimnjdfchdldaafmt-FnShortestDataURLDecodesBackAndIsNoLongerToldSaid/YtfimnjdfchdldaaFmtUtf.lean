/-
  Plain mathematics of UTF-8: the width of the first character, or 0. Conditions: none.
-/
import GoSem.Claim
namespace Go.Proofs.YtfimnjdfchdldaaFmt.U8

def at_ (l : List UInt8) (k : Nat) : Nat := (l.getD k 0).toNat
def cont (l : List UInt8) (k : Nat) : Bool := decide (k < l.length) && decide (128 ≤ at_ l k ∧ at_ l k < 192)
def c2 (l : List UInt8) : Nat := at_ l 0 % 32 * 64 + at_ l 1 % 64
def c3 (l : List UInt8) : Nat := at_ l 0 % 16 * 4096 + at_ l 1 % 64 * 64 + at_ l 2 % 64
def c4 (l : List UInt8) : Nat := at_ l 0 % 8 * 262144 + at_ l 1 % 64 * 4096 + at_ l 2 % 64 * 64 + at_ l 3 % 64

/-- the width of the first character; 0: not valid -/
def vlen (l : List UInt8) : Nat :=
  if at_ l 0 < 128 then 1
  else if 194 ≤ at_ l 0 ∧ at_ l 0 ≤ 223 ∧ cont l 1 = true then 2
  else if 224 ≤ at_ l 0 ∧ at_ l 0 ≤ 239 ∧ cont l 1 = true ∧ cont l 2 = true ∧ 2048 ≤ c3 l ∧ ¬ (55296 ≤ c3 l ∧ c3 l ≤ 57343) then 3
  else if 240 ≤ at_ l 0 ∧ at_ l 0 ≤ 244 ∧ cont l 1 = true ∧ cont l 2 = true ∧ cont l 3 = true ∧ 65536 ≤ c4 l ∧ c4 l ≤ 1114111 then 4
  else 0

theorem at_lt (l : List UInt8) (k : Nat) : at_ l k < 256 := UInt8.toNat_lt _
theorem get_at (s : ByteArray) (k : Nat) : (s.get! (0 + k)).toNat = at_ s.data.toList k := by
  unfold at_
  rw [Nat.zero_add]
  congr 1
  simp [ByteArray.get!, List.getD, Array.getElem!_eq_getD, Array.getD_eq_getD_getElem?]
  rfl
theorem cont_at (s : ByteArray) (k : Nat) : (decide (0 + k < s.size) && (at_ s.data.toList k / 64 == 2)) = cont s.data.toList k := by
  unfold cont
  have hl : s.data.toList.length = s.size := Array.length_toList
  have hx := at_lt s.data.toList k
  rw [hl, Nat.zero_add]
  congr 1
  rw [Bool.eq_iff_iff]
  simp
  omega

theorem cont_iff {l : List UInt8} {k : Nat} : cont l k = true ↔ k < l.length ∧ 128 ≤ at_ l k ∧ at_ l k < 192 := by
  unfold cont
  simp

theorem valid_iff (c : Nat) : Utf8.valid (c : Int) = true ↔ c < 55296 ∨ (57344 ≤ c ∧ c ≤ 1114111) := by
  unfold Utf8.valid
  simp
  omega

/-- what the model's decoder answers -/
theorem decode_vlen (s : ByteArray) :
    (vlen s.data.toList = 0 → Utf8.decode s 0 = (65533, 1)) ∧ (vlen s.data.toList = 1 → at_ s.data.toList 0 < 128 ∧ Utf8.decode s 0 = (at_ s.data.toList 0, 1)) ∧
    (2 ≤ vlen s.data.toList → ∃ c, 128 ≤ c ∧ c ≤ 1114111 ∧ 128 ≤ at_ s.data.toList 0 ∧ Utf8.decode s 0 = (c, vlen s.data.toList)) := by
  unfold Utf8.decode
  simp only [get_at]
  simp only [cont_at]
  generalize s.data.toList = l
  have hx := at_lt l 0
  have hy := at_lt l 1
  by_cases h1 : at_ l 0 < 128
  · have hv : vlen l = 1 := by unfold vlen; rw [if_pos h1]
    rw [hv, if_pos h1]
    exact ⟨fun h => by omega, fun _ => ⟨h1, rfl⟩, fun h => by omega⟩
  rw [if_neg h1]
  by_cases g1 : (at_ l 0 / 32 == 6 && cont l 1) = true
  · rw [if_pos g1]
    obtain ⟨g1, g2⟩ := Bool.and_eq_true_iff.1 g1
    have g1 := eq_of_beq g1
    by_cases g3 : at_ l 0 % 32 * 64 + at_ l 1 % 64 ≥ 128
    · have hv : vlen l = 2 := by unfold vlen; rw [if_neg h1, if_pos ⟨by omega, by omega, g2⟩]
      rw [hv, if_pos g3]
      exact ⟨fun h => by omega, fun h => by omega, fun _ => ⟨_, g3, by omega, by omega, rfl⟩⟩
    · have hv : vlen l = 0 := by
        unfold vlen
        rw [if_neg h1, if_neg (fun h => by omega), if_neg (fun h => by omega), if_neg (fun h => by omega)]
      rw [hv, if_neg g3]
      exact ⟨fun _ => rfl, fun h => by omega, fun h => by omega⟩
  rw [if_neg g1]
  by_cases g4 : (at_ l 0 / 16 == 14 && cont l 1 && cont l 2) = true
  · rw [if_pos g4]
    obtain ⟨g4, g6⟩ := Bool.and_eq_true_iff.1 g4
    obtain ⟨g4, g5⟩ := Bool.and_eq_true_iff.1 g4
    have g4 := eq_of_beq g4
    have hz := at_lt l 2
    by_cases g7 : (decide (at_ l 0 % 16 * 4096 + at_ l 1 % 64 * 64 + at_ l 2 % 64 ≥ 2048) && Utf8.valid ((at_ l 0 % 16 * 4096 + at_ l 1 % 64 * 64 + at_ l 2 % 64 : Nat) : Int)) = true
    · obtain ⟨g7, g8⟩ := Bool.and_eq_true_iff.1 g7
      have g7 := of_decide_eq_true g7
      have g8' := (valid_iff _).1 g8
      have hv : vlen l = 3 := by
        unfold vlen
        rw [if_neg h1, if_neg (fun h => by omega), if_pos ⟨by omega, by omega, g5, g6, g7, by unfold c3; omega⟩]
      rw [hv, if_pos (by rw [g8]; simpa using g7)]
      exact ⟨fun h => by omega, fun h => by omega, fun _ => ⟨_, by omega, by omega, by omega, rfl⟩⟩
    · have hv : vlen l = 0 := by
        unfold vlen
        rw [if_neg h1, if_neg (fun h => by omega), if_neg (fun h => ?_), if_neg (fun h => by omega)]
        obtain ⟨_, _, _, _, k1, k2⟩ := h
        unfold c3 at k1 k2
        exact g7 (Bool.and_eq_true_iff.2 ⟨decide_eq_true k1, (valid_iff _).2 (by omega)⟩)
      rw [hv, if_neg g7]
      exact ⟨fun _ => rfl, fun h => by omega, fun h => by omega⟩
  rw [if_neg g4]
  by_cases g9 : (at_ l 0 / 8 == 30 && cont l 1 && cont l 2 && cont l 3) = true
  · rw [if_pos g9]
    obtain ⟨g9, g12⟩ := Bool.and_eq_true_iff.1 g9
    obtain ⟨g9, g11⟩ := Bool.and_eq_true_iff.1 g9
    obtain ⟨g9, g10⟩ := Bool.and_eq_true_iff.1 g9
    have g9 := eq_of_beq g9
    have hz := at_lt l 2
    have hz3 := at_lt l 3
    by_cases g7 : (decide (at_ l 0 % 8 * 262144 + at_ l 1 % 64 * 4096 + at_ l 2 % 64 * 64 + at_ l 3 % 64 ≥ 65536) && Utf8.valid ((at_ l 0 % 8 * 262144 + at_ l 1 % 64 * 4096 + at_ l 2 % 64 * 64 + at_ l 3 % 64 : Nat) : Int)) = true
    · obtain ⟨g7, g8⟩ := Bool.and_eq_true_iff.1 g7
      have g7 := of_decide_eq_true g7
      have g8' := (valid_iff _).1 g8
      have hv : vlen l = 4 := by
        unfold vlen
        rw [if_neg h1, if_neg (fun h => by omega), if_neg (fun h => by omega), if_pos ⟨by omega, by omega, g10, g11, g12, g7, by unfold c4; omega⟩]
      rw [hv, if_pos (by rw [g8]; simpa using g7)]
      exact ⟨fun h => by omega, fun h => by omega, fun _ => ⟨_, by omega, by omega, by omega, rfl⟩⟩
    · have hv : vlen l = 0 := by
        unfold vlen
        rw [if_neg h1, if_neg (fun h => by omega), if_neg (fun h => by omega), if_neg (fun h => ?_)]
        obtain ⟨_, _, _, _, _, k1, k2⟩ := h
        unfold c4 at k1 k2
        exact g7 (Bool.and_eq_true_iff.2 ⟨decide_eq_true k1, (valid_iff _).2 (by omega)⟩)
      rw [hv, if_neg g7]
      exact ⟨fun _ => rfl, fun h => by omega, fun h => by omega⟩
  rw [if_neg g9]
  have hv : vlen l = 0 := by
    unfold vlen
    rw [if_neg h1, if_neg (fun h => g1 (Bool.and_eq_true_iff.2 ⟨beq_iff_eq.2 (by omega), h.2.2⟩)), if_neg (fun h => g4 (Bool.and_eq_true_iff.2 ⟨Bool.and_eq_true_iff.2 ⟨beq_iff_eq.2 (by omega), h.2.2.1⟩, h.2.2.2.1⟩)),
      if_neg (fun h => g9 (Bool.and_eq_true_iff.2 ⟨Bool.and_eq_true_iff.2 ⟨Bool.and_eq_true_iff.2 ⟨beq_iff_eq.2 (by omega), h.2.2.1⟩, h.2.2.2.1⟩, h.2.2.2.2.1⟩))]
  rw [hv]
  exact ⟨fun _ => rfl, fun h => by omega, fun h => by omega⟩

theorem vlen_le (l : List UInt8) (h : l ≠ []) : vlen l ≤ l.length := by
  have hl : 0 < l.length := List.length_pos_iff.2 h
  have k1 := @cont_iff l 1
  have k2 := @cont_iff l 2
  have k3 := @cont_iff l 3
  unfold vlen
  repeat' split
  · omega
  · rename_i g; have := (k1.1 g.2.2).1; omega
  · rename_i g; have := (k2.1 g.2.2.2.1).1; omega
  · rename_i g; have := (k3.1 g.2.2.2.2.1).1; omega
  · omega

set_option linter.unusedVariables false in
/-- is the text valid? -/
def validU (l : List UInt8) : Bool :=
  if h : l = [] then true else if h0 : vlen l = 0 then false else validU (l.drop (vlen l))
termination_by l.length
decreasing_by
  have := List.length_pos_iff.2 h
  rw [List.length_drop]
  omega
theorem validU_nil : validU [] = true := by unfold validU; simp
theorem validU_bad {l : List UInt8} (h : l ≠ []) (h0 : vlen l = 0) : validU l = false := by unfold validU; simp [h, h0]
theorem validU_more {l : List UInt8} (h : l ≠ []) (h0 : vlen l ≠ 0) : validU l = validU (l.drop (vlen l)) := by
  conv => lhs; unfold validU
  simp [h, h0]
end Go.Proofs.YtfimnjdfchdldaaFmt.U8
