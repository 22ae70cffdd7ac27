/-
  Plain mathematics of the first eight letters of base32. Conditions: none.
-/
import Derived.Laws.Bits64b
import Derived.IntWalk
import Derived.Laws.BitsAllLaws
namespace Go.Proofs.Yteimbkhclmghhaa.HM
def digits : List UInt8 := [65,66,67,68,69,70,71,72,73,74,75,76,77,78,79,80,81,82,83,84,85,86,87,88,89,90,50,51,52,53,54,55]

def v5 (zs : List UInt8) : Nat → Nat
  | 0 => 0
  | k + 1 => v5 zs k * 256 + (if k < zs.length then (zs.getD k 0).toNat else 0)

theorem v5_lt (zs : List UInt8) (k : Nat) : v5 zs k < 256 ^ k := by
  induction k with
  | zero => simp [v5]
  | succ k ih =>
    have h : (zs.getD k 0).toNat < 256 := UInt8.toNat_lt _
    simp only [v5, Nat.pow_succ]
    split <;> omega

def chr (zs : List UInt8) (i : Nat) : UInt8 :=
  if 5 * i < 8 * (min 5 zs.length) then digits.getD (v5 zs 5 / 2 ^ (35 - 5 * i) % 32) 0 else 61

def head8 (zs : List UInt8) : List UInt8 := (List.range 8).map (chr zs)

theorem v5_lt40 (zs : List UInt8) {k : Nat} (hk : k ≤ 5) : v5 zs k < 1099511627776 :=
  Nat.lt_of_lt_of_le (v5_lt zs k) (by have := Nat.pow_le_pow_right (show 0 < 256 by omega) hk; omega)

theorem v5_or (zs : List UInt8) {k : Nat} (hk : k < 5) {x : UInt8} (hx : zs[k]? = some x) :
    Go.bits .or .u64 (Go.IntKind.u64.wrap ((v5 zs k : Int) * 256)) (Go.IntKind.u64.wrap (x.toNat : Int)) = (v5 zs (k + 1) : Int) := by
  have h1 := v5_lt40 zs (show k ≤ 5 by omega)
  have h2 := x.toNat_lt
  have hl : k < zs.length := (List.getElem?_eq_some_iff.1 hx).1
  rw [Go.IntWalk.u64_in _ (by omega), Go.IntWalk.u64_in _ (by omega)]
  have e : ((v5 zs k : Int) * 256) = ((v5 zs k * 256 : Nat) : Int) := by omega
  rw [e, Go.bits_or_u64_nat _ _ (by omega) (by omega)]
  have h3 : v5 zs k * 256 ||| x.toNat = v5 zs k * 256 + x.toNat := by
    have := Nat.shiftLeft_add_eq_or_of_lt (show x.toNat < 2 ^ 8 by omega) (v5 zs k)
    rw [Nat.shiftLeft_eq] at this
    exact this.symm
  rw [h3]
  simp only [v5, if_pos hl]
  simp [List.getD, hx]

theorem v5_skip (zs : List UInt8) {k : Nat} (hk : k < 5) (hx : ¬ k < zs.length) : Go.IntKind.u64.wrap ((v5 zs k : Int) * 256) = (v5 zs (k + 1) : Int) := by
  have h1 := v5_lt40 zs (show k ≤ 5 by omega)
  rw [Go.IntWalk.u64_in _ (by omega)]
  simp only [v5, if_neg hx]
  omega

theorem and31 (a : Nat) (ha : a < 1099511627776) : Go.bits .and .u64 (a : Int) 31 = ((a % 32 : Nat) : Int) := by
  have e : (31 : Int) = ((31 : Nat) : Int) := rfl
  rw [e, Go.bits_and_u64_nat a 31 (by omega) (by omega)]
  have := Nat.and_two_pow_sub_one_eq_mod a 5
  simp only [Nat.reducePow, Nat.reduceSub] at this
  rw [this]

/-- the letter's place -/
def place (zs : List UInt8) (i : Nat) : Nat := v5 zs 5 / 2 ^ (35 - 5 * i) % 32
theorem place_lt (zs : List UInt8) (i : Nat) : place zs i < 32 := Nat.mod_lt _ (by omega)
theorem place_bits (zs : List UInt8) (i : Nat) : Go.bits .and .u64 ((v5 zs 5 : Int) / 2 ^ (35 - 5 * i)) 31 = (place zs i : Int) := by
  have h1 := v5_lt40 zs (Nat.le_refl 5)
  have h2 : v5 zs 5 / 2 ^ (35 - 5 * i) ≤ v5 zs 5 := Nat.div_le_self _ _
  have := and31 (v5 zs 5 / 2 ^ (35 - 5 * i)) (by omega)
  rw [place, ← this]
  congr 1

theorem digit_at (x : Nat) (h : x < 32) (h' : x < ByteArray.size ⟨#[65, 66, 67, 68, 69, 70, 71, 72, 73, 74, 75, 76, 77, 78, 79, 80, 81, 82, 83, 84, 85, 86, 87, 88, 89, 90, 50, 51, 52, 53, 54, 55]⟩) :
    (⟨#[65, 66, 67, 68, 69, 70, 71, 72, 73, 74, 75, 76, 77, 78, 79, 80, 81, 82, 83, 84, 85, 86, 87, 88, 89, 90, 50, 51, 52, 53, 54, 55]⟩ : ByteArray)[x]'h' = digits.getD x 0 := by
  have e : digits[x]? = some (digits[x]'h) := List.getElem?_eq_getElem _
  simp only [List.getD, e, Option.getD_some]
  rfl

theorem v5_congr {as bs : List UInt8} {k : Nat} (hk : k ≤ 5) (hl : min 5 as.length = min 5 bs.length) (h : ∀ j, j < 5 → as.getD j 0 = bs.getD j 0) : v5 as k = v5 bs k := by
  induction k with
  | zero => rfl
  | succ k ih =>
    simp only [v5]
    rw [ih (by omega), h k (by omega)]
    by_cases hk2 : k < as.length
    · rw [if_pos hk2, if_pos (by omega)]
    · rw [if_neg hk2, if_neg (by omega)]

theorem head8_congr {as bs : List UInt8} (hl : min 5 as.length = min 5 bs.length) (h : ∀ j, j < 5 → as.getD j 0 = bs.getD j 0) : head8 as = head8 bs := by
  unfold head8
  congr 1
  funext i
  simp only [chr, hl, v5_congr (Nat.le_refl 5) hl h]

theorem digit_inj : ∀ x, x < 32 → ∀ y, y < 32 → digits.getD x 0 = digits.getD y 0 → x = y := by decide
theorem digit_ne : ∀ x, x < 32 → digits.getD x 0 ≠ 61 := by decide

theorem chr_full {zs : List UInt8} (h : 5 ≤ zs.length) {i : Nat} (hi : i < 8) : chr zs i = digits.getD (v5 zs 5 / 2 ^ (35 - 5 * i) % 32) 0 := by
  unfold chr; rw [if_pos (by omega)]

theorem head8_ne {zs : List UInt8} (h : 5 ≤ zs.length) {c : UInt8} (hc : c ∈ head8 zs) : c ≠ 61 := by
  unfold head8 at hc
  simp only [List.mem_map, List.mem_range] at hc
  obtain ⟨i, hi, rfl⟩ := hc
  rw [chr_full h hi]
  exact digit_ne _ (Nat.mod_lt _ (by omega))

theorem head8_length (zs : List UInt8) : (head8 zs).length = 8 := by simp [head8]
theorem head8_letter {zs : List UInt8} {i : Nat} (hi : i < 8) (h : 5 * i < 8 * min 5 zs.length) : (head8 zs)[i]? = some (digits.getD (place zs i) 0) := by
  unfold head8 chr place; simp only [List.getElem?_map, List.getElem?_range hi, Option.map_some, if_pos h]
theorem head8_pad {zs : List UInt8} {i : Nat} (hi : i < 8) (h : ¬ 5 * i < 8 * min 5 zs.length) : (head8 zs)[i]? = some 61 := by
  unfold head8 chr; simp only [List.getElem?_map, List.getElem?_range hi, Option.map_some, if_neg h]
theorem head8_get (zs : List UInt8) {i : Nat} (hi : i < 8) : (head8 zs)[i]? = some (chr zs i) := by
  unfold head8; simp [hi]

theorem list5 {l : List UInt8} (h : l.length = 5) : ∃ a b c d e, l = [a, b, c, d, e] := by
  rcases l with _ | ⟨a, _ | ⟨b, _ | ⟨c, _ | ⟨d, _ | ⟨e, _ | ⟨f, l⟩⟩⟩⟩⟩⟩ <;> simp at h
  exact ⟨a, b, c, d, e, rfl⟩

theorem v5_five (a b c d e : UInt8) : v5 [a, b, c, d, e] 5 = (((a.toNat * 256 + b.toNat) * 256 + c.toNat) * 256 + d.toNat) * 256 + e.toNat := by
  simp [v5]

theorem head8_inj {as bs : List UInt8} (ha : as.length = 5) (hb : bs.length = 5) (h : head8 as = head8 bs) : as = bs := by
  have hd : ∀ i, i < 8 → v5 as 5 / 2 ^ (35 - 5 * i) % 32 = v5 bs 5 / 2 ^ (35 - 5 * i) % 32 := by
    intro i hi
    have e : (head8 as)[i]? = (head8 bs)[i]? := by rw [h]
    rw [head8_get _ hi, head8_get _ hi, chr_full (by omega) hi, chr_full (by omega) hi] at e
    exact digit_inj _ (Nat.mod_lt _ (by omega)) _ (Nat.mod_lt _ (by omega)) (by simpa using e)
  have la := v5_lt as 5
  have lb := v5_lt bs 5
  have hv : v5 as 5 = v5 bs 5 := by
    have h0 := hd 0 (by omega)
    have h1 := hd 1 (by omega)
    have h2 := hd 2 (by omega)
    have h3 := hd 3 (by omega)
    have h4 := hd 4 (by omega)
    have h5 := hd 5 (by omega)
    have h6 := hd 6 (by omega)
    have h7 := hd 7 (by omega)
    simp only [Nat.reduceMul, Nat.reduceSub, Nat.reducePow] at h0 h1 h2 h3 h4 h5 h6 h7 la lb
    generalize v5 as 5 = x at *
    generalize v5 bs 5 = y at *
    omega
  clear hd h la lb
  obtain ⟨a0, a1, a2, a3, a4, rfl⟩ := list5 ha
  obtain ⟨b0, b1, b2, b3, b4, rfl⟩ := list5 hb
  simp only [v5_five] at hv
  have := a0.toNat_lt; have := a1.toNat_lt; have := a2.toNat_lt; have := a3.toNat_lt; have := a4.toNat_lt
  have := b0.toNat_lt; have := b1.toNat_lt; have := b2.toNat_lt; have := b3.toNat_lt; have := b4.toNat_lt
  have e0 : a0 = b0 := UInt8.toNat.inj (by omega)
  have e1 : a1 = b1 := UInt8.toNat.inj (by omega)
  have e2 : a2 = b2 := UInt8.toNat.inj (by omega)
  have e3 : a3 = b3 := UInt8.toNat.inj (by omega)
  have e4 : a4 = b4 := UInt8.toNat.inj (by omega)
  rw [e0, e1, e2, e3, e4]
end Go.Proofs.Yteimbkhclmghhaa.HM
