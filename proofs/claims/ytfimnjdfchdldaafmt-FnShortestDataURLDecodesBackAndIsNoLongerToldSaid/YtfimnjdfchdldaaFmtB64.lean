/-
  Plain mathematics of padded base64. Conditions: none.
-/
import GoSem.Claim
namespace Go.Proofs.YtfimnjdfchdldaaFmt.BM

/-- the letter of a digit -/
def al (d : Nat) : UInt8 := UInt8.ofNat (if d < 26 then d + 65 else if d < 52 then d + 71 else if d < 62 then d - 4 else if d = 62 then 43 else 47)
/-- the digit of a letter, or 255 -/
def dm (c : Nat) : Nat := if 65 ≤ c ∧ c ≤ 90 then c - 65 else if 97 ≤ c ∧ c ≤ 122 then c - 71 else if 48 ≤ c ∧ c ≤ 57 then c + 4 else if c = 43 then 62 else if c = 47 then 63 else 255
theorem al_toNat {d : Nat} (h : d < 64) : (al d).toNat = if d < 26 then d + 65 else if d < 52 then d + 71 else if d < 62 then d - 4 else if d = 62 then 43 else 47 := by
  unfold al
  rw [UInt8.toNat_ofNat', Nat.mod_eq_of_lt]
  repeat' split
  all_goals omega
theorem dm_al {d : Nat} (h : d < 64) : dm (al d).toNat = d := by
  rw [al_toNat h]
  unfold dm
  repeat' split
  all_goals omega
theorem dm_pad : dm 61 = 255 := by decide
theorem dm_small {d : Nat} (h : d < 64) : dm (al d).toNat < 64 := by rw [dm_al h]; exact h

def v3 (a b c : UInt8) : Nat := a.toNat * 65536 + b.toNat * 256 + c.toNat
theorem v3_lt (a b c : UInt8) : v3 a b c < 16777216 := by
  have ha := a.toNat_lt
  have hb := b.toNat_lt
  have hc := c.toNat_lt
  unfold v3
  omega
def quad (v : Nat) : List UInt8 := [al (v / 262144), al (v / 4096 % 64), al (v / 64 % 64), al (v % 64)]

/-- the padded text -/
def enc : List UInt8 → List UInt8
  | a :: b :: c :: r => quad (v3 a b c) ++ enc r
  | [a, b] => [al (v3 a b 0 / 262144), al (v3 a b 0 / 4096 % 64), al (v3 a b 0 / 64 % 64), 61]
  | [a] => [al (v3 a 0 0 / 262144), al (v3 a 0 0 / 4096 % 64), 61, 61]
  | [] => []

theorem enc_length : ∀ zs : List UInt8, (enc zs).length = 4 * ((zs.length + 2) / 3)
  | a :: b :: c :: r => by
    unfold enc
    rw [List.length_append, enc_length r]
    simp [quad]
    omega
  | [a, b] => by simp [enc]
  | [a] => by simp [enc]
  | [] => by simp [enc]

theorem drop3 {zs : List UInt8} {i : Nat} {a b c : UInt8} (h0 : zs[i]? = some a) (h1 : zs[i + 1]? = some b) (h2 : zs[i + 2]? = some c) : zs.drop i = a :: b :: c :: zs.drop (i + 3) := by
  have l0 := (List.getElem?_eq_some_iff.1 h0).1
  have l1 := (List.getElem?_eq_some_iff.1 h1).1
  have l2 := (List.getElem?_eq_some_iff.1 h2).1
  rw [List.drop_eq_getElem_cons l0, (List.getElem?_eq_some_iff.1 h0).2, List.drop_eq_getElem_cons l1, (List.getElem?_eq_some_iff.1 h1).2, List.drop_eq_getElem_cons l2, (List.getElem?_eq_some_iff.1 h2).2]
theorem enc_more {zs : List UInt8} {i : Nat} {a b c : UInt8} (h0 : zs[i]? = some a) (h1 : zs[i + 1]? = some b) (h2 : zs[i + 2]? = some c) : enc (zs.drop i) = quad (v3 a b c) ++ enc (zs.drop (i + 3)) := by
  rw [drop3 h0 h1 h2]
  rfl
theorem enc_two {zs : List UInt8} {i : Nat} {a b : UInt8} (h0 : zs[i]? = some a) (h1 : zs[i + 1]? = some b) (hl : zs.length = i + 2) : enc (zs.drop i) = [al (v3 a b 0 / 262144), al (v3 a b 0 / 4096 % 64), al (v3 a b 0 / 64 % 64), 61] := by
  have l0 := (List.getElem?_eq_some_iff.1 h0).1
  have l1 := (List.getElem?_eq_some_iff.1 h1).1
  rw [List.drop_eq_getElem_cons l0, (List.getElem?_eq_some_iff.1 h0).2, List.drop_eq_getElem_cons l1, (List.getElem?_eq_some_iff.1 h1).2, List.drop_eq_nil_of_le (by omega)]
  rfl
theorem enc_one {zs : List UInt8} {i : Nat} {a : UInt8} (h0 : zs[i]? = some a) (hl : zs.length = i + 1) : enc (zs.drop i) = [al (v3 a 0 0 / 262144), al (v3 a 0 0 / 4096 % 64), 61, 61] := by
  have l0 := (List.getElem?_eq_some_iff.1 h0).1
  rw [List.drop_eq_getElem_cons l0, (List.getElem?_eq_some_iff.1 h0).2, List.drop_eq_nil_of_le (by omega)]
  rfl
theorem enc_none {zs : List UInt8} {i : Nat} (hl : zs.length ≤ i) : enc (zs.drop i) = [] := by rw [List.drop_eq_nil_of_le hl]; rfl

/-- the text from quantum g on -/
theorem enc_split (zs : List UInt8) : ∀ g, 3 * g ≤ zs.length → (enc zs).drop (4 * g) = enc (zs.drop (3 * g))
  | 0, _ => by simp
  | g + 1, h => by
    have ih := enc_split zs g (by omega)
    obtain ⟨a, ha⟩ : ∃ a, zs[3 * g]? = some a := ⟨_, List.getElem?_eq_getElem (by omega)⟩
    obtain ⟨b, hb⟩ : ∃ b, zs[3 * g + 1]? = some b := ⟨_, List.getElem?_eq_getElem (by omega)⟩
    obtain ⟨c, hc⟩ : ∃ c, zs[3 * g + 2]? = some c := ⟨_, List.getElem?_eq_getElem (by omega)⟩
    rw [enc_more ha hb hc] at ih
    rw [show 4 * (g + 1) = 4 * g + 4 by omega, ← List.drop_drop, ih, show 3 * (g + 1) = 3 * g + 3 by omega]
    rfl
theorem enc_get {zs : List UInt8} {g k : Nat} (h : 3 * g ≤ zs.length) : (enc zs)[4 * g + k]? = (enc (zs.drop (3 * g)))[k]? := by
  rw [← enc_split zs g h, List.getElem?_drop]

/-- a quantum's digits and its value -/
theorem digits_val {v : Nat} (h : v < 16777216) : v / 262144 < 64 ∧ v / 4096 % 64 < 64 ∧ v / 64 % 64 < 64 ∧ v % 64 < 64 ∧ v / 262144 * 262144 + v / 4096 % 64 * 4096 + v / 64 % 64 * 64 + v % 64 = v := by
  omega
theorem v3_bytes (a b c : UInt8) : v3 a b c / 65536 = a.toNat ∧ v3 a b c / 256 % 256 = b.toNat ∧ v3 a b c % 256 = c.toNat := by
  have ha := a.toNat_lt
  have hb := b.toNat_lt
  have hc := c.toNat_lt
  unfold v3
  omega
end Go.Proofs.YtfimnjdfchdldaaFmt.BM
