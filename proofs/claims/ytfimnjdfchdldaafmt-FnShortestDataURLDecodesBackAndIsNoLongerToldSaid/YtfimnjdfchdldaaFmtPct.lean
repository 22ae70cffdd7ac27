/-
  Plain mathematics of percent escapes. Conditions: none.
-/
import GoSem.Claim
namespace Go.Proofs.YtfimnjdfchdldaaFmt.PM

def isHex (c : UInt8) : Bool := (decide (48 ≤ c.toNat) && decide (c.toNat ≤ 57)) || (decide (97 ≤ c.toNat) && decide (c.toNat ≤ 102)) || (decide (65 ≤ c.toNat) && decide (c.toNat ≤ 70))
def hexV (c : UInt8) : Nat := if 48 ≤ c.toNat ∧ c.toNat ≤ 57 then c.toNat - 48 else if 97 ≤ c.toNat ∧ c.toNat ≤ 102 then c.toNat - 87 else c.toNat - 55
theorem isHex_iff {c : UInt8} : isHex c = true ↔ (48 ≤ c.toNat ∧ c.toNat ≤ 57) ∨ (97 ≤ c.toNat ∧ c.toNat ≤ 102) ∨ (65 ≤ c.toNat ∧ c.toNat ≤ 70) := by
  simp [isHex, or_assoc]
theorem hexV_lt {c : UInt8} (h : isHex c = true) : hexV c < 16 := by
  have := isHex_iff.1 h
  unfold hexV
  split
  · omega
  · split <;> omega
def byteOf (a b : UInt8) : UInt8 := UInt8.ofNat (hexV a * 16 + hexV b)

/-- the strict decoding -/
def pd : List UInt8 → Option (List UInt8)
  | [] => some []
  | c :: r =>
    if c.toNat = 37 then
      match r with
      | a :: b :: r2 => if isHex a && isHex b then (pd r2).map (byteOf a b :: ·) else none
      | _ => none
    else (pd r).map (c :: ·)

theorem pd_plain {zs : List UInt8} {i : Nat} {c : UInt8} (h : zs[i]? = some c) (hc : c.toNat ≠ 37) : pd (zs.drop i) = (pd (zs.drop (i + 1))).map (c :: ·) := by
  have hlt := (List.getElem?_eq_some_iff.1 h).1
  rw [List.drop_eq_getElem_cons hlt, (List.getElem?_eq_some_iff.1 h).2]
  conv => lhs; unfold pd
  rw [if_neg hc]
theorem pd_hex {zs : List UInt8} {i : Nat} {c a b : UInt8} (h : zs[i]? = some c) (hc : c.toNat = 37) (h1 : zs[i + 1]? = some a) (h2 : zs[i + 2]? = some b) (ha : isHex a = true) (hb : isHex b = true) :
    pd (zs.drop i) = (pd (zs.drop (i + 3))).map (byteOf a b :: ·) := by
  have hlt := (List.getElem?_eq_some_iff.1 h).1
  have hlt1 := (List.getElem?_eq_some_iff.1 h1).1
  have hlt2 := (List.getElem?_eq_some_iff.1 h2).1
  rw [List.drop_eq_getElem_cons hlt, (List.getElem?_eq_some_iff.1 h).2, List.drop_eq_getElem_cons hlt1, (List.getElem?_eq_some_iff.1 h1).2, List.drop_eq_getElem_cons hlt2, (List.getElem?_eq_some_iff.1 h2).2]
  conv => lhs; unfold pd
  rw [if_pos hc]
  simp [ha, hb]
theorem pd_bad {zs : List UInt8} {i : Nat} {c a b : UInt8} (h : zs[i]? = some c) (hc : c.toNat = 37) (h1 : zs[i + 1]? = some a) (h2 : zs[i + 2]? = some b) (hab : (isHex a && isHex b) = false) : pd (zs.drop i) = none := by
  have hlt := (List.getElem?_eq_some_iff.1 h).1
  have hlt1 := (List.getElem?_eq_some_iff.1 h1).1
  have hlt2 := (List.getElem?_eq_some_iff.1 h2).1
  rw [List.drop_eq_getElem_cons hlt, (List.getElem?_eq_some_iff.1 h).2, List.drop_eq_getElem_cons hlt1, (List.getElem?_eq_some_iff.1 h1).2, List.drop_eq_getElem_cons hlt2, (List.getElem?_eq_some_iff.1 h2).2]
  unfold pd
  rw [if_pos hc]
  simp only [hab]
  rfl
theorem pd_short {zs : List UInt8} {i : Nat} {c : UInt8} (h : zs[i]? = some c) (hc : c.toNat = 37) (hl : zs.length ≤ i + 2) : pd (zs.drop i) = none := by
  have hlt := (List.getElem?_eq_some_iff.1 h).1
  rw [List.drop_eq_getElem_cons hlt, (List.getElem?_eq_some_iff.1 h).2]
  unfold pd
  rw [if_pos hc]
  have hd : (zs.drop (i + 1)).length ≤ 1 := by rw [List.length_drop]; omega
  match zs.drop (i + 1), hd with
  | [], _ => rfl
  | [_], _ => rfl
theorem pd_end (zs : List UInt8) {i : Nat} (h : zs.length ≤ i) : pd (zs.drop i) = some [] := by rw [List.drop_eq_nil_of_le h]; rfl

/-- so far: what is decoded behind place i is put behind out -/
def At (zs out : List UInt8) (i : Nat) : Prop := pd zs = (pd (zs.drop i)).map (out ++ ·)
theorem At.zero (zs : List UInt8) : At zs [] 0 := by
  unfold At
  rw [List.drop_zero]
  cases pd zs <;> rfl
theorem At.plain {zs out : List UInt8} {i : Nat} {c : UInt8} (h : At zs out i) (hi : zs[i]? = some c) (hc : c.toNat ≠ 37) : At zs (out ++ [c]) (i + 1) := by
  unfold At at *
  rw [h, pd_plain hi hc, Option.map_map]
  congr 1
  funext l
  simp
theorem At.hex {zs out : List UInt8} {i : Nat} {c a b : UInt8} (h : At zs out i) (hi : zs[i]? = some c) (hc : c.toNat = 37) (h1 : zs[i + 1]? = some a) (h2 : zs[i + 2]? = some b) (ha : isHex a = true) (hb : isHex b = true) : At zs (out ++ [byteOf a b]) (i + 3) := by
  unfold At at *
  rw [h, pd_hex hi hc h1 h2 ha hb, Option.map_map]
  congr 1
  funext l
  simp
theorem At.bad {zs out : List UInt8} {i : Nat} (h : At zs out i) (hn : pd (zs.drop i) = none) : pd zs = none := by unfold At at h; rw [h, hn]; rfl
theorem At.done {zs out : List UInt8} {i : Nat} (h : At zs out i) (hl : zs.length ≤ i) : pd zs = some out := by
  unfold At at h
  rw [h, pd_end zs hl]
  simp
end Go.Proofs.YtfimnjdfchdldaaFmt.PM
