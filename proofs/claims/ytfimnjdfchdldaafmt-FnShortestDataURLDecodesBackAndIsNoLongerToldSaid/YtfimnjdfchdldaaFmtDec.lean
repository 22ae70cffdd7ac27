/-
  What the decoder meets and leaves, quantum by quantum. Conditions: none.
-/
import Derived.Test.YtfimnjdfchdldaaFmtQuc
import Derived.Test.YtfimnjdfchdldaaFmtLen
namespace Go.Proofs.YtfimnjdfchdldaaFmt
open Go.RowKit

/-- the map's cell at a letter -/
theorem std_map {w : World} {E d : Nat} (h : StdAt w E) (hd : d < 64) : w.cell? ⟨E, 64 + (BM.al d).toNat, none⟩ = some (.int .u8 (d : Int)) := by
  rw [h.cell (64 + (BM.al d).toNat)]
  have hal := (BM.al d).toNat_lt
  have hg := dmRow_get 64 (c := (BM.al d).toNat) (by omega)
  rw [BM.dm_al hd, if_pos hd] at hg
  have := cellsOf_map A64 (dmRow 64) 61 hg
  rw [UInt8.toNat_ofNat', Nat.mod_eq_of_lt (by omega)] at this
  exact this

/-- the four letters of a full quantum -/
theorem enc_full {zs : List UInt8} {q : Nat} {x y z : UInt8} (h0 : zs[3 * q]? = some x) (h1 : zs[3 * q + 1]? = some y) (h2 : zs[3 * q + 2]? = some z) :
    (BM.enc zs)[4 * q]? = some (BM.al (BM.v3 x y z / 262144)) ∧ (BM.enc zs)[4 * q + 1]? = some (BM.al (BM.v3 x y z / 4096 % 64)) ∧ (BM.enc zs)[4 * q + 2]? = some (BM.al (BM.v3 x y z / 64 % 64)) ∧ (BM.enc zs)[4 * q + 3]? = some (BM.al (BM.v3 x y z % 64)) := by
  have hl := (List.getElem?_eq_some_iff.1 h2).1
  have hs : ∀ k, (BM.enc zs)[4 * q + k]? = (BM.quad (BM.v3 x y z) ++ BM.enc (zs.drop (3 * q + 3)))[k]? := fun k => by
    rw [BM.enc_get (by omega), BM.enc_more h0 h1 h2]
  exact ⟨hs 0, hs 1, hs 2, hs 3⟩
theorem enc_pad2 {zs : List UInt8} {q : Nat} {x : UInt8} (h0 : zs[3 * q]? = some x) (hl : zs.length = 3 * q + 1) :
    (BM.enc zs)[4 * q]? = some (BM.al (BM.v3 x 0 0 / 262144)) ∧ (BM.enc zs)[4 * q + 1]? = some (BM.al (BM.v3 x 0 0 / 4096 % 64)) ∧ (BM.enc zs)[4 * q + 2]? = some 61 ∧ (BM.enc zs)[4 * q + 3]? = some 61 := by
  have hs : ∀ k, (BM.enc zs)[4 * q + k]? = ([BM.al (BM.v3 x 0 0 / 262144), BM.al (BM.v3 x 0 0 / 4096 % 64), 61, 61] : List UInt8)[k]? := fun k => by
    rw [BM.enc_get (by omega), BM.enc_one h0 hl]
  exact ⟨hs 0, hs 1, hs 2, hs 3⟩
theorem enc_pad1 {zs : List UInt8} {q : Nat} {x y : UInt8} (h0 : zs[3 * q]? = some x) (h1 : zs[3 * q + 1]? = some y) (hl : zs.length = 3 * q + 2) :
    (BM.enc zs)[4 * q]? = some (BM.al (BM.v3 x y 0 / 262144)) ∧ (BM.enc zs)[4 * q + 1]? = some (BM.al (BM.v3 x y 0 / 4096 % 64)) ∧ (BM.enc zs)[4 * q + 2]? = some (BM.al (BM.v3 x y 0 / 64 % 64)) ∧ (BM.enc zs)[4 * q + 3]? = some 61 := by
  have hs : ∀ k, (BM.enc zs)[4 * q + k]? = ([BM.al (BM.v3 x y 0 / 262144), BM.al (BM.v3 x y 0 / 4096 % 64), BM.al (BM.v3 x y 0 / 64 % 64), 61] : List UInt8)[k]? := fun k => by
    rw [BM.enc_get (by omega), BM.enc_two h0 h1 hl]
  exact ⟨hs 0, hs 1, hs 2, hs 3⟩

/-- the digits make the number again -/
theorem digits_back {v : Nat} (h : v < 16777216) : ((v / 262144 * 64 + v / 4096 % 64) * 64 + v / 64 % 64) * 64 + v % 64 = v := by omega

/-- the first bytes are zs's -/
def Front (zs L : List UInt8) (k : Nat) : Prop := ∀ j, j < k → L[j]? = zs[j]?
theorem Front.zero (zs L : List UInt8) : Front zs L 0 := fun j h => absurd h (by omega)
theorem Front.take {zs L : List UInt8} (h : Front zs L zs.length) : L.take zs.length = zs := by
  apply List.ext_getElem?
  intro j
  rw [List.getElem?_take]
  by_cases hj : j < zs.length
  · rw [if_pos hj, h j hj]
  · rw [if_neg hj, List.getElem?_eq_none (by omega)]
theorem lay_get {L ds : List UInt8} {o j : Nat} (hl : o + ds.length ≤ L.length) : (lay L o ds)[j]? = if j < o then L[j]? else if j < o + ds.length then ds[j - o]? else L[j]? := by
  unfold lay
  by_cases h1 : j < o
  · rw [if_pos h1, List.getElem?_append_left (by rw [List.length_take]; omega), List.getElem?_take, if_pos h1]
  · rw [if_neg h1, List.getElem?_append_right (by rw [List.length_take]; omega), List.length_take, Nat.min_eq_left (by omega)]
    by_cases h2 : j < o + ds.length
    · rw [if_pos h2, List.getElem?_append_left (by omega)]
    · rw [if_neg h2, List.getElem?_append_right (by omega), List.getElem?_drop]
      congr 1
      omega
/-- bytes laid behind the front lengthen it -/
theorem Front.lay {zs L ds : List UInt8} {o m : Nat} (h : Front zs L o) (hl : o + ds.length ≤ L.length) (hm : m ≤ ds.length) (hd : ∀ j, j < m → ds[j]? = zs[o + j]?) : Front zs (lay L o ds) (o + m) := fun j hj => by
  rw [lay_get hl]
  by_cases h1 : j < o
  · rw [if_pos h1, h j h1]
  · rw [if_neg h1, if_pos (by omega), hd (j - o) (by omega)]
    congr 1
    omega

/-- the bytes of two assembled quanta -/
theorem word64 (x0 y0 z0 x1 y1 z1 : UInt8) : ∀ j, j < 6 → (beBytes 8 ((BM.v3 x0 y0 z0 * 16777216 + BM.v3 x1 y1 z1) * 65536))[j]? = [x0, y0, z0, x1, y1, z1][j]? := by
  have hx0 := x0.toNat_lt
  have hy0 := y0.toNat_lt
  have hz0 := z0.toNat_lt
  have hx1 := x1.toNat_lt
  have hy1 := y1.toNat_lt
  have hz1 := z1.toNat_lt
  intro j hj
  rw [beBytes_get 8 _ (by omega)]
  unfold BM.v3
  match j, hj with
  | 0, _ =>
    show some _ = some _
    congr 1
    apply UInt8.toNat_inj.1
    rw [UInt8.toNat_ofNat']
    simp only [Nat.reduceMul, Nat.reduceSub, Nat.reducePow]
    omega
  | 1, _ =>
    show some _ = some _
    congr 1
    apply UInt8.toNat_inj.1
    rw [UInt8.toNat_ofNat']
    simp only [Nat.reduceMul, Nat.reduceSub, Nat.reducePow]
    omega
  | 2, _ =>
    show some _ = some _
    congr 1
    apply UInt8.toNat_inj.1
    rw [UInt8.toNat_ofNat']
    simp only [Nat.reduceMul, Nat.reduceSub, Nat.reducePow]
    omega
  | 3, _ =>
    show some _ = some _
    congr 1
    apply UInt8.toNat_inj.1
    rw [UInt8.toNat_ofNat']
    simp only [Nat.reduceMul, Nat.reduceSub, Nat.reducePow]
    omega
  | 4, _ =>
    show some _ = some _
    congr 1
    apply UInt8.toNat_inj.1
    rw [UInt8.toNat_ofNat']
    simp only [Nat.reduceMul, Nat.reduceSub, Nat.reducePow]
    omega
  | 5, _ =>
    show some _ = some _
    congr 1
    apply UInt8.toNat_inj.1
    rw [UInt8.toNat_ofNat']
    simp only [Nat.reduceMul, Nat.reduceSub, Nat.reducePow]
    omega
/-- the bytes of one assembled quantum -/
theorem word32 (x y z : UInt8) : ∀ j, j < 3 → (beBytes 4 (BM.v3 x y z * 256))[j]? = [x, y, z][j]? := by
  have hx0 := x.toNat_lt
  have hy0 := y.toNat_lt
  have hz0 := z.toNat_lt
  intro j hj
  rw [beBytes_get 4 _ (by omega)]
  unfold BM.v3
  match j, hj with
  | 0, _ =>
    show some _ = some _
    congr 1
    apply UInt8.toNat_inj.1
    rw [UInt8.toNat_ofNat']
    simp only [Nat.reduceMul, Nat.reduceSub, Nat.reducePow]
    omega
  | 1, _ =>
    show some _ = some _
    congr 1
    apply UInt8.toNat_inj.1
    rw [UInt8.toNat_ofNat']
    simp only [Nat.reduceMul, Nat.reduceSub, Nat.reducePow]
    omega
  | 2, _ =>
    show some _ = some _
    congr 1
    apply UInt8.toNat_inj.1
    rw [UInt8.toNat_ofNat']
    simp only [Nat.reduceMul, Nat.reduceSub, Nat.reducePow]
    omega
theorem word24 (x y z : UInt8) : beBytes 3 (BM.v3 x y z) = [x, y, z] := by
  obtain ⟨h0, h1, h2⟩ := BM.v3_bytes x y z
  have hx0 := x.toNat_lt
  rw [beBytes3, h0, h1, h2, Nat.mod_eq_of_lt (by omega)]
  simp
end Go.Proofs.YtfimnjdfchdldaaFmt
