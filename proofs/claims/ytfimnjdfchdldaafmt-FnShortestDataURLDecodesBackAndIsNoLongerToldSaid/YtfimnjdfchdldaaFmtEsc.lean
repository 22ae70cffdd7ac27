/-
  Plain mathematics of the percent-escaped text. Conditions: none.
-/
import Derived.Test.YtfimnjdfchdldaaFmtPct
import Derived.Test.YtfimnjdfchdldaaFmtUtf
namespace Go.Proofs.YtfimnjdfchdldaaFmt.PE
open PM

/-- a byte of the trailing run -/
def blank (b : UInt8) : Bool := decide (b.toNat ≤ 32 ∧ b.toNat ≠ 9 ∧ b.toNat ≠ 10 ∧ b.toNat ≠ 13)
/-- where the trailing run begins -/
def ts (zs : List UInt8) : Nat := (zs.reverse.dropWhile blank).length
theorem ts_nil : ts [] = 0 := rfl
theorem ts_snoc (l : List UInt8) (x : UInt8) : ts (l ++ [x]) = if blank x = true then ts l else l.length + 1 := by
  unfold ts
  rw [List.reverse_append]
  simp only [List.reverse_cons, List.reverse_nil, List.nil_append, List.cons_append, List.dropWhile_cons]
  split <;> simp
theorem ts_take {zs : List UInt8} {k : Nat} {x : UInt8} (h : zs[k]? = some x) : ts (zs.take (k + 1)) = if blank x = true then ts (zs.take k) else k + 1 := by
  have hk := (List.getElem?_eq_some_iff.1 h).1
  rw [List.take_add_one, h]
  show ts (zs.take k ++ [x]) = _
  rw [ts_snoc, List.length_take, Nat.min_eq_left (by omega)]
theorem ts_le_take (zs : List UInt8) : ∀ k, k ≤ zs.length → ts (zs.take k) ≤ k
  | 0, _ => by simp [ts]
  | k + 1, h => by
    obtain ⟨x, hx⟩ : ∃ x, zs[k]? = some x := ⟨_, List.getElem?_eq_getElem (by omega)⟩
    rw [ts_take hx]
    have := ts_le_take zs k (by omega)
    split <;> omega
theorem ts_le (zs : List UInt8) : ts zs ≤ zs.length := by
  have := ts_le_take zs zs.length (Nat.le_refl _)
  rwa [List.take_length] at this
theorem ts_behind_take (zs : List UInt8) : ∀ n, n ≤ zs.length → ∀ k x, k < n → zs[k]? = some x → blank x = false → k < ts (zs.take n)
  | 0, _, _, _, h, _, _ => absurd h (by omega)
  | n + 1, hn, k, x, hk, hx, hb => by
    obtain ⟨y, hy⟩ : ∃ y, zs[n]? = some y := ⟨_, List.getElem?_eq_getElem (by omega)⟩
    rw [ts_take hy]
    by_cases e : k = n
    · subst e
      rw [hx] at hy
      cases hy
      rw [hb]
      simp
    · have := ts_behind_take zs n (by omega) k x (by omega) hx hb
      split <;> omega
theorem ts_behind {zs : List UInt8} {k : Nat} {x : UInt8} (hx : zs[k]? = some x) (hb : blank x = false) : k < ts zs := by
  have hk := (List.getElem?_eq_some_iff.1 hx).1
  have := ts_behind_take zs zs.length (Nat.le_refl _) k x hk hx hb
  rwa [List.take_length] at this

/-- a hex digit -/
def hd (v : Nat) : UInt8 := UInt8.ofNat (if v < 10 then 48 + v else 55 + v)
theorem hd_toNat {v : Nat} (h : v < 16) : (hd v).toNat = if v < 10 then 48 + v else 55 + v := by
  unfold hd
  rw [UInt8.toNat_ofNat', Nat.mod_eq_of_lt]
  split <;> omega
theorem hd_hex {v : Nat} (h : v < 16) : isHex (hd v) = true ∧ hexV (hd v) = v := by
  have e := hd_toNat h
  refine ⟨isHex_iff.2 ?_, ?_⟩
  · rw [e]; split <;> omega
  · unfold hexV
    rw [e]
    repeat' split
    all_goals omega

/-- the escape of a byte -/
def three (b : UInt8) : List UInt8 := [37, hd (b.toNat / 16), hd (b.toNat % 16)]
theorem three_back (b : UInt8) : PM.byteOf (hd (b.toNat / 16)) (hd (b.toNat % 16)) = b := by
  have hb := b.toNat_lt
  unfold PM.byteOf
  rw [(hd_hex (show b.toNat / 16 < 16 by omega)).2, (hd_hex (show b.toNat % 16 < 16 by omega)).2]
  apply UInt8.toNat_inj.1
  rw [UInt8.toNat_ofNat', Nat.mod_eq_of_lt (by omega)]
  omega

/-- the first two are hex digits -/
def hex2 : List UInt8 → Bool
  | a :: b :: _ => isHex a && isHex b
  | _ => false
/-- must the byte be escaped? t: how many bytes from here on stand before the trailing run; r: what follows -/
def must (t : Nat) (b : UInt8) (r : List UInt8) : Bool := decide (b.toNat = 9 ∨ b.toNat = 10 ∨ b.toNat = 13 ∨ b.toNat = 35 ∨ t = 0) || (decide (b.toNat = 37) && hex2 r)
def esc : Nat → List UInt8 → List UInt8
  | _, [] => []
  | t, b :: r => (if must t b r = true then three b else [b]) ++ esc (t - 1) r

/-- the lenient percent decoder -/
def pdl : List UInt8 → List UInt8
  | [] => []
  | [c] => [c]
  | [c, d] => [c, d]
  | c :: a :: b :: r => if c.toNat = 37 ∧ (isHex a && isHex b) = true then PM.byteOf a b :: pdl r else c :: pdl (a :: b :: r)
theorem pdl_plain {c : UInt8} {r : List UInt8} (h : c.toNat ≠ 37) : pdl (c :: r) = c :: pdl r := by
  match r with
  | [] => rfl
  | [a] => rfl
  | a :: b :: r' => rw [pdl.eq_4, if_neg (fun e => h e.1)]
theorem pdl_hex {c a b : UInt8} {r : List UInt8} (h : c.toNat = 37) (hh : (isHex a && isHex b) = true) : pdl (c :: a :: b :: r) = PM.byteOf a b :: pdl r := by
  rw [pdl.eq_4, if_pos ⟨h, hh⟩]
theorem pdl_lone {c : UInt8} {r : List UInt8} (h : hex2 r = false) : pdl (c :: r) = c :: pdl r := by
  match r, h with
  | [], _ => rfl
  | [a], _ => rfl
  | a :: b :: r', h => rw [pdl.eq_4, if_neg (fun e => by rw [show (isHex a && isHex b) = false from h] at e; exact Bool.false_ne_true e.2)]
theorem pct_not_hex : isHex 37 = false := by decide

theorem esc_hex2 (t : Nat) (r : List UInt8) (h : hex2 r = false) : hex2 (esc t r) = false := by
  match r, h with
  | [], _ => rfl
  | [x], _ =>
    show hex2 ((if must t x [] = true then three x else [x]) ++ []) = false
    split
    · show (isHex 37 && isHex (hd (x.toNat / 16))) = false
      rw [pct_not_hex]; rfl
    · rfl
  | x :: y :: r', h =>
    have h' : (isHex x && isHex y) = false := h
    show hex2 ((if must t x (y :: r') = true then three x else [x]) ++ ((if must (t - 1) y r' = true then three y else [y]) ++ esc (t - 1 - 1) r')) = false
    split
    · show (isHex 37 && isHex (hd (x.toNat / 16))) = false
      rw [pct_not_hex]; rfl
    · split
      · show (isHex x && isHex 37) = false
        rw [pct_not_hex, Bool.and_false]
      · exact h'
/-- the escaped text decodes back -/
theorem pdl_esc : ∀ (zs : List UInt8) (t : Nat), pdl (esc t zs) = zs
  | [], _ => by show pdl [] = []; rw [pdl.eq_1]
  | b :: r, t => by
    show pdl ((if must t b r = true then three b else [b]) ++ esc (t - 1) r) = b :: r
    have ih := pdl_esc r (t - 1)
    split
    · have hb := b.toNat_lt
      show pdl (37 :: hd (b.toNat / 16) :: hd (b.toNat % 16) :: esc (t - 1) r) = b :: r
      rw [pdl_hex rfl (by rw [(hd_hex (show b.toNat / 16 < 16 by omega)).1, (hd_hex (show b.toNat % 16 < 16 by omega)).1]; rfl), ih, three_back]
    · rename_i hm
      show pdl (b :: esc (t - 1) r) = b :: r
      by_cases hc : b.toNat = 37
      · have h2 : hex2 r = false := by
          cases e : hex2 r
          · rfl
          · exfalso; apply hm; unfold must; rw [e, hc]; simp
        rw [pdl_lone (esc_hex2 _ _ h2), ih]
      · rw [pdl_plain hc, ih]

/-- one byte on -/
theorem esc_at {zs : List UInt8} {t p : Nat} {b : UInt8} (h : zs[p]? = some b) : esc (t - p) (zs.drop p) = (if must (t - p) b (zs.drop (p + 1)) = true then three b else [b]) ++ esc (t - (p + 1)) (zs.drop (p + 1)) := by
  have hk := (List.getElem?_eq_some_iff.1 h).1
  rw [List.drop_eq_getElem_cons hk, (List.getElem?_eq_some_iff.1 h).2, Nat.sub_add_eq]
  rfl
theorem esc_end (t : Nat) {zs : List UInt8} {p : Nat} (h : zs.length ≤ p) : esc t (zs.drop p) = [] := by
  rw [List.drop_eq_nil_of_le h]
  cases t <;> rfl
theorem hex2_drop {zs : List UInt8} {p : Nat} {a b : UInt8} (h1 : zs[p]? = some a) (h2 : zs[p + 1]? = some b) : hex2 (zs.drop p) = (isHex a && isHex b) := by
  have k1 := (List.getElem?_eq_some_iff.1 h1).1
  have k2 := (List.getElem?_eq_some_iff.1 h2).1
  rw [List.drop_eq_getElem_cons k1, (List.getElem?_eq_some_iff.1 h1).2, List.drop_eq_getElem_cons k2, (List.getElem?_eq_some_iff.1 h2).2]
  rfl
theorem hex2_short {zs : List UInt8} {p : Nat} (h : zs.length ≤ p + 1) : hex2 (zs.drop p) = false := by
  have hl : (zs.drop p).length ≤ 1 := by rw [List.length_drop]; omega
  match hz : zs.drop p, hl with
  | [], _ => rfl
  | [a], _ => rfl
  | a :: b :: r, hl => simp at hl
end Go.Proofs.YtfimnjdfchdldaaFmt.PE
