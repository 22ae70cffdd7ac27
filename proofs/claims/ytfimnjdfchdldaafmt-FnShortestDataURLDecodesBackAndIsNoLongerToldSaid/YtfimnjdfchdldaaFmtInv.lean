/-
  Plain mathematics of the escaping loop. Conditions: none.
-/
import Derived.Test.YtfimnjdfchdldaaFmtEsc
namespace Go.Proofs.YtfimnjdfchdldaaFmt.PE

/-- what the loop keeps: X is written, the bytes from r to i are to be written as they stand -/
def Inv (P zs X : List UInt8) (r i : Nat) : Prop := X ++ ((zs.take i).drop r ++ esc (ts zs - i) (zs.drop i)) = P ++ esc (ts zs) zs
theorem Inv.start (P zs : List UInt8) : Inv P zs P 0 0 := by simp [Inv]
theorem drop_snoc {zs : List UInt8} {r i : Nat} {x : UInt8} (hx : zs[i]? = some x) (hr : r ≤ i) : (zs.take (i + 1)).drop r = (zs.take i).drop r ++ [x] := by
  have hi := (List.getElem?_eq_some_iff.1 hx).1
  rw [List.take_add_one, hx]
  show (zs.take i ++ [x]).drop r = _
  rw [List.drop_append_of_le_length (by rw [List.length_take]; omega)]
theorem Inv.plain {P zs X : List UInt8} {r i : Nat} {x : UInt8} (h : Inv P zs X r i) (hx : zs[i]? = some x) (hr : r ≤ i) (hm : must (ts zs - i) x (zs.drop (i + 1)) = false) : Inv P zs X r (i + 1) := by
  unfold Inv at h ⊢
  rw [esc_at hx, hm] at h
  rw [drop_snoc hx hr, ← h]
  simp
theorem Inv.esc {P zs X : List UInt8} {r i : Nat} {x : UInt8} (h : Inv P zs X r i) (hx : zs[i]? = some x) (hm : must (ts zs - i) x (zs.drop (i + 1)) = true) : Inv P zs (X ++ (zs.take i).drop r ++ three x) (i + 1) (i + 1) := by
  unfold Inv at h ⊢
  rw [esc_at hx, hm] at h
  rw [List.drop_eq_nil_of_le (as := zs.take (i + 1)) (by rw [List.length_take]; omega), ← h]
  simp
theorem must_big {t : Nat} {b : UInt8} {r : List UInt8} (hb : 128 ≤ b.toNat) (ht : t ≠ 0) : must t b r = false := by
  unfold must
  rw [decide_eq_false (by omega), decide_eq_false (by omega)]
  rfl
theorem Inv.big {P zs X : List UInt8} {r : Nat} : ∀ (w i : Nat), Inv P zs X r i → r ≤ i → (∀ k, k < w → ∃ y, zs[i + k]? = some y ∧ 128 ≤ y.toNat) → Inv P zs X r (i + w)
  | 0, _, h, _, _ => h
  | w + 1, i, h, hr, hy => by
    obtain ⟨y, hy0, hyb⟩ := hy 0 (by omega)
    rw [Nat.add_zero] at hy0
    have hlt := ts_behind hy0 (by unfold blank; exact decide_eq_false (by omega))
    have h1 := h.plain hy0 hr (must_big hyb (by omega))
    have h2 := Inv.big w (i + 1) h1 (by omega) (fun k hk => by
      obtain ⟨z, hz, hb⟩ := hy (k + 1) (by omega)
      exact ⟨z, by rw [← hz]; congr 1; omega, hb⟩)
    rw [show i + (w + 1) = i + 1 + w by omega]
    exact h2
theorem Inv.done {P zs X : List UInt8} {r i : Nat} (h : Inv P zs X r i) (hi : zs.length ≤ i) : X ++ zs.drop r = P ++ PE.esc (ts zs) zs := by
  unfold Inv at h
  rw [esc_end _ hi, List.take_of_length_le hi] at h
  simpa using h
theorem Inv.length {P zs X : List UInt8} {r i : Nat} (h : Inv P zs X r i) (hr : r ≤ i) (hi : i ≤ zs.length) : X.length + (i - r) ≤ P.length + (PE.esc (ts zs) zs).length := by
  have := congrArg List.length h
  simp only [List.length_append, List.length_drop, List.length_take] at this
  omega
theorem esc_length : ∀ (zs : List UInt8) (t : Nat), (PE.esc t zs).length ≤ 3 * zs.length
  | [], t => by cases t <;> simp [PE.esc]
  | b :: r, t => by
    have := esc_length r (t - 1)
    show ((if must t b r = true then three b else [b]) ++ PE.esc (t - 1) r).length ≤ _
    rw [List.length_append, List.length_cons]
    split
    · show 3 + _ ≤ _
      omega
    · simp
      omega

/-- the bytes of a long character -/
theorem vlen_bytes {l : List UInt8} (h : 2 ≤ U8.vlen l) : ∀ k, k < U8.vlen l → ∃ y, l[k]? = some y ∧ 128 ≤ y.toNat := by
  have hne : l ≠ [] := fun e => by subst e; exact absurd h (by decide)
  have hl := U8.vlen_le l hne
  have hall : ∀ k, k < U8.vlen l → 128 ≤ U8.at_ l k := by
    have k1 := @U8.cont_iff l 1
    have k2 := @U8.cont_iff l 2
    have k3 := @U8.cont_iff l 3
    intro k hk
    unfold U8.vlen at h hk
    split at hk
    · rename_i g; rw [if_pos g] at h; omega
    rename_i g0
    rw [if_neg g0] at h
    split at hk
    · rename_i g
      have c1 := k1.1 g.2.2
      rcases (by omega : k = 0 ∨ k = 1) with rfl | rfl <;> omega
    rename_i g1
    rw [if_neg g1] at h
    split at hk
    · rename_i g
      have c1 := k1.1 g.2.2.1
      have c2 := k2.1 g.2.2.2.1
      rcases (by omega : k = 0 ∨ k = 1 ∨ k = 2) with rfl | rfl | rfl <;> omega
    rename_i g2
    rw [if_neg g2] at h
    split at hk
    · rename_i g
      have c1 := k1.1 g.2.2.1
      have c2 := k2.1 g.2.2.2.1
      have c3 := k3.1 g.2.2.2.2.1
      rcases (by omega : k = 0 ∨ k = 1 ∨ k = 2 ∨ k = 3) with rfl | rfl | rfl | rfl <;> omega
    · omega
  intro k hk
  have hkl : k < l.length := by omega
  refine ⟨l[k], List.getElem?_eq_getElem hkl, ?_⟩
  have := hall k hk
  unfold U8.at_ at this
  rw [List.getD_eq_getElem?_getD, List.getElem?_eq_getElem hkl] at this
  exact this
end Go.Proofs.YtfimnjdfchdldaaFmt.PE
