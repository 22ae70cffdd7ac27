/-
  An argument that is a slice of one-cell values (strings, bools), opened. Conditions: none.
-/
import Derived.Test.YtcmajdimggdkoaaFmtStr
import Derived.ProofKit
import Derived.Deep.Slices
namespace Go.Proofs.YtcmajdimggdkoaaFmt
open Go.RowKit Go.ChangeShapes Go.WideShapes Go.ChangeAt

section
variable {H : Type} {enc : TypeId × Value → H} {P : Program} {w : World} {base : Nat} {spare : Nat → Bool} {held : Bool}
theorem open_rdv {r : Reach} {b0 : Nat} {t e : TypeId} {v : Value} {d : DataW H} {p : List MemPlace} (ht : P.underlying t = some (.slice e)) (hc : P.cellsOf e = 1)
    (hv : Value.okWide P w r b0 t v) (h : DataW.Trod enc P w base spare held t v d p) {α : Type} (mk : α → Value)
    (hmk : ∀ (n : Nat) (u : Value) (y : DataW H × List MemPlace), DataW.trod enc P w base spare held n e [u] = some y → ∃ x, u = mk x) :
    ∃ (A : Option Addr) (n c : Nat) (xs : List α), v = .slice A n c ∧ RdV w w.heap.size A n (xs.map mk) ∧ n ≤ c ∧ c ≤ maxLen := by
  obtain ⟨a, len, cap, rfl⟩ := okWide_slice ht hv
  obtain ⟨fuel, hf⟩ := h
  rcases Go.Deep.open_slice1 ht hc hf with ⟨hcs, _⟩ | ⟨a', len', cap', m, n, V, D, Pl, hcs, _, hl, hm, hmm, _, hx⟩
  · simp [Value.cells] at hcs
    obtain ⟨rfl, rfl, rfl⟩ := hcs
    exact ⟨none, 0, 0, [], rfl, ⟨rfl, fun h => absurd h (by omega)⟩, Nat.le_refl _, Nat.zero_le _⟩
  · simp [Value.cells] at hcs
    obtain ⟨rfl, rfl, rfl⟩ := hcs
    have hlm : len ≤ m := by rw [hmm]; split <;> omega
    have hall : ∀ i : Fin len, ∃ x, V i = mk x := fun i => hmk n (V i) _ (hx i (by omega)).2
    refine ⟨some a', len, cap, (List.finRange len).map fun i => Classical.choose (hall i), rfl, ⟨by simp, fun hn => ?_⟩, hl, hm⟩
    have h0 := (hx 0 (by omega)).1
    have hs := World.cell?_spot h0
    have hb := World.block_lt_of_cell? w _ h0
    obtain ⟨b, off, sp⟩ := a'
    have hsp : sp = none := by simpa [Addr.add] using hs
    subst hsp
    rw [addr_add0] at hb
    refine ⟨b, off, rfl, hb, fun j u hu => ?_⟩
    have hj : j < len := by
      have := (List.getElem?_eq_some_iff.1 hu).1
      simpa using this
    have h1 := (hx j (by omega)).1
    rw [addr_add0] at h1
    rw [h1]
    have e : ((List.finRange len).map fun i => Classical.choose (hall i))[j]? = some (Classical.choose (hall ⟨j, hj⟩)) := by
      rw [List.getElem?_map, List.getElem?_eq_getElem (by simpa using hj)]
      simp
    rw [List.getElem?_map, e] at hu
    have hc := Classical.choose_spec (hall ⟨j, hj⟩)
    simp only [Option.map_some, Option.some.injEq] at hu
    rw [← hu, ← hc]

theorem mk_string {t : TypeId} (ht : P.underlying t = some .string) (n : Nat) (u : Value) (y : DataW H × List MemPlace) (h : DataW.trod enc P w base spare held n t [u] = some y) : ∃ s, u = Value.string s := by
  obtain ⟨s, hs, _⟩ := DataW.trod_string ht h
  exact ⟨s, by simpa using hs⟩
theorem mk_bool {t : TypeId} (ht : P.underlying t = some .bool) (n : Nat) (u : Value) (y : DataW H × List MemPlace) (h : DataW.trod enc P w base spare held n t [u] = some y) : ∃ b, u = Value.bool b := by
  obtain ⟨s, hs, _⟩ := DataW.trod_bool ht h
  exact ⟨s, by simpa using hs⟩
end
end Go.Proofs.YtcmajdimggdkoaaFmt
