/-
  An argument that is a slice of byte slices, opened. Conditions: none.
-/
import Derived.Test.YtpfnonkcjlfibaaLParts
import Derived.ProofKit
import Derived.Deep.Matrix
namespace Go.Proofs.Ytpfnonkcjlfibaa
open Go.RowKit Go.ChangeShapes Go.WideShapes Go.ChangeAt

section
variable {H : Type} {enc : TypeId × Value → H} {P : Program} {w : World} {base : Nat} {held : Bool}
theorem open_rdp {r : Reach} {b0 : Nat} {t e q : TypeId} {v : Value} {d : DataW H} {p : List MemPlace} (ht : P.underlying t = some (.slice e)) (he : P.underlying e = some (.slice q)) (hq : P.underlying q = some (.int .u8)) (ce : P.cellsOf e = 1) (cq : P.cellsOf q = 1)
    (hv : Value.okWide P w r b0 t v) (h : DataW.Trod enc P w base (fun _ => true) held t v d p) :
    ∃ (A : Option Addr) (n c : Nat) (qs : List Part), v = .slice A n c ∧ RdP w w.heap.size A n qs ∧ n ≤ c ∧ c ≤ maxLen := by
  obtain ⟨a, len, cap, rfl⟩ := okWide_slice ht hv
  obtain ⟨fuel, hf⟩ := h
  rcases Go.Deep.open_int_rows ht he hq ce cq hf with ⟨hcs, _⟩ | ⟨a', len', cap', A, L, C, Z, hcs, _, hl, hm, _, hx⟩
  · simp [Value.cells] at hcs
    obtain ⟨rfl, rfl, rfl⟩ := hcs
    exact ⟨none, 0, 0, [], rfl, ⟨rfl, fun h => absurd h (by omega), by simp⟩, Nat.le_refl _, Nat.zero_le _⟩
  · simp [Value.cells] at hcs
    obtain ⟨rfl, rfl, rfl⟩ := hcs
    have hall : ∀ i : Fin len, ∃ bs, Rd w w.heap.size (A i) (L i) bs ∧ L i ≤ C i ∧ C i ≤ maxLen := fun i => by
      obtain ⟨_, h1, h2, h3, h4, h5, h6⟩ := hx i (by omega)
      refine rd_of_row (zs := Z i) ?_
      cases hA : A i with
      | none =>
        have h0 := h5 hA
        exact .inl ⟨rfl, by omega, h0, List.eq_nil_of_length_eq_zero (by omega)⟩
      | some x => exact .inr ⟨x, rfl, h1, h2, h3, fun j hj => (h6 x hA).2 j (by omega), h4⟩
    have hqs : ∀ q ∈ (List.finRange len).map fun i : Fin len => (⟨A i, L i, C i, Classical.choose (hall i)⟩ : Part), Rd w w.heap.size q.A q.n q.zs ∧ q.n ≤ q.c ∧ q.n ≤ maxLen := fun q hq => by
      obtain ⟨i, _, rfl⟩ := List.mem_map.1 hq
      have hc := Classical.choose_spec (hall i)
      exact ⟨hc.1, hc.2.1, Nat.le_trans hc.2.1 hc.2.2⟩
    refine ⟨some a', len, cap, (List.finRange len).map fun i : Fin len => (⟨A i, L i, C i, Classical.choose (hall i)⟩ : Part), rfl, ⟨by simp, fun hn => ?_, hqs⟩, hl, hm⟩
    have h0 := (hx 0 (by omega)).1
    have hs := World.cell?_spot h0
    have hb := World.block_lt_of_cell? w _ h0
    obtain ⟨b, off, sp⟩ := a'
    have hsp : sp = none := by simpa [Addr.add] using hs
    subst hsp
    rw [addr_add0] at hb
    refine ⟨b, off, rfl, hb, fun j u hu => ?_⟩
    have hj : j < len := by
      have := (List.getElem?_eq_some_iff.1 hu).1
      simpa using this
    have h1 := (hx j (by omega)).1
    rw [addr_add0] at h1
    rw [h1]
    have e : ((List.finRange len).map fun i : Fin len => (⟨A i, L i, C i, Classical.choose (hall i)⟩ : Part))[j]? = some ⟨A j, L j, C j, Classical.choose (hall ⟨j, hj⟩)⟩ := by
      rw [List.getElem?_map, List.getElem?_eq_getElem (by simpa using hj)]
      simp
    rw [e] at hu
    cases hu
    rfl
end
end Go.Proofs.Ytpfnonkcjlfibaa
