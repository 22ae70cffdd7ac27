/-
  Plain mathematics of a joiner: where a needle stands in a text; pieces that tile a text. Conditions: none.
-/
namespace Go.Proofs.Ytpfnonkcjlfibaa.JM

def occ (h n : List UInt8) (i : Nat) : Bool := (h.drop i).take n.length == n
def hasSub (h n : List UInt8) : Bool := (List.range (h.length + 1 - n.length)).any (occ h n)

theorem hasSub_yes {h n : List UInt8} {i : Nat} (hi : i + n.length ≤ h.length) (ho : occ h n i = true) : hasSub h n = true := by
  unfold hasSub
  rw [List.any_eq_true]
  exact ⟨i, by simp; omega, ho⟩
theorem hasSub_no {h n : List UInt8} (hn : ∀ i, i + n.length ≤ h.length → occ h n i = false) : hasSub h n = false := by
  unfold hasSub
  rw [List.any_eq_false]
  intro i hi
  simp at hi
  rw [hn i (by omega)]
  simp
theorem hasSub_at {h n : List UInt8} (hh : hasSub h n = true) : ∃ i, i + n.length ≤ h.length ∧ (h.drop i).take n.length = n := by
  unfold hasSub at hh
  rw [List.any_eq_true] at hh
  obtain ⟨i, hi, ho⟩ := hh
  have ho' : (h.drop i).take n.length = n := by simpa [occ] using ho
  have hl := congrArg List.length ho'
  simp at hi hl
  exact ⟨i, by omega, ho'⟩
theorem occ_iff {h n : List UInt8} {i : Nat} (_hi : i + n.length ≤ h.length) : occ h n i = true ↔ ∀ j x, n[j]? = some x → h[i + j]? = some x := by
  unfold occ
  rw [beq_iff_eq]
  constructor
  · intro e j x hx
    have hj := (List.getElem?_eq_some_iff.1 hx).1
    rw [← e, List.getElem?_take, if_pos hj, List.getElem?_drop] at hx
    exact hx
  · intro e
    apply List.ext_getElem?
    intro j
    by_cases hj : j < n.length
    · rw [List.getElem?_take, if_pos hj, List.getElem?_drop]
      have := e j n[j] (List.getElem?_eq_getElem hj)
      rw [this, List.getElem?_eq_getElem hj]
    · rw [List.getElem?_eq_none (by rw [List.length_take]; omega), List.getElem?_eq_none (by omega)]
theorem occ_no {h n : List UInt8} {i j : Nat} {x y : UInt8} (hi : i + n.length ≤ h.length) (hx : h[i + j]? = some x) (hy : n[j]? = some y) (hne : x ≠ y) : occ h n i = false := by
  cases ho : occ h n i with
  | false => rfl
  | true =>
    have := (occ_iff hi).1 ho j y hy
    rw [hx] at this
    exact absurd (Option.some.inj this) hne

/-- a piece of the text C stands at o -/
def Fits (C : List UInt8) (d : List UInt8) (o : Nat) : Prop := o + d.length ≤ C.length ∧ ∀ j x, d[j]? = some x → C[o + j]? = some x

theorem Fits.last (C d : List UInt8) : Fits (C ++ d) d C.length := by
  refine ⟨by simp, fun j x hx => ?_⟩
  rw [List.getElem?_append_right (by omega)]
  simpa using hx
theorem Fits.more {C d : List UInt8} {o : Nat} (h : Fits C d o) (e : List UInt8) : Fits (C ++ e) d o := by
  refine ⟨by rw [List.length_append]; have := h.1; omega, fun j x hx => ?_⟩
  have hj := (List.getElem?_eq_some_iff.1 hx).1
  rw [List.getElem?_append_left (by have := h.1; omega)]
  exact h.2 j x hx

/-- the pieces ds (each with its place) make up C -/
def Tile (C : List UInt8) (ds : List (List UInt8 × Nat)) : Prop :=
  (∀ p ∈ ds, Fits C p.1 p.2) ∧ ∀ i, i < C.length → ∃ p ∈ ds, p.2 ≤ i ∧ i < p.2 + p.1.length

theorem Tile.nil : Tile [] [] := ⟨by simp, by simp⟩
theorem Tile.add {C : List UInt8} {ds ds' : List (List UInt8 × Nat)} {d : List UInt8} (h : Tile C ds) (hm : ∀ p, p ∈ ds' ↔ p ∈ ds ∨ p = (d, C.length)) : Tile (C ++ d) ds' := by
  refine ⟨fun p hp => ?_, fun i hi => ?_⟩
  · rcases (hm p).1 hp with hp | rfl
    · exact (h.1 p hp).more d
    · exact Fits.last C d
  · by_cases hC : i < C.length
    · obtain ⟨p, hp, h1, h2⟩ := h.2 i hC
      exact ⟨p, (hm p).2 (.inl hp), h1, h2⟩
    · rw [List.length_append] at hi
      exact ⟨(d, C.length), (hm _).2 (.inr rfl), by omega, by simp; omega⟩

/-- one piece that makes up the whole text from its start -/
theorem Tile.one {C d : List UInt8} (h : Tile C [(d, 0)]) : d = C := by
  have hf := h.1 (d, 0) (by simp)
  have hl : d.length = C.length := by
    have h1 := hf.1
    simp at h1
    rcases Nat.lt_or_ge d.length C.length with hlt | hge
    · obtain ⟨p, hp, _, h2⟩ := h.2 d.length hlt
      simp at hp
      subst hp
      simp at h2
    · omega
  apply List.ext_getElem?
  intro j
  by_cases hj : j < d.length
  · have := hf.2 j d[j] (List.getElem?_eq_getElem hj)
    simp at this
    rw [List.getElem?_eq_getElem hj, this]
  · rw [List.getElem?_eq_none (by omega), List.getElem?_eq_none (by omega)]

/-- buf agrees with C wherever one of the pieces has been laid -/
def Laid (C buf : List UInt8) (ds : List (List UInt8 × Nat)) : Prop := buf.length = C.length ∧ ∀ i, i < C.length → (∃ p ∈ ds, p.2 ≤ i ∧ i < p.2 + p.1.length) → buf[i]? = C[i]?

def lay (buf d : List UInt8) (o : Nat) : List UInt8 := buf.take o ++ (d ++ buf.drop (o + d.length))

theorem lay_length {buf d : List UInt8} {o : Nat} (h : o + d.length ≤ buf.length) : (lay buf d o).length = buf.length := by
  simp [lay]; omega
theorem lay_get {buf d : List UInt8} {o i : Nat} (h : o + d.length ≤ buf.length) : (lay buf d o)[i]? = if o ≤ i ∧ i < o + d.length then d[i - o]? else buf[i]? := by
  unfold lay
  by_cases h1 : i < o
  · rw [List.getElem?_append_left (by simp; omega), List.getElem?_take, if_pos h1, if_neg (by omega)]
  · rw [List.getElem?_append_right (by simp; omega)]
    have e : i - (List.take o buf).length = i - o := by simp; omega
    rw [e]
    by_cases h2 : i < o + d.length
    · rw [List.getElem?_append_left (by omega), if_pos (by omega)]
    · rw [List.getElem?_append_right (by omega), if_neg (by omega), List.getElem?_drop]
      congr 1
      omega
theorem Laid.lay {C buf d : List UInt8} {o : Nat} {ds : List (List UInt8 × Nat)} (h : Laid C buf ds) (hf : Fits C d o) : Laid C (lay buf d o) (ds ++ [(d, o)]) := by
  have hl : o + d.length ≤ buf.length := by rw [h.1]; exact hf.1
  refine ⟨by rw [lay_length hl, h.1], fun i hi hp => ?_⟩
  rw [lay_get hl]
  split
  · rename_i hin
    have hx : d[i - o]? = some (d[i - o]'(by omega)) := List.getElem?_eq_getElem _
    have := hf.2 (i - o) _ hx
    rw [show o + (i - o) = i from by omega] at this
    rw [hx, this]
  · rename_i hout
    obtain ⟨p, hp, h1, h2⟩ := hp
    rw [List.mem_append, List.mem_singleton] at hp
    rcases hp with hp | rfl
    · exact h.2 i hi ⟨p, hp, h1, h2⟩
    · exact absurd ⟨h1, h2⟩ hout
theorem Laid.start (C : List UInt8) (buf : List UInt8) (h : buf.length = C.length) : Laid C buf [] := ⟨h, fun i _ ⟨p, hp, _⟩ => by simp at hp⟩
theorem Laid.done {C buf : List UInt8} {ds ds' : List (List UInt8 × Nat)} (h : Laid C buf ds) (ht : Tile C ds') (hs : ∀ p ∈ ds', p ∈ ds) : buf = C := by
  apply List.ext_getElem?
  intro i
  by_cases hi : i < C.length
  · obtain ⟨p, hp, h1, h2⟩ := ht.2 i hi
    exact h.2 i hi ⟨p, hs p hp, h1, h2⟩
  · rw [List.getElem?_eq_none (by have := h.1; omega), List.getElem?_eq_none (by omega)]

/-- a needle that stands in a piece stands in the text -/
theorem hasSub_piece {C d n : List UInt8} {o : Nat} (hf : Fits C d o) (h : hasSub d n = true) : hasSub C n = true := by
  obtain ⟨i, hi, he⟩ := hasSub_at h
  have ho : occ d n i = true := by unfold occ; rw [he]; simp
  have h1 := (occ_iff hi).1 ho
  have h2 : o + i + n.length ≤ C.length := by have := hf.1; omega
  refine hasSub_yes (i := o + i) h2 ((occ_iff h2).2 fun j x hx => ?_)
  have := hf.2 (i + j) x (h1 j x hx)
  rw [← this, Nat.add_assoc]
end Go.Proofs.Ytpfnonkcjlfibaa.JM
