/-
  Blocks of known cells; byte slices that lie in a block of bytes. Conditions: none.
-/
import Derived.Test.YtfimnjdfchdldaaFmtMem
import Derived.Test.YtfimnjdfchdldaaFmtRows
import Derived.WalkKit
import Derived.Lib.ConvBytes
namespace Go.Proofs.YtfimnjdfchdldaaFmt
open Go.RowKit

/-- block g is just the cells cs of element type t, none frozen -/
def Blk (w : World) (g : Nat) (t : TypeId) (cs : Array Value) : Prop := w.heap[g]? = some (.cells cs t (0, 0))

section
variable {w w' : World} {g : Nat} {t : TypeId} {cs : Array Value}
theorem Blk.lt (h : Blk w g t cs) : g < w.heap.size := by
  rcases Nat.lt_or_ge g w.heap.size with hlt | hge
  · exact hlt
  · unfold Blk at h; rw [Array.getElem?_eq_none hge] at h; cases h
theorem Blk.cell (h : Blk w g t cs) (i : Nat) : w.cell? ⟨g, i, none⟩ = cs[i]? := cell_of_row w g i cs t (0, 0) h
theorem Blk.frozen (h : Blk w g t cs) (i : Nat) : w.frozen? ⟨g, i, none⟩ = false := by
  unfold Blk at h
  simp [World.frozen?, h]
theorem Blk.new (w : World) (t : TypeId) (cs : Array Value) : Blk (w.alloc (.cells cs t)) w.heap.size t cs := heap_alloc_new w _
theorem Blk.alloc (h : Blk w g t cs) (o : Obj) : Blk (w.alloc o) g t cs := (Below.heap_alloc w o g h.lt).trans h
theorem Blk.put (h : Blk w g t cs) (i : Nat) (u : Value) : Blk (w.setCell ⟨g, i, none⟩ u) g t (cs.setIfInBounds i u) := by
  unfold Blk at h ⊢
  simp [World.setCell, Array.getElem?_modify, h]
theorem Blk.far (h : Blk w g t cs) {p : Addr} (hp : g ≠ p.block) (u : Value) : Blk (w.setCell p u) g t cs := (Below.heap_setCell w p u g hp).trans h
theorem Blk.below {B : Nat} (h : Blk w g t cs) (hb : Below B w w') (hg : g < B) : Blk w' g t cs := (hb.block g hg).trans h
theorem Blk.grown {row : Option Nat} (h : Blk w g t cs) (hb : w.grownBy w' row) (hg : some g ≠ row) : Blk w' g t cs := (hb.block g h.lt hg).trans h
theorem own_blk_ne {base : Nat} {e : TypeId} {size n : Nat} {v : Value} {xs : List Value} (h : w.ownsRow base e size v n xs) {fr : Nat × Nat} (hg : w.heap[g]? = some (.cells cs t fr)) (hne : e ≠ t) : v.ownBlock ≠ some g := by
  rcases h.2 with ⟨rfl, _⟩ | ⟨g', cap, cur, rfl, _, hh, _⟩
  · simp [Value.ownBlock]
  · intro he
    have : g' = g := by simpa [Value.ownBlock] using he
    subst this
    rw [hh] at hg
    injection hg with hg
    injection hg with _ ht
    exact hne ht
theorem own_own_ne {base base' : Nat} {e e' : TypeId} {size size' n n' : Nat} {v v' : Value} {xs xs' : List Value} (h : w.ownsRow base e size v n xs) (h' : w.ownsRow base' e' size' v' n' xs') (hne : e ≠ e') : v.ownBlock = none ∨ v.ownBlock ≠ v'.ownBlock := by
  rcases h'.2 with ⟨rfl, _⟩ | ⟨g', cap, cur, rfl, _, hh, _⟩
  · rcases h.2 with ⟨rfl, _⟩ | ⟨g, cap, cur, rfl, _, hh, _⟩
    · exact .inl rfl
    · exact .inr (by simp [Value.ownBlock])
  · exact .inr (own_blk_ne h hh hne)
end

/-- the blocks of element type t are kept -/
def Keep (t : TypeId) (w w' : World) : Prop := ∀ (b : Nat) (cs : Array Value) (fr : Nat × Nat), w.heap[b]? = some (.cells cs t fr) → w'.heap[b]? = some (.cells cs t fr)
section
variable {t : TypeId} {a w w' : World}
theorem Keep.refl (t : TypeId) (w : World) : Keep t w w := fun _ _ _ h => h
theorem Keep.trans (h : Keep t a w) (h' : Keep t w w') : Keep t a w' := fun b cs fr hb => h' b cs fr (h b cs fr hb)
theorem Keep.drew (h : Keep t a w) : Keep t a w.drew := h
theorem Keep.alloc (h : Keep t a w) (o : Obj) : Keep t a (w.alloc o) := fun b cs fr hb => by
  have := h b cs fr hb
  exact (Below.heap_alloc w o b (Array.getElem?_eq_some_iff.1 this).1).trans this
theorem Keep.grown (h : Keep t a w) {row : Option Nat} (hg : w.grownBy w' row) (hr : ∀ (b : Nat) (cs : Array Value) (fr : Nat × Nat), w.heap[b]? = some (.cells cs t fr) → row ≠ some b) : Keep t a w' := fun b cs fr hb => by
  have := h b cs fr hb
  exact (hg.block b (Array.getElem?_eq_some_iff.1 this).1 (fun e => hr b cs fr this e.symm)).trans this
theorem Keep.setCell (h : Keep t a w) {p : Addr} {u : Value} (hp : ∀ (cs : Array Value) (fr : Nat × Nat), w.heap[p.block]? ≠ some (.cells cs t fr)) : Keep t a (w.setCell p u) := fun b cs fr hb => by
  have := h b cs fr hb
  exact (Below.heap_setCell w p u b (fun e => hp cs fr (by rw [← e]; exact this))).trans this
theorem Keep.below (h : Below a.heap.size a w) : Keep t a w := fun b _ _ hb => (h.block b (Array.getElem?_eq_some_iff.1 hb).1).trans hb
end

/-- a byte slice that reads as zs, in a block of bytes -/
def RdT (w : World) (A : Option Addr) (n : Nat) (zs : List UInt8) : Prop :=
  zs.length = n ∧ (0 < n → ∃ b off cs fr, A = some ⟨b, off, none⟩ ∧ w.heap[b]? = some (.cells cs 5 fr) ∧ ∀ j x, zs[j]? = some x → cs[off + j]? = some (.int .u8 (x.toNat : Int)))
section
variable {w w' : World} {A : Option Addr} {n : Nat} {zs : List UInt8}
theorem RdT.rd (h : RdT w A n zs) : Rd w w.heap.size A n zs := ⟨h.1, fun hn => by
  obtain ⟨b, off, cs, fr, e, hb, hc⟩ := h.2 hn
  exact ⟨b, off, e, (Array.getElem?_eq_some_iff.1 hb).1, fun j x hx => (cell_of_row w b (off + j) cs 5 fr hb).trans (hc j x hx)⟩⟩
theorem RdT.keep (h : RdT w A n zs) (hk : Keep 5 w w') : RdT w' A n zs := ⟨h.1, fun hn => by
  obtain ⟨b, off, cs, fr, e, hb, hc⟩ := h.2 hn
  exact ⟨b, off, cs, fr, e, hk _ _ _ hb, hc⟩⟩
end

theorem below_grownBy {a w : World} (h : Below a.heap.size a w) : a.grownBy w none := ⟨h.os, h.tape, h.output, h.size, fun k hk _ => h.block k hk⟩
theorem below_drewN {B : Nat} {a w : World} (h : Below B a w) (n : Nat) : Below B a (w.drewN n) := ⟨h.os, h.tape, h.output, h.size, h.block⟩
end Go.Proofs.YtfimnjdfchdldaaFmt
