/-
  Append to a byte slice made by '[]byte(s)': its row bears a mark behind its last place. Conditions: none.
-/
import Derived.Test.YtfimnjdfchdldaaFmtDst
namespace Go.Proofs.YtfimnjdfchdldaaFmt
open Go.RowKit

/-- the row's mark, if any, lies behind its places -/
def Mk (fz : Nat × Nat) (n : Nat) : Prop := fz = (0, 0) ∨ n ≤ fz.1
/-- v is a byte slice of the call's own that holds the bytes L; its row may bear a mark behind its last place -/
def OwnM (w : World) (base : Nat) (v : Value) (L : List UInt8) : Prop :=
  ∃ g cap cur fz, v = .slice (some ⟨g, 0, none⟩) L.length cap ∧ base ≤ g ∧ w.heap[g]? = some (.cells cur 5 fz) ∧ Mk fz cur.size ∧ L.length ≤ cap ∧ cap ≤ maxLen ∧ cur.size = cap ∧ cur.toList.take L.length = L.map bv

theorem Mk.free {fz : Nat × Nat} {n j : Nat} {w : World} {g : Nat} {cur : Array Value} {t : TypeId} (h : Mk fz n) (hg : w.heap[g]? = some (.cells cur t fz)) (hj : j < n) : w.frozen? ⟨g, j, none⟩ = false := by
  obtain ⟨lo, hi⟩ := fz
  simp only [World.frozen?, hg, Bool.and_eq_false_iff, decide_eq_false_iff_not]
  rcases h with h | h
  · cases h
    right
    omega
  · left
    simp only at h
    omega

theorem storeCells_mk (P : Program) (g o : Nat) (t : TypeId) (fz : Nat × Nat) : ∀ (vs : List Value) (i : Nat) (cur : Array Value) (w : World), w.heap[g]? = some (.cells cur t fz) → Mk fz cur.size → o + i + vs.length ≤ cur.size → (∀ v ∈ vs, v.oneCell' = true) →
    (storeCells ⟨g, o, none⟩ vs i).run P w = .ok () (w.setRow g (cur.toList.take (o + i) ++ vs ++ cur.toList.drop (o + i + vs.length)).toArray)
  | [], i, cur, w, hg, _, _, _ => by
    simp only [storeCells, List.append_nil, List.length_nil, Nat.add_zero, List.take_append_drop, Array.toArray_toList]
    rw [setRow_self w g cur t fz hg]
    rfl
  | v :: rest, i, cur, w, hg, hfz, hl, h1 => by
    have hi : o + i < cur.size := by simp at hl; omega
    have hcell : w.cell? ⟨g, o + i, none⟩ = some cur[o + i] := by simp [World.cell?, hg, hi]
    have hfro := hfz.free hg hi
    have hst : (store ((⟨g, o, none⟩ : Addr).add i) v).run P w = .ok () (w.setRow g (cur.setIfInBounds (o + i) v)) := by
      rw [addr_add0, run_store P w _ v _ (h1 v (by simp)), hcell]
      simp [hfro, setCell_eq_setRow w g (o + i) cur t fz v hg]
    have ih := storeCells_mk P g o t fz rest (i + 1) (cur.setIfInBounds (o + i) v) (w.setRow g (cur.setIfInBounds (o + i) v)) (setRow_heap w g cur _ t _ hg) (by simpa using hfz) (by simp at hl ⊢; omega) (fun x hx => h1 x (by simp [hx]))
    simp only [storeCells, Sem.run_bind, hst, Result.andThen_ok, ih, setRow_setRow]
    congr 3
    have e := list_seg_step cur.toList (o + i) v rest (by simp at hl ⊢; omega)
    simpa [Array.toList_setIfInBounds, Nat.add_assoc] using e

section
variable {P : Program} {w : World}
theorem OwnM.cells {base : Nat} {A : Addr} {n c : Nat} {L : List UInt8} (h : OwnM w base (.slice (some A) n c) L) : ∀ j u, (L.map bv)[j]? = some u → w.cell? (A.add j) = some u := by
  obtain ⟨g, cap, cur, fz, hv, hb, hg, hm, hn, hc, hs, ht⟩ := h
  cases hv
  intro j u hu
  rw [addr_add0, Nat.zero_add, cell_of_row w g j cur 5 fz hg]
  rw [← ht, List.getElem?_take] at hu
  split at hu
  · simpa using hu
  · cases hu
theorem OwnM.rd {base : Nat} {v : Value} {L : List UInt8} (h : OwnM w base v L) : ∃ A c, v = .slice A L.length c ∧ L.length ≤ c ∧ Rd w w.heap.size A L.length L := by
  have h' := h
  obtain ⟨g, cap, cur, fz, rfl, hb, hg, hm, hn, hc, hs, ht⟩ := h
  refine ⟨_, cap, rfl, hn, rfl, fun _ => ⟨g, 0, rfl, (Array.getElem?_eq_some_iff.1 hg).1, fun j x hx => ?_⟩⟩
  have := h'.cells j (bv x) (by rw [List.getElem?_map, hx]; rfl)
  rw [addr_add0] at this
  exact this

/-- append of bytes from a block -/
theorem run_append_mk (E : ElemT P 39 5 (.int .u8 0) 1 1) (base : Nat) (ty : TypeId) (v : Value) (L : List UInt8) (h : OwnM w base v L) (ad : Addr) (m c : Nat) (zs : List UInt8) (hl : zs.length = m) (hz : ∀ j x, zs[j]? = some x → w.cell? (ad.add j) = some (bv x))
    (hn : L.length + m < 4294967296) (hbase : base ≤ w.heap.size) :
    ∃ v' w', (Builtin.append_ #[39, 39] ty #[v, .slice (some ad) m c]).run P w = .ok v' w' ∧ OwnM w' base v' (L ++ zs) ∧ w.grownBy w' v.ownBlock := by
  obtain ⟨i, hi, hz0, hz1, hz2⟩ := info_parts E.info
  have h' := h
  obtain ⟨g, cap, cur, fz, rfl, hb, hg, hm, hnc, hcm, hs, ht⟩ := h
  have hnews : ∀ j u, (zs.map bv)[j]? = some u → w.cell? (ad.add j) = some u := fun j u hu => by
    rw [List.getElem?_map, Option.map_eq_some_iff] at hu
    obtain ⟨x, hx, rfl⟩ := hu
    exact hz j x hx
  have h1 : ∀ u ∈ zs.map bv, u.oneCell' = true := fun u hu => by
    obtain ⟨_, _, rfl⟩ := List.mem_map.1 hu
    rfl
  have hll : (L ++ zs).length = L.length + m := by rw [List.length_append, hl]
  by_cases hroom : L.length + m ≤ cap
  · have hst := storeCells_mk P g L.length 5 fz (zs.map bv) 0 cur w hg hm (by simp; omega) h1
    have hf := run_firstCells_some (P := P) w i.size m ad m c (zs.map bv) (by simp [hl, hz1]) hnews
    rw [hz1] at hf
    rw [Nat.add_zero] at hst
    have hrun : (Builtin.append_ #[39, 39] ty #[.slice (some ⟨g, 0, none⟩) L.length cap, .slice (some ad) m c]).run P w = .ok (.slice (some ⟨g, 0, none⟩) (L.length + m) cap) (w.setRow g (cur.toList.take L.length ++ zs.map bv ++ cur.toList.drop (L.length + (zs.map bv).length)).toArray) := by
      generalize (cur.toList.take L.length ++ zs.map bv ++ cur.toList.drop (L.length + (zs.map bv).length)).toArray = R at hst
      simp [Builtin.append_, run_underlying E.under, sizeOf, typeInfo, hi, hz1, Builtin.lenOf, hroom, Addr.add_lit]
      rw [hf]
      simp only [Result.andThen, hst]
    have hsz : (cur.toList.take L.length ++ zs.map bv ++ cur.toList.drop (L.length + (zs.map bv).length)).toArray.size = cur.size := by
      simp only [List.size_toArray, List.length_append, List.length_take, List.length_drop, Array.length_toList, List.length_map]
      omega
    refine ⟨_, _, hrun, ⟨g, cap, _, fz, by rw [hll], hb, setRow_heap w g cur _ 5 _ hg, by rw [hsz]; exact hm, by omega, hcm, by rw [hsz]; exact hs, ?_⟩, ⟨rfl, rfl, rfl, by simp, fun k _ hk => setRow_other w g k _ (fun e => hk (by simp [Value.ownBlock, e]))⟩⟩
    rw [ht, hll, ← List.map_append]
    have e : (List.map bv (L ++ zs)).length = L.length + m := by rw [List.length_map, hll]
    rw [← e]
    exact List.take_left
  · have holds := h'.cells
    have hr := run_append_grow (P := P) w 39 ty 5 i (.int .u8 0) E.under hi hz0 ⟨g, 0, none⟩ L.length cap (L.map bv) (by simp [hz1]) holds ad m c (zs.map bv) (by simp [hl, hz1]) hnews (by omega) (by omega) (growslice_fits (by omega) (by rw [hz2]; omega))
    have hge := grownCap_ge w (L.length + m) cap 5
    have hcm2 : grownCap w (L.length + m) cap 5 ≤ maxLen := grownCap_le_maxLen w (L.length + m) cap 5 (by unfold maxLen; omega)
    have hz1' : (Value.int IntKind.u8 0).cells.size = 1 := rfl
    refine ⟨_, _, hr, ⟨w.heap.size, _, _, (0, 0), by rw [hll], hbase, heap_alloc_new w.drew _, .inl rfl, by omega, hcm2, ?_, ?_⟩, ⟨rfl, rfl, rfl, by simp, fun k hk _ => Below.heap_alloc w.drew _ k hk⟩⟩
    · simp only [Array.size_append, List.size_toArray, size_zeroCells, hz1', List.length_map]
      omega
    · simp only [Array.toList_append, List.append_assoc]
      rw [← List.append_assoc, ← List.map_append]
      have e : (List.map bv (L ++ zs)).length = L.length + m := by rw [List.length_map, hll]
      rw [hll, ← e]
      exact List.take_left
end

section
variable {P : Program} {ops : Array Oper} {rest : List Oper} {o : Oper} {a : Act} {Q : Exit → Act → World → Prop} {w : World}
/-- 'append(out, x, y, ..)': the operands lie in the block that was made last -/
theorem wpList_push_mk (E : ElemT P 39 5 (.int .u8 0) 1 1) (hgd : o.guard = none) (s x : Operand) (ho : o.op = .call { callee := .builtin .append, args := #[s, x], argTypes := #[39, 39] })
    {base : Nat} {v : Value} {L : List UInt8} (hown : OwnM w base v L) (hs : a.eval s = v) (zs : List UInt8) (cs : Array Value) (hcs : cs = (zs.map bv).toArray) (m : Nat) (hm : zs.length = m)
    (hx : a.eval x = .slice (some ⟨w.heap.size, 0, none⟩) m m) (hn : L.length + m < 4294967296) (hbase : base ≤ w.heap.size)
    (h : ∀ v' w', OwnM w' base v' (L ++ zs) → w.grownBy w' v.ownBlock → wpList P ops Q rest (a.put o.dst v') w') : wpList P ops Q (o :: rest) a (w.alloc (.cells cs 5)) := by
  have hown' : OwnM (w.alloc (.cells cs 5)) base v L := by
    obtain ⟨g, cap, cur, fz, hv, hb, hg, r⟩ := hown
    exact ⟨g, cap, cur, fz, hv, hb, (Below.heap_alloc w _ g (Array.getElem?_eq_some_iff.1 hg).1).trans hg, r⟩
  obtain ⟨v', w', hr, h2, h3⟩ := run_append_mk E base o.type v L hown' ⟨w.heap.size, 0, none⟩ m m zs hm (fun j y hy => by
    rw [addr_add0, World.cell?_alloc_at _ _ _ _ rfl, hcs, List.getElem?_toArray, Nat.zero_add, List.getElem?_map, hy]
    rfl) hn (by simp; omega)
  refine wpList_plain hgd fun K hK => ?_
  unfold Oper.wp execOp
  simp only [ho, resolve, invoke, builtin, Sem.run_bind, Sem.run_pure, Result.andThen_ok, List.map_toArray, List.map_cons, List.map_nil, hs, hx, hr]
  exact hK _ _ (h v' w' h2 ⟨h3.os, h3.tape, h3.output, Nat.le_trans (by simp) h3.size, fun k hk hne => (h3.block k (by simp; omega) hne).trans (Below.heap_alloc _ _ _ hk)⟩)

/-- '[]byte(s)', to be written on -/
theorem wpList_bytes_mk (hgd : o.guard = none) (x : Operand) (ho : o.op = Op.convert 9 39 x) (s : ByteArray) (hs : a.eval x = .string s) (hsz : s.size < 4294967296)
    (h1 : P.underlying 9 = some .string) (h2 : P.underlying 39 = some (.slice 5)) (h3 : P.underlying 5 = some (.int .u8))
    (h : ∀ v w', OwnM w' w.heap.size v s.data.toList → Below w.heap.size w w' → w'.heap.size = w.heap.size + 1 → wpList P ops Q rest (a.put o.dst v) w') : wpList P ops Q (o :: rest) a w := by
  refine wpList_plain hgd fun K hK => ?_
  have hrun := Lib.run_convert_string_bytes (P := P) w 9 39 5 s h1 h2 h3
  have hge := grownCap_ge w s.size 0 5
  have hcm : grownCap w s.size 0 5 ≤ maxLen := grownCap_le_maxLen w s.size 0 5 (by unfold maxLen; omega)
  have hbs : (Lib.bytesCells w 5 s).size = grownCap w s.size 0 5 := by
    unfold Lib.bytesCells
    rw [Array.size_append, Array.size_map, Array.size_replicate]
    have : s.data.size = s.size := rfl
    omega
  unfold Oper.wp
  simp [execOp, ho, hs, hrun, Result.andThen]
  refine hK _ _ (h _ _ ⟨w.heap.size, grownCap w s.size 0 5, _, _, by rw [ba_len], Nat.le_refl _, Lib.bytesWorld_at_new w 5 s, .inr (Nat.le_refl _), by rw [ba_len]; exact hge, hcm, hbs, ?_⟩ ?_ (Lib.bytesWorld_size w 5 s))
  · unfold Lib.bytesCells
    rw [Array.toList_append, Array.toList_map, ← List.length_map (f := fun b : UInt8 => Value.int .u8 (b.toNat : Int)), List.take_left]
    rfl
  · exact ⟨by simp [Lib.bytesWorld, World.freeze]; rfl, by simp [Lib.bytesWorld, World.freeze], by simp [Lib.bytesWorld, World.freeze]; rfl, by rw [Lib.bytesWorld_size]; omega, fun k hk => Lib.bytesWorld_at_old w 5 s k hk⟩
end
end Go.Proofs.YtfimnjdfchdldaaFmt
