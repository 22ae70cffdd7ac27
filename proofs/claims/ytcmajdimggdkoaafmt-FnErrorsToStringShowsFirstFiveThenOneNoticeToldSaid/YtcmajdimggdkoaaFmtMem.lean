/-
  Words for byte slices and rows of the call's own: no program in sight. Conditions: none.
-/
import Derived.WalkKit
import Derived.Laws.OwnMore
import Derived.Laws.BytesArg
import Derived.Deep.Draws
namespace Go.Proofs.YtcmajdimggdkoaaFmt
open Go.RowKit

theorem hide {p : Prop} (h : p) : Hid p := h

/-- a byte's cell -/
def bv (b : UInt8) : Value := .int .u8 (b.toNat : Int)

theorem addr_add0 (b o j : Nat) : (⟨b, o, none⟩ : Addr).add j = ⟨b, o + j, none⟩ := by unfold Addr.add; split <;> simp_all

/-- the slice at A reads as the bytes zs; below block B -/
def Rd (w : World) (B : Nat) (A : Option Addr) (n : Nat) (zs : List UInt8) : Prop :=
  zs.length = n ∧ (0 < n → ∃ b off, A = some ⟨b, off, none⟩ ∧ b < B ∧ ∀ j x, zs[j]? = some x → w.cell? ⟨b, off + j, none⟩ = some (.int .u8 (x.toNat : Int)))

section
variable {w w' : World} {B B' n : Nat} {A : Option Addr} {zs : List UInt8}
theorem Rd.nil (w : World) (B : Nat) (A : Option Addr) : Rd w B A 0 [] := ⟨rfl, fun h => absurd h (by omega)⟩
theorem Rd.len (h : Rd w B A n zs) : zs.length = n := h.1
theorem Rd.at {k : Nat} (h : Rd w B A n zs) (hk : k < n) : ∃ b off x, A = some ⟨b, off, none⟩ ∧ b < B ∧ zs[k]? = some x ∧ w.cell? ⟨b, off + k, none⟩ = some (.int .u8 (x.toNat : Int)) := by
  obtain ⟨b, off, e, hb, hc⟩ := h.2 (by omega)
  have hl : k < zs.length := by have := h.1; omega
  exact ⟨b, off, zs[k], e, hb, List.getElem?_eq_getElem hl, hc k _ (List.getElem?_eq_getElem hl)⟩
theorem Rd.all (h : Rd w B A n zs) (hk : 0 < n) : ∃ b off, A = some ⟨b, off, none⟩ ∧ b < B ∧ ∀ j x, zs[j]? = some x → w.cell? ⟨b, off + j, none⟩ = some (.int .u8 (x.toNat : Int)) := h.2 hk
theorem Rd.keep (h : Rd w B A n zs) (hk : ∀ p : Addr, p.block < B → w'.cell? p = w.cell? p) : Rd w' B A n zs :=
  ⟨h.1, fun hn => by
    obtain ⟨b, off, e, hb, hc⟩ := h.2 hn
    exact ⟨b, off, e, hb, fun j u hu => (hk _ hb).trans (hc j u hu)⟩⟩
theorem Rd.more (h : Rd w B A n zs) (hB : B ≤ B') : Rd w B' A n zs :=
  ⟨h.1, fun hn => by
    obtain ⟨b, off, e, hb, hc⟩ := h.2 hn
    exact ⟨b, off, e, by omega, hc⟩⟩
theorem Rd.below (h : Rd w B A n zs) (hb : Below B w w') : Rd w' B A n zs := h.keep fun _ hp => hb.cell hp
theorem Rd.drew (h : Rd w B A n zs) : Rd w.drew B A n zs := h
theorem Rd.drewN (h : Rd w B A n zs) (k : Nat) : Rd (w.drewN k) B A n zs := h
theorem Rd.alloc (h : Rd w B A n zs) (hB : B ≤ w.heap.size) (o : Obj) : Rd (w.alloc o) B A n zs := h.keep fun p hp => World.cell?_alloc_lt w o p (by omega)
theorem Rd.setCell (h : Rd w B A n zs) {p : Addr} (hB : B ≤ p.block) (u : Value) : Rd (w.setCell p u) B A n zs :=
  h.keep fun q hq => World.cell?_setCell_other w p q u (fun e => by subst e; omega)
theorem Rd.grown (h : Rd w B A n zs) {row : Option Nat} (hg : w.grownBy w' row) (hB : B ≤ w.heap.size) (hr : ∀ g, row = some g → B ≤ g) : Rd w' B A n zs :=
  h.keep fun p hp => World.cell?_of_block (hg.block p.block (by omega) (fun e => by have := hr _ e.symm; omega))
/-- 's[k:]' : the model keeps the old address where k is the capacity -/
theorem Rd.from_ (h : Rd w B A n zs) {k cap : Nat} (hk : k ≤ n) (hc : n ≤ cap) :
    Rd w B (if cap = k then A else A.map (·.add k)) (n - k) (zs.drop k) := by
  refine ⟨by rw [List.length_drop, h.1], fun hn => ?_⟩
  obtain ⟨b, off, rfl, hb, hcell⟩ := h.2 (by omega)
  rw [if_neg (by omega)]
  refine ⟨b, off + k, by simp [addr_add0], hb, fun j u hu => ?_⟩
  rw [Nat.add_assoc]
  exact hcell _ u (by rw [← hu, List.getElem?_drop])
theorem Rd.upto (h : Rd w B A n zs) {k : Nat} (hk : k ≤ n) : Rd w B A k (zs.take k) := by
  refine ⟨by rw [List.length_take, h.1]; omega, fun hn => ?_⟩
  obtain ⟨b, off, rfl, hb, hcell⟩ := h.2 (by omega)
  exact ⟨b, off, rfl, hb, fun j u hu => hcell j u (by
    rw [List.getElem?_take] at hu
    split at hu
    · exact hu
    · cases hu)⟩
theorem Rd.of_own {base : Nat} {e : TypeId} {c : Nat} (h : w.ownsRow base e 1 (.slice A n c) n (zs.map bv)) : Rd w w.heap.size A n zs := by
  refine ⟨by simpa using h.1, fun hn => ?_⟩
  rcases h.2 with ⟨h', h0⟩ | ⟨g, cap, cur, hv, hg, hh, r⟩
  · omega
  · simp only [Value.slice.injEq] at hv
    obtain ⟨rfl, _⟩ := hv
    refine ⟨g, 0, rfl, (Array.getElem?_eq_some_iff.1 hh).1, fun j x hx => ?_⟩
    have := h.cells (g := g) rfl j (bv x) (by simp [hx])
    rw [addr_add0] at this
    exact this
theorem own_rd {base : Nat} {e : TypeId} {v : Value} (h : w.ownsRow base e 1 v n (zs.map bv)) : ∃ A c, v = .slice A n c ∧ n ≤ c ∧ Rd w w.heap.size A n zs := by
  rcases h.2 with ⟨rfl, rfl⟩ | ⟨g, cap, cur, rfl, hg, hh, hc, r⟩
  · have : zs = [] := List.eq_nil_of_length_eq_zero (by simpa using h.1)
    subst this
    exact ⟨none, 0, rfl, Nat.le_refl _, Rd.nil _ _ _⟩
  · exact ⟨_, cap, rfl, hc, Rd.of_own h⟩

/-- what the walk's 'string(b)' makes -/
def ofBytes (zs : List UInt8) : ByteArray := ⟨zs.toArray⟩
theorem ofBytes_data (zs : List UInt8) : (ofBytes zs).data.toList = zs := rfl
theorem ofBytes_size (zs : List UInt8) : (ofBytes zs).size = zs.length := by simp [ofBytes, ByteArray.size]
theorem ofBytes_self (s : ByteArray) : ofBytes s.data.toList = s := by cases s; simp [ofBytes]
theorem ofBytes_inj {a b : List UInt8} (h : ofBytes a = ofBytes b) : a = b := by
  have := congrArg (fun s : ByteArray => s.data.toList) h
  simpa [ofBytes] using this

theorem strOfNums_bytes (zs : List UInt8) : strOfNums (zs.map fun b => (b.toNat : Int)) = ofBytes zs := by
  unfold strOfNums ofBytes
  congr 2
  rw [List.map_map]
  conv => rhs; rw [← List.map_id zs]
  apply List.map_congr_left
  intro b _
  simp

theorem Rd.string {P : Program} (h : Rd w B A n zs) (src e dst : TypeId) (cap : Nat) (hs : P.underlying src = some (.slice e)) (he : P.underlying e = some (.int .u8)) (hd : P.underlying dst = some .string) :
    (convert src dst (.slice A n cap)).run P w = .ok (.string (ofBytes zs)) w := by
  rcases Nat.eq_zero_or_pos n with h0 | hn
  · subst h0
    have : zs = [] := List.eq_nil_of_length_eq_zero h.1
    subst this
    cases A with
    | none => exact run_convert_bytes_nil w src e hs he 0 cap dst hd
    | some a =>
      rw [run_convert_bytes_string w src dst e _ 0 cap hs he hd, run_bytesToString w a 0 cap [] (by
        have := run_loadCells_list (P := P) w a [] (fun j v hj => by simp at hj)
        simpa using this)]
      rfl
  · obtain ⟨b, off, rfl, hb, hc⟩ := h.2 hn
    rw [run_convert_bytes_arg w src e hs he b off n cap (zs.map fun b => (b.toNat : Int)) (by simpa using h.1) (fun i hi => by
      have hl : i < zs.length := by have := h.1; omega
      rw [hc i zs[i] (List.getElem?_eq_getElem hl)]
      simp [hl]) dst hd, strOfNums_bytes]
end

/-- what a frame says of a slice of integers that came in -/
def IsRow (k : IntKind) (w : World) (a : Option Addr) (len cap : Nat) (zs : List Int) : Prop :=
  (a = none ∧ len = 0 ∧ cap = 0 ∧ zs = []) ∨
  ∃ x, a = some x ∧ len ≤ cap ∧ cap ≤ maxLen ∧ zs.length = cap ∧ (∀ i, i < zs.length → w.cell? (x.add i) = some (.int k (zs.getD i 0))) ∧ ∀ n ∈ zs, (Lit.int k n).wf = true

theorem u8_of_wf {n : Int} (h : (Lit.int .u8 n).wf = true) : ((UInt8.ofNat n.toNat).toNat : Int) = n := by
  have hx : 0 ≤ n ∧ n ≤ 255 := by simpa [Lit.wf, IntKind.min, IntKind.max, IntKind.signed, IntKind.bits] using h
  rw [UInt8.toNat_ofNat']
  omega

theorem rd_of_row {w : World} {a : Option Addr} {len cap : Nat} {zs : List Int} (h : IsRow .u8 w a len cap zs) : ∃ bs, Rd w w.heap.size a len bs ∧ len ≤ cap ∧ cap ≤ maxLen := by
  rcases h with ⟨rfl, rfl, rfl, rfl⟩ | ⟨x, rfl, hl, hm, hz, hc, hw⟩
  · exact ⟨[], Rd.nil _ _ _, Nat.le_refl _, Nat.zero_le _⟩
  · refine ⟨(zs.take len).map fun n => UInt8.ofNat n.toNat, ⟨by simp; omega, fun hn => ?_⟩, hl, hm⟩
    have h0 := hc 0 (by omega)
    have hs := World.cell?_spot h0
    have hb := World.block_lt_of_cell? w _ h0
    obtain ⟨b, off, sp⟩ := x
    have hsp : sp = none := by simpa [Addr.add] using hs
    subst hsp
    rw [addr_add0] at hb
    refine ⟨b, off, rfl, hb, fun j y hy => ?_⟩
    rw [List.getElem?_map, Option.map_eq_some_iff] at hy
    obtain ⟨m, hm', rfl⟩ := hy
    rw [List.getElem?_take] at hm'
    split at hm'
    · have := hc j (by omega)
      rw [addr_add0] at this
      rw [this]
      have e : zs.getD j 0 = m := by simp [List.getD, hm']
      rw [e, u8_of_wf (hw m (List.mem_of_getElem? hm'))]
    · cases hm'

theorem ofBytes_extract (zs : List UInt8) (a b : Nat) : (ofBytes zs).extract a b = ofBytes ((zs.take b).drop a) := by
  have h : ((ofBytes zs).extract a b).data.toList = (ofBytes ((zs.take b).drop a)).data.toList := by
    rw [ofBytes_data]
    simp [ofBytes, ByteArray.data_extract, List.extract_eq_take_drop, List.drop_take]
  have h2 : ((ofBytes zs).extract a b).data = (ofBytes ((zs.take b).drop a)).data := Array.toList_inj.1 h
  cases hx : (ofBytes zs).extract a b
  cases hy : ofBytes ((zs.take b).drop a)
  rw [hx, hy] at h2
  simp only at h2
  rw [h2]

/-- the facts on a slice type t of elements e -/
structure ElemT (P : Program) (t e : TypeId) (z : Value) (size bytes : Nat) : Prop where
  under : P.underlying t = some (.slice e)
  info : (P.info? e).map (fun i => (i.zero, i.size, i.bytes)) = some (some z, size, bytes)
  zsz : z.cells.size = size
  pos : 0 < size

section
variable {P : Program} {t e : TypeId} {z : Value} {size bytes : Nat} {ops : Array Oper} {rest : List Oper} {o : Oper} {a : Act} {Q : Exit → Act → World → Prop}
/-- append of one element: its box, then the append -/
theorem wpList_push (E : ElemT P t e z size bytes) {w0 : World} (hgd : o.guard = none) (s x : Operand)
    (ho : o.op = .call { callee := .builtin .append, args := #[s, x], argTypes := #[t, t] })
    {base : Nat} {v : Value} {n : Nat} {xs : List Value} (hown : w0.ownsRow base e size v n xs) (hs : a.eval s = v) (cs : Array Value)
    (hx : a.eval x = .slice (some ⟨w0.heap.size, 0, none⟩) 1 1) (hc : cs.size = size) (h1 : ∀ u ∈ cs.toList, u.oneCell' = true)
    (hn : n < 4294967296) (hby : bytes ≤ 4096) (hbase : base ≤ w0.heap.size)
    (h : ∀ v' w', w'.ownsRow base e size v' (n + 1) (xs ++ cs.toList) → w0.grownBy w' v.ownBlock → wpList P ops Q rest (a.put o.dst v') w') :
    wpList P ops Q (o :: rest) a (w0.alloc (.cells cs e)) := by
  obtain ⟨i0, hi, hz0, hz1, hz2⟩ := info_parts E.info
  refine wpList_append_own _ hgd s x t ho base e i0 z size bytes E.under hi hz0 hz1 hz2 E.zsz E.pos v n xs hs (hown.alloc _) ⟨w0.heap.size, 0, none⟩ 1 1 cs.toList hx (by simpa using hc) ?_ h1 (by unfold maxLen; omega) ?_ (by simp; omega) ?_
  · intro j u hu
    rw [addr_add0]
    rw [World.cell?_alloc_at _ _ _ _ rfl]
    simpa using hu
  · have h2 : (n + 1) * bytes ≤ 4294967296 * 4096 := Nat.mul_le_mul (by omega) hby
    omega
  · intro v' w' h1 h2 _
    refine h v' w' h1 ⟨h2.os, h2.tape, h2.output, Nat.le_trans (by simp) h2.size, fun k hk hne => (h2.block k (by simp; omega) hne).trans (Below.heap_alloc _ _ _ hk)⟩

/-- the same, in a region that draws its order; the new value written out -/
theorem step_push (E : ElemT P t e z size bytes) {w0 : World} {K : Act → World → Prop} {E' : Prop} (hgd : o.guard = none) (s x : Operand)
    (ho : o.op = .call { callee := .builtin .append, args := #[s, x], argTypes := #[t, t] })
    {base : Nat} {v : Value} {n : Nat} {xs : List Value} (hown : w0.ownsRow base e size v n xs) (hs : a.eval s = v) (cs : Array Value)
    (hx : a.eval x = .slice (some ⟨w0.heap.size, 0, none⟩) 1 1) (hc : cs.size = size) (h1 : ∀ u ∈ cs.toList, u.oneCell' = true)
    (hn : n < 4294967296) (hby : bytes ≤ 4096) (hbase : base ≤ w0.heap.size)
    (h : ∀ g cap w', w'.ownsRow base e size (.slice (some ⟨g, 0, none⟩) (n + 1) cap) (n + 1) (xs ++ cs.toList) → w0.grownBy w' v.ownBlock → K (a.put o.dst (.slice (some ⟨g, 0, none⟩) (n + 1) cap)) w') :
    if Region.wanted o (yielded ops a.tmps) = true then Oper.wp P o a (w0.alloc (.cells cs e)) K Q else E' := by
  obtain ⟨i0, hi, hz0, hz1, hz2⟩ := info_parts E.info
  have hw : Region.wanted o (yielded ops a.tmps) = true := by simp [Region.wanted, hgd]
  rw [if_pos hw]
  have h2 : (n + 1) * bytes ≤ 4294967296 * 4096 := Nat.mul_le_mul (by omega) hby
  obtain ⟨v', w', hrun, r1, r2, _⟩ := run_append_own (P := P) (w0.alloc (.cells cs e)) base t o.type e i0 z size bytes E.under hi hz0 hz1 hz2 E.zsz E.pos v n xs (hown.alloc _) ⟨w0.heap.size, 0, none⟩ 1 1 cs.toList (by simpa using hc) (by
    intro j u hu
    rw [addr_add0, World.cell?_alloc_at _ _ _ _ rfl]
    simpa using hu) h1 (by unfold maxLen; omega) (by omega) (by simp; omega)
  obtain ⟨g, cap, rfl⟩ : ∃ g cap, v' = .slice (some ⟨g, 0, none⟩) (n + 1) cap := by
    rcases r1.2 with ⟨_, h⟩ | ⟨g, cap, _, h, _⟩
    · omega
    · exact ⟨g, cap, h⟩
  unfold Oper.wp
  simp [execOp, ho, resolve, invoke, builtin, hs, hx, hrun, Result.andThen]
  exact h g cap w' r1 ⟨r2.os, r2.tape, r2.output, Nat.le_trans (by simp) r2.size, fun k hk hne => (r2.block k (by simp; omega) hne).trans (Below.heap_alloc _ _ _ hk)⟩

/-- append of a byte slice, nil and empty ones too -/
theorem wpList_app {z : Value} (E : ElemT P t e z 1 1) {w : World} (hgd : o.guard = none) (s x : Operand)
    (ho : o.op = .call { callee := .builtin .append, args := #[s, x], argTypes := #[t, t] })
    {base : Nat} {v : Value} {n : Nat} (L : List UInt8) (hown : w.ownsRow base e 1 v n (L.map bv)) (hs : a.eval s = v)
    {B : Nat} {A : Option Addr} {m c : Nat} {zs : List UInt8} (hr : Rd w B A m zs) (hx : a.eval x = .slice A m c)
    (hn : n + m < 4294967296) (hbase : base ≤ w.heap.size)
    (h : ∀ v' w', w'.ownsRow base e 1 v' (n + m) ((L ++ zs).map bv) → w.grownBy w' v.ownBlock → wpList P ops Q rest (a.put o.dst v') w') :
    wpList P ops Q (o :: rest) a w := by
  obtain ⟨i0, hi, hz0, hz1, hz2⟩ := info_parts E.info
  rcases A with _ | ad
  · have hm : m = 0 := by
      rcases Nat.eq_zero_or_pos m with h0 | h0
      · exact h0
      · obtain ⟨b, off, h, _⟩ := hr.2 h0
        cases h
    subst hm
    have hz : zs = [] := List.eq_nil_of_length_eq_zero hr.1
    subst hz
    have hrun : (Builtin.append_ #[t, t] o.type #[v, .slice none 0 c]).run P w = .ok v w := by
      rcases hown.2 with ⟨rfl, rfl⟩ | ⟨g, cap, cur, rfl, _, _, hnc, _⟩
      · simp [Builtin.append_, run_underlying E.under, sizeOf, typeInfo, hi, Builtin.lenOf, Builtin.firstCells]
      · simp [Builtin.append_, run_underlying E.under, sizeOf, typeInfo, hi, Builtin.lenOf, Builtin.firstCells, hnc, storeCells]
    refine wpList_plain hgd fun K hK => ?_
    unfold Oper.wp
    simp [execOp, ho, resolve, invoke, builtin, hs, hx, hrun, Result.andThen]
    exact hK _ _ (h v w (by simpa using hown) (World.grownBy.refl _ _))
  · refine wpList_append_own _ hgd s x t ho base e i0 z 1 1 E.under hi hz0 hz1 hz2 E.zsz E.pos v n (L.map bv) hs hown ad m c (zs.map bv) hx (by simpa using hr.1) ?_ ?_ (by unfold maxLen; omega) (by omega) hbase ?_
    · intro j u hu
      rw [List.getElem?_map, Option.map_eq_some_iff] at hu
      obtain ⟨y, hy, rfl⟩ := hu
      have hj : j < zs.length := (List.getElem?_eq_some_iff.1 hy).1
      obtain ⟨b, off, he, _, hc⟩ := hr.2 (by have := hr.1; omega)
      obtain rfl := Option.some.inj he
      rw [addr_add0]
      exact hc j y hy
    · intro u hu
      obtain ⟨_, _, rfl⟩ := List.mem_map.1 hu
      rfl
    · intro v' w' h1 h2 _
      rw [← List.map_append] at h1
      exact h v' w' h1 h2

/-- make([]T, 0, c) -/
theorem wpList_mk0 {c : Nat} (E : ElemT P t e z size bytes) {w : World} (hgd : o.guard = none) (l l2 : Operand) (ho : o.op = Op.makeSlice t l l2)
    (base : Nat) (L : Int) (hl0 : a.eval l = .int .i64 0) (hl : a.eval l2 = .int .i64 L) (hL : L = (c : Int)) (hn : c < 4294967296) (hby : bytes ≤ 4096) (hbase : base ≤ w.heap.size)
    (h : ∀ w', w'.ownsRow base e size (.slice (some ⟨w.heap.size, 0, none⟩) 0 c) 0 [] → w.grownBy w' none → wpList P ops Q rest (a.put o.dst (.slice (some ⟨w.heap.size, 0, none⟩) 0 c)) w') :
    wpList P ops Q (o :: rest) a w := by
  obtain ⟨i0, hi, hz0, hz1, hz2⟩ := info_parts E.info
  have h2 : bytes * c ≤ 4096 * 4294967296 := Nat.mul_le_mul hby (by omega)
  exact wpList_make_own w hgd l l2 t ho base e i0 z size E.under hi hz0 hz1 .i64 .i64 L c hl0 hl hL (by rw [hz2]; omega) (by unfold maxLen; omega) hbase h

/-- make([]T, n) -/
theorem wpList_mk {c : Nat} (E : ElemT P t e z size bytes) {w : World} (hgd : o.guard = none) (l : Operand) (ho : o.op = Op.makeSlice t l l)
    (base : Nat) (L : Int) {kd : IntKind} (hl : a.eval l = .int kd L) (hL : L = (c : Int)) (hn : c < 4294967296) (hby : bytes ≤ 4096) (hbase : base ≤ w.heap.size)
    (h : ∀ w', w'.ownsRow base e size (.slice (some ⟨w.heap.size, 0, none⟩) c c) c (madeCells z.cells (c * size)).toList → w.grownBy w' none → w'.heap.size = w.heap.size + 1 → wpList P ops Q rest (a.put o.dst (.slice (some ⟨w.heap.size, 0, none⟩) c c)) w') :
    wpList P ops Q (o :: rest) a w := by
  obtain ⟨i0, hi, hz0, hz1, hz2⟩ := info_parts E.info
  have h2 : bytes * c ≤ 4096 * 4294967296 := Nat.mul_le_mul hby (by omega)
  have h63' : (c : Int) ≤ 9223372036854775807 := by omega
  have hb' : (i0.bytes : Int) * (c : Int) ≤ 281474976710656 := by
    have h : ((i0.bytes * c : Nat) : Int) ≤ 281474976710656 := by rw [hz2]; omega
    rwa [Int.natCast_mul] at h
  have hr := run_make (P := P) w t e i0 z E.under hi hz0 kd kd c c (by omega) (Int.le_refl _) hb' h63'
  simp only [Int.toNat_natCast] at hr
  refine wpList_plain hgd fun K hK' => ?_
  subst hL
  unfold Oper.wp
  simp [execOp, ho, hl, hr, Result.andThen]
  refine hK' _ _ (h _ ?_ (World.grownBy_alloc w _ none) (by simp))
  rw [hz1]
  exact World.ownsRow_lit w _ c hbase (by unfold maxLen; omega) (size_madeCells _ _)
end

theorem made_bytes (n : Nat) : (madeCells (Value.int .u8 0).cells (n * 1)).toList = (List.replicate n (0 : UInt8)).map bv := by
  have : (Value.int .u8 0).cells = #[.int .u8 0] := rfl
  rw [this, Nat.mul_one, toList_madeCells_one, List.map_replicate]
  rfl

theorem push_step (L H : List UInt8) {k : Nat} {x : UInt8} (hx : H[k]? = some x) : (L ++ H.take k).map bv ++ [.int .u8 (x.toNat : Int)] = (L ++ H.take (k + 1)).map bv := by
  have hk : k < H.length := (List.getElem?_eq_some_iff.1 hx).1
  rw [List.take_add_one, hx]
  simp [bv]
theorem one_byte (n : Int) : ∀ u ∈ (#[Value.int .u8 n] : Array Value).toList, u.oneCell' = true := by
  intro u hu
  simp only [List.mem_singleton] at hu
  subst hu
  rfl

/-- a row of N places that is being filled with L from the left -/
def fill (L : List UInt8) (N k : Nat) : List UInt8 := L.take k ++ List.replicate (N - k) 0
theorem fill_zero (L : List UInt8) (N : Nat) : fill L N 0 = List.replicate N 0 := by simp [fill]
theorem fill_all (L : List UInt8) (N : Nat) (h : L.length = N) : fill L N N = L := by subst h; simp [fill]
theorem fill_length (L : List UInt8) (N k : Nat) (h : L.length = N) (hk : k ≤ N) : (fill L N k).length = N := by simp [fill]; omega
theorem fill_get (L : List UInt8) (N k : Nat) (h : L.length = N) (hk : k < N) : (fill L N k)[k]? = some 0 := by
  unfold fill
  rw [List.getElem?_append_right (by simp; omega)]
  rw [List.getElem?_replicate, if_pos (by simp; omega)]
theorem fill_set (L : List UInt8) (N k : Nat) (x : UInt8) (h : L.length = N) (hx : L[k]? = some x) : (fill L N k).set k x = fill L N (k + 1) := by
  have hk : k < L.length := (List.getElem?_eq_some_iff.1 hx).1
  have hx' : L[k] = x := (List.getElem?_eq_some_iff.1 hx).2
  unfold fill
  rw [List.set_append_right _ _ (by simp; omega), List.take_add_one, hx]
  have e : N - k = (N - (k + 1)) + 1 := by omega
  rw [e, List.replicate_succ]
  have e2 : k - (List.take k L).length = 0 := by simp; omega
  rw [e2, List.set_cons_zero]
  simp
section
variable {w : World} {base : Nat} {e : TypeId} {g cap N k : Nat} {L : List UInt8}
theorem fill_cell (h : w.ownsRow base e 1 (.slice (some ⟨g, 0, none⟩) N cap) N ((fill L N k).map bv)) (hL : L.length = N) (hk : k < N) : w.cell? ⟨g, k, none⟩ = some (.int .u8 0) := by
  rw [h.cellAt k (by omega), List.getElem?_map, fill_get L N k hL hk]; rfl
theorem fill_store (h : w.ownsRow base e 1 (.slice (some ⟨g, 0, none⟩) N cap) N ((fill L N k).map bv)) (hL : L.length = N) {x : UInt8} (hx : L[k]? = some x) :
    (w.setCell ⟨g, k, none⟩ (.int .u8 (x.toNat : Int))).ownsRow base e 1 (.slice (some ⟨g, 0, none⟩) N cap) N ((fill L N (k + 1)).map bv) := by
  have := (h.stored k (bv x)).1
  rw [← List.map_set, fill_set L N k x hL hx] at this
  exact this
end
end Go.Proofs.YtcmajdimggdkoaaFmt
