/-
  copy into a row of bytes of the call's own, from a string or a byte slice, as a run and as a step of a region that draws its order. Conditions: the source fits.
-/
import Derived.Test.YtpfnonkcjlfibaaMem
import Derived.Test.YtpfnonkcjlfibaaJMath
import Derived.Laws.CopyRow
import Derived.Laws.IdiomCopy
import Derived.Deep.RegionLaw
namespace Go.Proofs.Ytpfnonkcjlfibaa
open Go.RowKit

/-- the source of a copy reads as zs -/
def Src (P : Program) (w : World) (src : Value) (zs : List UInt8) : Prop :=
  (Builtin.lenOf src).run P w = .ok zs.length w ∧ (Builtin.firstCells 1 zs.length src).run P w = .ok (zs.map bv).toArray w

theorem Src.string (P : Program) (w : World) (s : ByteArray) : Src P w (.string s) s.data.toList := by
  have hl : s.data.toList.length = s.size := Array.length_toList
  have e : s.extract 0 s.size = s := ByteArray.extract_zero_size
  rw [Src, hl]
  refine ⟨rfl, ?_⟩
  show (pure ((s.extract 0 s.size).data.map fun b => Value.int .u8 b.toNat) : Sem (Array Value)).run P w = _
  have e2 : (s.data.map fun b => Value.int .u8 b.toNat) = (s.data.toList.map bv).toArray := by
    apply Array.toList_inj.1
    rw [Array.toList_map]
    rfl
  rw [e, Sem.run_pure, e2]

theorem Src.slice {P : Program} {w : World} {B : Nat} {A : Option Addr} {n c : Nat} {zs : List UInt8} (h : Rd w B A n zs) : Src P w (.slice A n c) zs := by
  refine ⟨by simp [Builtin.lenOf, h.len], ?_⟩
  rcases Nat.eq_zero_or_pos n with h0 | hn
  · subst h0
    obtain rfl : zs = [] := List.eq_nil_of_length_eq_zero h.1
    cases A with
    | none => simp [Builtin.firstCells]
    | some a => exact run_firstCells_some (P := P) w 1 0 a 0 c [] (by simp) (by simp)
  · obtain ⟨b, off, rfl, _, hc⟩ := h.2 hn
    refine run_firstCells_some (P := P) w 1 _ _ n c (zs.map bv) (by simp) (fun j v hj => ?_)
    rw [List.getElem?_map, Option.map_eq_some_iff] at hj
    obtain ⟨y, hy, rfl⟩ := hj
    rw [addr_add0]
    exact hc j y hy

theorem lay_map (buf d : List UInt8) (o : Nat) : (JM.lay buf d o).map bv = (buf.map bv).take o ++ d.map bv ++ (buf.map bv).drop (o + d.length) := by
  simp [JM.lay, List.map_take, List.map_drop]

theorem take_seg {α : Type} (l m : List α) (off N : Nat) (h : off + m.length ≤ N) (hN : N ≤ l.length) :
    (l.take off ++ m ++ l.drop (off + m.length)).take N = (l.take N).take off ++ m ++ (l.take N).drop (off + m.length) := by
  have e1 : (l.take N).take off = l.take off := by rw [List.take_take]; congr 1; omega
  rw [e1, List.take_append, List.take_of_length_le (by simp; omega), List.drop_take]
  congr 2
  simp
  omega

theorem run_copy_lay {P : Program} {w : World} (dT sT ty elem : TypeId) (hu : P.underlying dT = some (.slice elem)) (hsz : (P.info? elem).map (·.size) = some 1)
    {base e cap N G off : Nat} {buf zs : List UInt8} (hown : w.ownsRow base e 1 (.slice (some ⟨G, 0, none⟩) N cap) N (buf.map bv)) {D : Option Addr} {dLen dCap : Nat} {src : Value}
    (hfit : off + zs.length ≤ N) (hdl : zs.length ≤ dLen) (hD : 0 < zs.length → D = some ⟨G, off, none⟩) (hs : Src P w src zs) :
    ∃ w', (Builtin.copy_ #[dT, sT] ty #[.slice D dLen dCap, src]).run P w = .ok (goInt zs.length) w' ∧ w'.ownsRow base e 1 (.slice (some ⟨G, 0, none⟩) N cap) N ((JM.lay buf zs off).map bv) ∧ w.grownBy w' (some G) := by
  obtain ⟨hl, hf⟩ := hs
  have hmin : Nat.min zs.length dLen = zs.length := Nat.min_eq_left hdl
  have hbl : buf.length = N := by simpa using hown.1
  cases hq : P.info? elem with
  | none => simp [hq] at hsz
  | some i =>
    have hi : i.size = 1 := by simpa [hq] using hsz
    rcases Nat.eq_zero_or_pos zs.length with h0 | h0
    · obtain rfl : zs = [] := List.eq_nil_of_length_eq_zero h0
      refine ⟨w, ?_, ?_, World.grownBy.refl _ _⟩
      · have hmin' : Nat.min 0 dLen = 0 := hmin
        have hl' : (Builtin.lenOf src).run P w = .ok 0 w := hl
        have hf' : (Builtin.firstCells 1 0 src).run P w = .ok #[] w := hf
        unfold Builtin.copy_
        cases D <;> simp [Sem.run_bind, run_underlying hu, sizeOf, typeInfo, hq, hi, hmin', hl', hf', storeCells, Result.andThen]
      · have e : JM.lay buf [] off = buf := by simp [JM.lay]
        rw [e]
        exact hown
    · obtain rfl := hD h0
      rcases hown.2 with ⟨h', _⟩ | ⟨g, cap', cur, hv, hb, hh, hc1, hc2, hc3, hc4⟩
      · cases h'
      · simp only [Value.slice.injEq, Option.some.injEq, Addr.mk.injEq, and_true, true_and] at hv
        obtain ⟨rfl, rfl⟩ := hv
        have hst := run_storeCells_at P G off e (zs.map bv) 0 cur w hh (by simp; omega) (by
          intro u hu
          obtain ⟨_, _, rfl⟩ := List.mem_map.1 hu
          rfl)
        refine ⟨w.setRow G (cur.toList.take (off + 0) ++ zs.map bv ++ cur.toList.drop (off + 0 + (zs.map bv).length)).toArray, ?_, ?_, ?_⟩
        · unfold Builtin.copy_
          simp [Sem.run_bind, run_underlying hu, sizeOf, typeInfo, hq, hi, hmin, hl, hf, Result.andThen] at hst ⊢
          simp [hst]
        · refine ⟨by simp [JM.lay]; omega, .inr ⟨G, cap, _, rfl, hb, setRow_heap w G cur _ e (0, 0) hh, hc1, hc2, by simp; omega, ?_⟩⟩
          rw [lay_map, ← hc4]
          have hts := take_seg cur.toList (zs.map bv) off N (by simpa using hfit) (by simp; omega)
          simpa using hts
        · exact ⟨rfl, rfl, rfl, by simp [World.setRow], fun k _ hk => setRow_other w G k _ (fun e => hk (by rw [e]))⟩

section
variable {P : Program} {ops : Array Oper} {rest : List Oper} {o : Oper} {a : Act} {Q : Exit → Act → World → Prop} {w : World}
theorem wp_copy_lay {K : Act → World → Prop} (d s : Operand) (dT sT : TypeId) (ho : o.op = .call { callee := .builtin .copy, args := #[d, s], argTypes := #[dT, sT] })
    (elem : TypeId) (hu : P.underlying dT = some (.slice elem)) (hsz : (P.info? elem).map (·.size) = some 1)
    {base e cap N G off : Nat} {buf zs : List UInt8} (hown : w.ownsRow base e 1 (.slice (some ⟨G, 0, none⟩) N cap) N (buf.map bv)) {D : Option Addr} {dLen dCap : Nat} {src : Value}
    (hd : a.eval d = .slice D dLen dCap) (hs : a.eval s = src) (hfit : off + zs.length ≤ N) (hdl : zs.length ≤ dLen) (hD : 0 < zs.length → D = some ⟨G, off, none⟩) (hsrc : Src P w src zs)
    (h : ∀ w', w'.ownsRow base e 1 (.slice (some ⟨G, 0, none⟩) N cap) N ((JM.lay buf zs off).map bv) → w.grownBy w' (some G) → K (a.put o.dst (goInt zs.length)) w') : o.wp P a w K Q := by
  obtain ⟨w', hrun, h1, h2⟩ := run_copy_lay (P := P) dT sT o.type elem hu hsz hown (D := D) (dLen := dLen) (dCap := dCap) hfit hdl hD hsrc
  unfold Oper.wp
  simp [execOp, ho, resolve, invoke, builtin, hd, hs, hrun, Result.andThen]
  exact h w' h1 h2

theorem wpList_copy_lay (hgd : o.guard = none) (d s : Operand) (dT sT : TypeId) (ho : o.op = .call { callee := .builtin .copy, args := #[d, s], argTypes := #[dT, sT] })
    (elem : TypeId) (hu : P.underlying dT = some (.slice elem)) (hsz : (P.info? elem).map (·.size) = some 1)
    {base e cap N G off : Nat} {buf zs : List UInt8} (hown : w.ownsRow base e 1 (.slice (some ⟨G, 0, none⟩) N cap) N (buf.map bv)) {D : Option Addr} {dLen dCap : Nat} {src : Value}
    (hd : a.eval d = .slice D dLen dCap) (hs : a.eval s = src) (hfit : off + zs.length ≤ N) (hdl : zs.length ≤ dLen) (hD : 0 < zs.length → D = some ⟨G, off, none⟩) (hsrc : Src P w src zs)
    (h : ∀ w', w'.ownsRow base e 1 (.slice (some ⟨G, 0, none⟩) N cap) N ((JM.lay buf zs off).map bv) → w.grownBy w' (some G) → wpList P ops Q rest (a.put o.dst (goInt zs.length)) w') : wpList P ops Q (o :: rest) a w :=
  wpList_plain hgd fun _ hK => wp_copy_lay d s dT sT ho elem hu hsz hown hd hs hfit hdl hD hsrc fun w' h1 h2 => hK _ _ (h w' h1 h2)

theorem step_copy_lay {K : Act → World → Prop} {E : Prop} (hgd : o.guard = none) (d s : Operand) (dT sT : TypeId) (ho : o.op = .call { callee := .builtin .copy, args := #[d, s], argTypes := #[dT, sT] })
    (elem : TypeId) (hu : P.underlying dT = some (.slice elem)) (hsz : (P.info? elem).map (·.size) = some 1)
    {base e cap N G off : Nat} {buf zs : List UInt8} (hown : w.ownsRow base e 1 (.slice (some ⟨G, 0, none⟩) N cap) N (buf.map bv)) {D : Option Addr} {dLen dCap : Nat} {src : Value}
    (hd : a.eval d = .slice D dLen dCap) (hs : a.eval s = src) (hfit : off + zs.length ≤ N) (hdl : zs.length ≤ dLen) (hD : 0 < zs.length → D = some ⟨G, off, none⟩) (hsrc : Src P w src zs)
    (h : ∀ w', w'.ownsRow base e 1 (.slice (some ⟨G, 0, none⟩) N cap) N ((JM.lay buf zs off).map bv) → w.grownBy w' (some G) → K (a.put o.dst (goInt zs.length)) w') :
    if Region.wanted o (yielded ops a.tmps) = true then Oper.wp P o a w K Q else E := by
  have hw : Region.wanted o (yielded ops a.tmps) = true := by simp [Region.wanted, hgd]
  rw [if_pos hw]
  exact wp_copy_lay d s dT sT ho elem hu hsz hown hd hs hfit hdl hD hsrc h
end
end Go.Proofs.Ytpfnonkcjlfibaa
