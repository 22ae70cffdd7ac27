/-
  The walk of Joiner.Contains. Conditions: sizes below 4294967296.
-/
import Derived.Test.YtpfnonkcjlfibaaJAdd
import Derived.Test.YtpfnonkcjlfibaaJSub
namespace Go.Proofs.Ytpfnonkcjlfibaa
open Go.RowKit

theorem below_drewN {B : Nat} {a w : World} (h : Below B a w) (n : Nat) : Below B a (w.drewN n) := ⟨h.os, h.tape, h.output, h.size, h.block⟩

theorem sCells_get {SS : List (ByteArray × Nat)} {k : Nat} {p : ByteArray × Nat} (h : SS[k]? = some p) : (sCells SS)[k * 2]? = some (.string p.1) ∧ (sCells SS)[k * 2 + 1]? = some (.int .u32 (p.2 : Int)) := by
  induction SS generalizing k with
  | nil => simp at h
  | cons q SS ih =>
    cases k with
    | zero => simp at h; subst h; exact ⟨rfl, rfl⟩
    | succ k =>
      have h' : SS[k]? = some p := by simpa using h
      have := ih h'
      have e : sCells (q :: SS) = .string q.1 :: .int .u32 (q.2 : Int) :: sCells SS := by simp [sCells]
      rw [e, show (k + 1) * 2 = k * 2 + 1 + 1 from by omega]
      simpa using this
theorem tCells_get {TS : List BItem} {k : Nat} {t : BItem} (h : TS[k]? = some t) : (tCells TS)[k * 2]? = some (.slice t.A t.n t.c) ∧ (tCells TS)[k * 2 + 1]? = some (.int .u32 (t.off : Int)) := by
  induction TS generalizing k with
  | nil => simp at h
  | cons q TS ih =>
    cases k with
    | zero => simp at h; subst h; exact ⟨rfl, rfl⟩
    | succ k =>
      have h' : TS[k]? = some t := by simpa using h
      have := ih h'
      have e : tCells (q :: TS) = .slice q.A q.n q.c :: .int .u32 (q.off : Int) :: tCells TS := by simp [tCells]
      rw [e, show (k + 1) * 2 = k * 2 + 1 + 1 from by omega]
      simpa using this

theorem own_shape {w : World} {base : Nat} {e : TypeId} {size n : Nat} {v : Value} {xs : List Value} (h : w.ownsRow base e size v n xs) : ∃ A c, v = .slice A n c ∧ n ≤ c ∧ (0 < n → ∃ g, A = some ⟨g, 0, none⟩ ∧ g < w.heap.size ∧ ∀ j u, xs[j]? = some u → w.cell? ⟨g, j, none⟩ = some u) := by
  rcases h.2 with ⟨rfl, rfl⟩ | ⟨g, cap, cur, rfl, hg, hh, hc, r⟩
  · exact ⟨none, 0, rfl, Nat.le_refl _, fun h => absurd h (by omega)⟩
  · refine ⟨_, cap, rfl, hc, fun _ => ⟨g, rfl, (Array.getElem?_eq_some_iff.1 hh).1, fun j u hu => ?_⟩⟩
    have := h.cells (g := g) rfl j u hu
    rwa [addr_add0, Nat.zero_add] at this

def anyS (SS : List (ByteArray × Nat)) (s : ByteArray) : Bool := SS.any fun p => JM.hasSub p.1.data.toList s.data.toList
def anyT (TS : List BItem) (bs : List UInt8) : Bool := TS.any fun t => JM.hasSub t.zs bs

theorem any_take_succ {α : Type} (l : List α) (f : α → Bool) {k : Nat} {x : α} (h : l[k]? = some x) : (l.take (k + 1)).any f = ((l.take k).any f || f x) := by
  rw [List.take_add_one, h, List.any_append]
  simp
theorem any_of_take {α : Type} (l : List α) (f : α → Bool) {k : Nat} (h : (l.take k).any f = true) : l.any f = true := by
  rw [List.any_eq_true] at h ⊢
  obtain ⟨x, hx, hf⟩ := h
  exact ⟨x, List.mem_of_mem_take hx, hf⟩

set_option maxHeartbeats 1600000 in
theorem joinContains_any (J : Nat) (s : ByteArray) (D : Option Addr) (m d : Nat) (bs : List UInt8) (w : World) {B0 : Nat} {SS : List (ByteArray × Nat)} {TS : List BItem} {len : Nat} (h : JS w B0 J SS TS len)
    (hS : ∀ p ∈ SS, p.1.size ≤ 4294967296) (hT : ∀ t ∈ TS, t.n ≤ 4294967295) (hs : s.size ≤ 4294967296) (hb : Rd w w.heap.size D m bs) (hm : m ≤ 4294967295) (hnS : SS.length < 4294967296) (hnT : TS.length < 4294967296) :
    Calls Try.prog 36 #[.pointer (some ⟨J, 0, none⟩), .string s, .slice D m d] w fun e w' => e = .returned (.bool (anyS SS s || anyT TS bs)) ∧ Below w.heap.size w w' := by
  obtain ⟨⟨sv, tv, lb, h1, h2, h3⟩, h4, h5⟩ := h
  obtain ⟨A1, q1, rfl, hq1, hx1⟩ := own_shape h2
  obtain ⟨A2, q2, rfl, hq2, hx2⟩ := own_shape h3
  obtain ⟨⟨c0, c1, c2, c3⟩, f0, f1, f2, f3⟩ := blk_cells h1
  have hJ := h1.lt
  clear h2 h3
  go_enter Try.func36, Try.ntmps36
  go_wp2
  go_loopw [16] (fun i wr => ∃ k : Nat, k ≤ SS.length ∧ i = .int .i64 k ∧ Below w.heap.size w wr ∧ Hid (anyS (SS.take k) s = false)) (fun i _ => SS.length - (intOf i).toNat)
  case atStart => exact ⟨0, by omega, rfl, Below.refl _ _, rfl⟩
  case round =>
    obtain ⟨k, hk, rfl, hbw, hno⟩ := hrel
    have hbs := hbw.size
    by_cases hlt : k < SS.length
    · obtain ⟨g, rfl, hg, hcell⟩ := hx1 (by omega)
      obtain ⟨p, hp⟩ : ∃ p, SS[k]? = some p := ⟨_, List.getElem?_eq_getElem hlt⟩
      obtain ⟨x1, x2⟩ := sCells_get hp
      have y1 := (hbw.cell (p := ⟨g, k * 2, none⟩) hg).trans (hcell _ _ x1)
      have y2 := (hbw.cell (p := ⟨g, k * 2 + 1, none⟩) hg).trans (hcell _ _ x2)
      have hps := hS p (List.mem_of_getElem? hp)
      have hst := hide (any_take_succ SS (fun p => JM.hasSub p.1.data.toList s.data.toList) hp)
      clear x1 x2 hp
      go_wp2_with fail
      cases hc : JM.hasSub p.1.data.toList s.data.toList with
      | true =>
        have hf := hide (any_of_take SS (fun p => JM.hasSub p.1.data.toList s.data.toList) (k := k + 1) (by rw [hst.out, hc]; simp))
        refine (contains_any p.1 s _ hps hs).mono ?_
        rw [hc]
        clear hc
        rintro e w1 ⟨rfl, rfl⟩
        go_wp2
        go_ret
        refine ⟨?_, hbw.alloc hbs _⟩
        have : anyS SS s = true := hf.out
        rw [this]
        rfl
      | false =>
        have hf : Hid (anyS (SS.take (k + 1)) s = false) := hide (by
          show (SS.take (k + 1)).any _ = false
          have h0 := hno.out
          unfold anyS at h0
          rw [hst.out, hc, h0]
          rfl)
        refine (contains_any p.1 s _ hps hs).mono ?_
        rw [hc]
        clear hc
        rintro e w1 ⟨rfl, rfl⟩
        go_wp2
        go_roundw
        case rel => exact ⟨k + 1, by omega, by go_num, hbw.alloc hbs _, hf⟩
        case measure => simp [intOf]; omega
    · obtain rfl : k = SS.length := by omega
      have d1 := (hbw.cell (p := ⟨J, 1, none⟩) hJ).trans c1
      have hnoS : Hid (anyS SS s = false) := hide (by have := hno.out; rwa [List.take_length] at this)
      clear hno
      go_wp2
      obtain ⟨wo, rfl⟩ : ∃ wo : World, wo = wr := ⟨_, rfl⟩
      go_loopw [30] (fun i wr => ∃ k : Nat, k ≤ TS.length ∧ i = .int .i64 k ∧ Below w.heap.size w wr ∧ Hid (anyT (TS.take k) bs = false)) (fun i _ => TS.length - (intOf i).toNat)
      case atStart => exact ⟨0, by omega, rfl, hbw, rfl⟩
      case round =>
        clear hbw hbs d1
        obtain ⟨k, hk, rfl, hbw, hno⟩ := hrel
        have hbs := hbw.size
        by_cases hlt : k < TS.length
        · obtain ⟨g, rfl, hg, hcell⟩ := hx2 (by omega)
          obtain ⟨t, ht⟩ : ∃ t, TS[k]? = some t := ⟨_, List.getElem?_eq_getElem hlt⟩
          obtain ⟨x1, x2⟩ := tCells_get ht
          have y1 := (hbw.cell (p := ⟨g, k * 2, none⟩) hg).trans (hcell _ _ x1)
          have y2 := (hbw.cell (p := ⟨g, k * 2 + 1, none⟩) hg).trans (hcell _ _ x2)
          have hps := hT t (List.mem_of_getElem? ht)
          obtain ⟨hz1, hz2⟩ := h5 t (List.mem_of_getElem? ht)
          have hst := hide (any_take_succ TS (fun t => JM.hasSub t.zs bs) ht)
          clear x1 x2 ht
          go_wp2_with fail
          have hz3 := ((hz1.keep (Keep.below hbw)).keep ((Keep.refl 5 wr).alloc (.cells #[.slice t.A t.n t.c, .int .u32 (t.off : Int)] 154))).rd
          have hb3 := ((hb.below hbw).more hbs).alloc (Nat.le_refl _) (.cells #[.slice t.A t.n t.c, .int .u32 (t.off : Int)] 154)
          cases hc : JM.hasSub t.zs bs with
          | true =>
            have hf := hide (any_of_take TS (fun t => JM.hasSub t.zs bs) (k := k + 1) (by rw [hst.out, hc]; simp))
            refine (hasBytes_any t.A D t.n t.c m d t.zs bs _ hz3 hz2 (hb3.more (by simp)) hps hm).mono ?_
            rw [hc]
            clear hc hz3 hb3
            rintro e w1 ⟨rfl, q, rfl⟩
            go_wp2
            go_ret
            refine ⟨?_, below_drewN (hbw.alloc hbs _) q⟩
            have : anyT TS bs = true := hf.out
            rw [this]
            simp
          | false =>
            have hf : Hid (anyT (TS.take (k + 1)) bs = false) := hide (by
              show (TS.take (k + 1)).any _ = false
              have h0 := hno.out
              unfold anyT at h0
              rw [hst.out, hc, h0]
              rfl)
            refine (hasBytes_any t.A D t.n t.c m d t.zs bs _ hz3 hz2 (hb3.more (by simp)) hps hm).mono ?_
            rw [hc]
            clear hc hz3 hb3
            rintro e w1 ⟨rfl, q, rfl⟩
            go_wp2
            go_roundw
            case rel => exact ⟨k + 1, by omega, by go_num, below_drewN (hbw.alloc hbs _) q, hf⟩
            case measure => simp [intOf]; omega
        · obtain rfl : k = TS.length := by omega
          go_wp2
          go_ret
          refine ⟨?_, hbw⟩
          have e1 := hnoS.out
          have e2 := hno.out
          rw [List.take_length] at e2
          rw [e1, e2]
          rfl
end Go.Proofs.Ytpfnonkcjlfibaa
