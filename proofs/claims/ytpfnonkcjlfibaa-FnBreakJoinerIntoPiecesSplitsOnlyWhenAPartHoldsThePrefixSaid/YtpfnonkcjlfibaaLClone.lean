/-
  The walk of zzCloneParts. Conditions: sizes.
-/
import Derived.Test.YtpfnonkcjlfibaaLParts
import Derived.Test.YtpfnonkcjlfibaaLHelpA
namespace Go.Proofs.Ytpfnonkcjlfibaa
open Go.RowKit

theorem own_kept {w w' : World} {base : Nat} {e : TypeId} {size n : Nat} {v : Value} {xs : List Value} (h : w.ownsRow base e size v n xs) (hb : Below w.heap.size w w') : w'.ownsRow base e size v n xs :=
  h.kept (below_grownBy hb) (by cases v.ownBlock <;> simp)

/-- parts that lie in blocks of bytes -/
def PT (w : World) (A : Option Addr) (n : Nat) (qs : List Part) : Prop := RdP w w.heap.size A n qs ∧ ∀ q ∈ qs, RdT w q.A q.n q.zs
theorem PT.below {w w' : World} {A : Option Addr} {n : Nat} {qs : List Part} (h : PT w A n qs) (hb : Below w.heap.size w w') : PT w' A n qs :=
  ⟨(h.1.below hb).more hb.size, fun q hq => (h.2 q hq).keep (Keep.below hb)⟩

def pcell (q : Part) : Value := .slice q.A q.n q.c
/-- a row of n places, the first of which are filled -/
def fillP (qs : List Part) (n : Nat) : List Value := qs.map pcell ++ List.replicate (n - qs.length) (.slice none 0 0)
theorem fillP_set (qs : List Part) (n : Nat) (q : Part) (h : qs.length < n) : (fillP qs n).set qs.length (.slice q.A q.n q.c) = fillP (qs ++ [q]) n := by
  unfold fillP
  rw [List.set_append_right _ _ (by simp), List.length_map, Nat.sub_self, List.length_append, List.length_singleton]
  have e : n - qs.length = (n - (qs.length + 1)) + 1 := by omega
  rw [e, List.replicate_succ, List.set_cons_zero]
  simp [pcell]
theorem fillP_get (qs : List Part) (n : Nat) (h : qs.length < n) : (fillP qs n)[qs.length]? = some (.slice none 0 0) := by
  unfold fillP
  rw [List.getElem?_append_right (by simp), List.getElem?_replicate, if_pos (by simp; omega)]
theorem fillP_all (qs : List Part) : fillP qs qs.length = qs.map pcell := by simp [fillP]
theorem made_slices (n : Nat) : (madeCells (Value.slice none 0 0).cells (n * 1)).toList = fillP [] n := by
  have : (Value.slice none 0 0).cells = #[.slice none 0 0] := rfl
  rw [this, Nat.mul_one, toList_madeCells_one]
  simp [fillP]
theorem E22 : ElemT Try.prog 22 42 (.slice none 0 0) 1 24 := ⟨Try.underlying22, by kernel_rfl, rfl, by decide⟩
theorem pcell_get {qs : List Part} {j : Nat} {q : Part} (h : qs[j]? = some q) : (qs.map pcell)[j]? = some (.slice q.A q.n q.c) := by simp [h, pcell]

/-- what zzCloneParts leaves -/
def ClonedP (w : World) (n X : Nat) (e : Ending) (w' : World) : Prop :=
  ∃ A' c' qs, e = .returned (.slice A' n c') ∧ PT w' A' n qs ∧ totP qs = X ∧ Below w.heap.size w w'

theorem pt_of_own {w : World} {base n c : Nat} {A : Option Addr} {qs : List Part} (h : w.ownsRow base 42 1 (.slice A n c) n (qs.map pcell)) (hn : qs.length = n) (hq : ∀ q ∈ qs, RdT w q.A q.n q.zs ∧ q.n ≤ q.c ∧ q.n ≤ maxLen) : PT w A n qs := by
  obtain ⟨A', c', e, _, hs⟩ := own_shape h
  cases e
  refine ⟨⟨hn, fun h0 => ?_, fun q h => ⟨(hq q h).1.rd, (hq q h).2⟩⟩, fun q h => (hq q h).1⟩
  obtain ⟨g, rfl, hg, hc⟩ := hs h0
  exact ⟨g, 0, rfl, hg, fun j q h => by rw [Nat.zero_add]; exact hc j _ (pcell_get h)⟩

set_option maxRecDepth 100000 in
set_option maxHeartbeats 1600000 in
theorem cloneParts_any (A : Option Addr) (n c : Nat) (qs : List Part) (w : World) (h : RdP w w.heap.size A n qs) (hn : n + totP qs ≤ 1048576) :
    Calls Try.prog 9 #[.slice A n c] w (ClonedP w n (totP qs)) := by
  go_enter Try.func9, Try.ntmps9
  cases A with
  | none =>
    obtain rfl : n = 0 := by
      rcases Nat.eq_zero_or_pos n with h0 | h0
      · exact h0
      · obtain ⟨b, off, e, _⟩ := h.2.1 h0
        cases e
    have hq : qs = [] := List.eq_nil_of_length_eq_zero h.1
    have heq := Lib.run_eql_slice_nil (P := Try.prog) w 22 42 none 0 c 0 0 Try.underlying22
    go_wp2
    go_ret
    exact ⟨none, 0, [], rfl, ⟨⟨rfl, fun h => absurd h (by omega), by simp⟩, by simp⟩, by rw [hq], Below.refl _ _⟩
  | some ad =>
    have heq := Lib.run_eql_slice_nil (P := Try.prog) w 22 42 (some ad) n c 0 0 Try.underlying22
    go_wp2_with (at_make; refine wpList_mk (c := n) E22 rfl _ rfl w.heap.size n rfl rfl (by omega) (by decide) (Nat.le_refl _) ?_; intro w1 hown hg hsz)
    rw [made_slices] at hown
    have hb1 : Below w.heap.size w w1 := (Below.refl _ _).grown hg (Nat.le_refl _) (by intro k hk; cases hk)
    clear hg hsz
    go_loopw [4] (fun i wr => ∃ ps : List Part, ps.length ≤ n ∧ i = .int .i64 ps.length ∧ wr.ownsRow w.heap.size 42 1 (.slice (some ⟨w.heap.size, 0, none⟩) n n) n (fillP ps n) ∧ (∀ q ∈ ps, RdT wr q.A q.n q.zs ∧ q.n ≤ q.c ∧ q.n ≤ maxLen) ∧ Hid (totP ps = totP (qs.take ps.length)) ∧ Below w.heap.size w wr) (fun i _ => n - (intOf i).toNat)
    case atStart => exact ⟨[], by simp, rfl, hown, by simp, rfl, hb1⟩
    case round =>
      clear hown hb1
      obtain ⟨ps, hk, rfl, hown, hps, htot, hb⟩ := hrel
      have hbs := hb.size
      by_cases hkl : ps.length < n
      · obtain ⟨b, off, q, he, hbl, hq, hcx, hqr, hqc, hqm⟩ := (h.below hb).at hkl
        cases he
        have hs := hide (totP_succ hq)
        have hqn : q.n ≤ 1048576 := by
          have := totP_mem (List.mem_of_getElem? hq)
          omega
        replace hps := hide hps
        replace hq := hide hq
        go_wp2_with fail
        refine (clone_any q.A q.n q.c q.zs wr (hqr.more hbs) hqc (by omega)).mono ?_
        rintro e w2 ⟨A2, c2, rfl, hc2, hrt2, hb2⟩
        have hown2 := own_kept hown hb2
        have hf := hown2.frozenAt ps.length
        have hu := (hown2.cellAt ps.length (by omega)).trans (fillP_get ps n hkl)
        have R := hide ((hown2.stored ps.length (.slice A2 q.n c2)).1)
        have hk5 : ∀ V, Keep 5 w2 (w2.setCell ⟨w.heap.size, ps.length, none⟩ V) := fun V => (Keep.refl 5 w2).setCell (fun cs fr e => own_blk_ne hown2 e (by decide) rfl)
        have hk5' := hide hk5
        clear hk5 hown hown2 hcx hqr
        go_wp2
        go_roundw
        case rel =>
          refine ⟨ps ++ [⟨A2, q.n, c2, q.zs⟩], by rw [List.length_append, List.length_singleton]; omega, by rw [List.length_append, List.length_singleton]; go_num, ?_, fun u hu => ?_, hide ?_, (hb.trans (hb2.mono hbs)).setCell (Nat.le_refl _) _⟩
          · have := R.out
            rw [fillP_set ps n ⟨A2, q.n, c2, q.zs⟩ hkl] at this
            exact this
          · rw [List.mem_append, List.mem_singleton] at hu
            rcases hu with hu | rfl
            · exact ⟨((hps.out u hu).1.keep (Keep.below hb2)).keep (hk5'.out _), (hps.out u hu).2⟩
            · exact ⟨hrt2.keep (hk5'.out _), hc2, hqm⟩
          · rw [List.length_append, List.length_singleton, hs.out, ← htot.out]
            simp [totP]
        case measure => simp [intOf]; omega
      · obtain rfl : n = ps.length := by omega
        rw [fillP_all] at hown
        have R := hide (pt_of_own hown rfl hps)
        clear hps hown
        go_wp2
        go_ret
        refine ⟨_, _, ps, rfl, R.out, ?_, hb⟩
        rw [htot.out, List.take_of_length_le (by rw [h.1]; exact Nat.le_refl _)]
end Go.Proofs.Ytpfnonkcjlfibaa
