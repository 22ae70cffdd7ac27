/-
  A row of messages that is filled from texts: the walks of zzMsgsFromTexts and messagesOf. Conditions: sizes.
-/
import Derived.Test.YtcmajdimggdkoaaFmtStr
namespace Go.Proofs.YtcmajdimggdkoaaFmt
open Go.RowKit

def mrow (ts : List ByteArray) : List Value := ts.flatMap msgIn
def tfill (ts : List ByteArray) (n i : Nat) : List ByteArray := ts.take i ++ List.replicate (n - i) ⟨#[]⟩
theorem mrow_len : ∀ (ts : List ByteArray), (mrow ts).length = ts.length * 6
  | [] => rfl
  | a :: r => by
    have := mrow_len r
    unfold mrow at this ⊢
    rw [List.flatMap_cons, List.length_append, this, List.length_cons]
    simp [msgIn]
    omega
theorem mrow_get (ts : List ByteArray) (j : Nat) (t : ByteArray) (i : Nat) (h : ts[j]? = some t) (hi : i < 6) : (mrow ts)[j * 6 + i]? = (msgIn t)[i]? :=
  flat_get msgIn 6 (fun _ => rfl) ts j t i h hi
theorem tfill_len (ts : List ByteArray) (n i : Nat) (h : ts.length = n) (hi : i ≤ n) : (tfill ts n i).length = n := by simp [tfill]; omega
theorem tfill_get (ts : List ByteArray) (n i : Nat) (h : ts.length = n) (hi : i < n) : (tfill ts n i)[i]? = some ⟨#[]⟩ := by
  unfold tfill
  rw [List.getElem?_append_right (by simp; omega), List.getElem?_replicate, if_pos (by simp; omega)]
theorem tfill_all (ts : List ByteArray) (n : Nat) (h : ts.length = n) : tfill ts n n = ts := by
  unfold tfill
  rw [List.take_of_length_le (by omega)]
  simp
theorem mrow_set (ts : List ByteArray) (n i : Nat) {t : ByteArray} (h : ts.length = n) (hi : ts[i]? = some t) : (mrow (tfill ts n i)).set (i * 6 + 2) (.string t) = mrow (tfill ts n (i + 1)) := by
  have hl : i < ts.length := (List.getElem?_eq_some_iff.1 hi).1
  have e : n - i = (n - (i + 1)) + 1 := by omega
  unfold tfill
  rw [List.take_add_one, hi, e, List.replicate_succ]
  unfold mrow
  rw [List.flatMap_append, List.flatMap_append, List.flatMap_append, List.flatMap_cons]
  have hm := mrow_len (ts.take i)
  unfold mrow at hm
  rw [List.length_take, Nat.min_eq_left (by omega)] at hm
  rw [List.set_append_right _ _ (by omega), hm, Nat.add_sub_cancel_left, List.set_append_left _ _ (by simp [msgIn])]
  simp [msgIn]
theorem set_same {xs : List Value} {k : Nat} {v : Value} (h : xs[k]? = some v) : xs.set k v = xs := by
  apply List.ext_getElem?
  intro j
  rw [List.getElem?_set]
  split
  · rename_i e
    subst e
    split
    · exact h.symm
    · rename_i hn
      rw [List.getElem?_eq_none (by omega)]
  · rfl
theorem tfill_next (ts : List ByteArray) (n i : Nat) {t : ByteArray} (hi : ts[i]? = some t) : (tfill ts n (i + 1))[i]? = some t := by
  have hl : i < ts.length := (List.getElem?_eq_some_iff.1 hi).1
  unfold tfill
  rw [List.getElem?_append_left (by simp; omega), List.getElem?_take, if_pos (by omega)]
  exact hi
theorem mrow_set6 (ts : List ByteArray) (n i : Nat) {t : ByteArray} (h : ts.length = n) (hi : ts[i]? = some t) :
    ((((((mrow (tfill ts n i)).set (i * 6) (.string ⟨#[]⟩)).set (i * 6 + 1) (.string ⟨#[]⟩)).set (i * 6 + 2) (.string t)).set (i * 6 + 3) (.pointer none)).set (i * 6 + 4) (.slice none 0 0)).set (i * 6 + 5) .nilIface = mrow (tfill ts n (i + 1)) := by
  have hl : i < ts.length := (List.getElem?_eq_some_iff.1 hi).1
  have g := tfill_get ts n i h (by omega)
  have g' := tfill_next ts n i hi
  rw [set_same (k := i * 6) (mrow_get _ i _ 0 g (by omega)), set_same (k := i * 6 + 1) (mrow_get _ i _ 1 g (by omega)), mrow_set ts n i h hi,
    set_same (k := i * 6 + 3) (mrow_get _ i _ 3 g' (by omega)), set_same (k := i * 6 + 4) (mrow_get _ i _ 4 g' (by omega)), set_same (k := i * 6 + 5) (mrow_get _ i _ 5 g' (by omega))]
theorem made_msgs (n : Nat) : (madeCells (Value.agg #[.string ByteArray.empty, .string ByteArray.empty, .string ByteArray.empty, .pointer none, .slice none 0 0, .nilIface]).cells (n * 6)).toList = mrow (List.replicate n ⟨#[]⟩) := by
  have hz : (Value.agg #[.string ByteArray.empty, .string ByteArray.empty, .string ByteArray.empty, .pointer none, .slice none 0 0, .nilIface]).cells = #[.string ⟨#[]⟩, .string ⟨#[]⟩, .string ⟨#[]⟩, .pointer none, .slice none 0 0, .nilIface] := rfl
  rw [hz]
  apply List.ext_getElem?
  intro j
  by_cases hj : j < n * 6
  · have e : j = j / 6 * 6 + j % 6 := by omega
    have h1 := mrow_get (List.replicate n ⟨#[]⟩) (j / 6) ⟨#[]⟩ (j % 6) (by rw [List.getElem?_replicate, if_pos (by omega)]) (by omega)
    rw [← e] at h1
    rw [h1]
    have h6 : j % 6 < 6 := by omega
    generalize hm : j % 6 = m at *
    have hg : (madeCells #[.string ⟨#[]⟩, .string ⟨#[]⟩, .string ⟨#[]⟩, .pointer none, .slice none 0 0, .nilIface] (n * 6)).toList[j]? = some ((#[.string ⟨#[]⟩, .string ⟨#[]⟩, .string ⟨#[]⟩, .pointer none, .slice none 0 0, .nilIface] : Array Value)[m]!) := by
      simp [madeCells, hj, hm]
    rw [hg]
    have : m = 0 ∨ m = 1 ∨ m = 2 ∨ m = 3 ∨ m = 4 ∨ m = 5 := by omega
    rcases this with rfl | rfl | rfl | rfl | rfl | rfl <;> rfl
  · rw [List.getElem?_eq_none (by rw [Array.length_toList, size_madeCells]; omega), List.getElem?_eq_none (by rw [mrow_len]; simp; omega)]

/-- a full row of messages reads as messages -/
theorem msgs_of_row {w : World} {base n g c : Nat} {ts : List ByteArray} (h : w.ownsRow base 28 6 (.slice (some ⟨g, 0, none⟩) n c) n (mrow ts)) (hl : ts.length = n) : Msgs w w.heap.size (some ⟨g, 0, none⟩) n ts := by
  refine ⟨hl, fun _ => ⟨g, 0, rfl, (h.lt g rfl).2, fun j t hj i u hu => ?_⟩⟩
  have hi : i < 6 := by have := (List.getElem?_eq_some_iff.1 hu).1; simpa [msgIn] using this
  have hjl : j < ts.length := (List.getElem?_eq_some_iff.1 hj).1
  rw [Nat.zero_add, h.cellAt (j * 6 + i) (by omega), mrow_get ts j t i hj hi]
  exact hu

set_option maxHeartbeats 1600000 in
set_option maxRecDepth 100000 in
theorem msgs18_any (A : Option Addr) (n c : Nat) (ss : List ByteArray) (w : World) (h : RdS w w.heap.size A n ss) (hs : n ≤ 1048576) :
    Calls Tryf.prog 18 #[.slice A n c] w fun e w' => ∃ A', e = .returned (.slice A' n n) ∧ Msgs w' w'.heap.size A' n ss ∧ Below w.heap.size w w' := by
  have hlen := h.len
  replace hlen := hide hlen
  go_enter Tryf.func18, Tryf.ntmps18
  go_wp2_with (at_make; refine wpList_mk (c := n) E24 rfl _ rfl w.heap.size n rfl rfl (by omega) (by decide) (Nat.le_refl _) ?_; intro w3 hown3 hg hsz)
  rw [made_msgs] at hown3
  have hb3 : Below w.heap.size w w3 := (Below.refl _ _).grown hg (Nat.le_refl _) (by intro k hk; cases hk)
  go_loopw [4] (fun s4 wr => ∃ i : Nat, i ≤ n ∧ s4 = .int .i64 i ∧ Hid (wr.ownsRow w.heap.size 28 6 (.slice (some ⟨w.heap.size, 0, none⟩) n n) n (mrow (tfill ss n i))) ∧ Hid (Below w.heap.size w wr)) (fun s4 _ => n - (intOf s4).toNat)
  case atStart => exact ⟨0, Nat.zero_le _, rfl, hide (by simpa [tfill] using hown3), hide hb3⟩
  case round =>
    clear hown3 hb3 hg hsz
    obtain ⟨i, hi, rfl, hown, hb⟩ := hrel
    by_cases hin : i < n
    · obtain ⟨b, off, s, ha, hB, hk, hc⟩ := h.at hin
      subst ha
      have hc2 := (hb.out.cell (p := ⟨b, off + i, none⟩) hB).trans hc
      have hf := hown.out.frozenAt (i * 6 + 2)
      have hu : _ = some (Value.string ⟨#[]⟩) := (hown.out.cellAt (i * 6 + 2) (by omega)).trans (mrow_get _ i _ 2 (tfill_get ss n i hlen.out hin) (by omega))
      have R := (hown.out.stored (i * 6 + 2) (.string s)).1
      rw [mrow_set ss n i hlen.out hk] at R
      have hb6 := hb.out.setCell (p := ⟨w.heap.size, i * 6 + 2, none⟩) (Nat.le_refl _) (.string s)
      replace R := hide R
      replace hb6 := hide hb6
      clear hown hb hk hc
      go_wp2
      go_roundw
      case rel => exact ⟨i + 1, by omega, by go_num, R, hb6⟩
      case measure => simp [intOf]; omega
    · obtain rfl : i = n := by omega
      have hfin := hown.out
      rw [tfill_all ss i hlen.out] at hfin
      replace hfin := hide hfin
      clear hown
      go_wp2
      go_ret
      exact ⟨_, rfl, msgs_of_row hfin.out hlen.out, hb.out⟩

set_option maxHeartbeats 1600000 in
set_option maxRecDepth 100000 in
theorem msgs20_any (A : Option Addr) (n c : Nat) (ss : List ByteArray) (w : World) (h : RdS w w.heap.size A n ss) (hs : n ≤ 1048576) :
    Calls Tryf.prog 20 #[.slice A n c] w fun e w' => ∃ A', e = .returned (.slice A' n n) ∧ Msgs w' w'.heap.size A' n ss ∧ Below w.heap.size w w' := by
  have hlen := h.len
  replace hlen := hide hlen
  go_enter Tryf.func20, Tryf.ntmps20
  go_wp2_with (at_make; refine wpList_mk (c := n) E24 rfl _ rfl w.heap.size n rfl rfl (by omega) (by decide) (Nat.le_refl _) ?_; intro w3 hown3 hg hsz)
  rw [made_msgs] at hown3
  have hb3 : Below w.heap.size w w3 := (Below.refl _ _).grown hg (Nat.le_refl _) (by intro k hk; cases hk)
  go_loopw [4] (fun s4 wr => ∃ i : Nat, i ≤ n ∧ s4 = .int .i64 i ∧ Hid (wr.ownsRow w.heap.size 28 6 (.slice (some ⟨w.heap.size, 0, none⟩) n n) n (mrow (tfill ss n i))) ∧ Hid (Below w.heap.size w wr)) (fun s4 _ => n - (intOf s4).toNat)
  case atStart => exact ⟨0, Nat.zero_le _, rfl, hide (by simpa [tfill] using hown3), hide hb3⟩
  case round =>
    clear hown3 hb3 hg hsz
    obtain ⟨i, hi, rfl, hown, hb⟩ := hrel
    by_cases hin : i < n
    · obtain ⟨b, off, s, ha, hB, hk, hc⟩ := h.at hin
      subst ha
      have hc2 := (hb.out.cell (p := ⟨b, off + i, none⟩) hB).trans hc
      have hf := hown.out.frozenAt
      have hu : ∀ j, j < 6 → wr.cell? ⟨w.heap.size, i * 6 + j, none⟩ = (msgIn ⟨#[]⟩)[j]? := fun j hj => (hown.out.cellAt (i * 6 + j) (by omega)).trans (mrow_get _ i _ j (tfill_get ss n i hlen.out hin) hj)
      have u0 : wr.cell? ⟨w.heap.size, i * 6, none⟩ = some (.string ⟨#[]⟩) := hu 0 (by omega)
      have u1 : _ = some (Value.string ⟨#[]⟩) := hu 1 (by omega)
      have u2 : _ = some (Value.string ⟨#[]⟩) := hu 2 (by omega)
      have u3 : _ = some (Value.pointer none) := hu 3 (by omega)
      have u4 : _ = some (Value.slice none 0 0) := hu 4 (by omega)
      have u5 : _ = some Value.nilIface := hu 5 (by omega)
      have R := ((((((hown.out.stored (i * 6) (.string ⟨#[]⟩)).1.stored (i * 6 + 1) (.string ⟨#[]⟩)).1.stored (i * 6 + 2) (.string s)).1.stored (i * 6 + 3) (.pointer none)).1.stored (i * 6 + 4) (.slice none 0 0)).1.stored (i * 6 + 5) .nilIface).1
      rw [mrow_set6 ss n i hlen.out hk] at R
      have hL : w.heap.size ≤ w.heap.size := Nat.le_refl _
      have hb6 := (((((hb.out.setCell (p := ⟨w.heap.size, i * 6, none⟩) hL (.string ⟨#[]⟩)).setCell (p := ⟨w.heap.size, i * 6 + 1, none⟩) hL (.string ⟨#[]⟩)).setCell (p := ⟨w.heap.size, i * 6 + 2, none⟩) hL (.string s)).setCell (p := ⟨w.heap.size, i * 6 + 3, none⟩) hL (.pointer none)).setCell (p := ⟨w.heap.size, i * 6 + 4, none⟩) hL (.slice none 0 0)).setCell (p := ⟨w.heap.size, i * 6 + 5, none⟩) hL .nilIface
      replace R := hide R
      replace hb6 := hide hb6
      clear hu hown hb hk hc hL
      go_wp2
      go_roundw
      case rel => exact ⟨i + 1, by omega, by go_num, R, hb6⟩
      case measure => simp [intOf]; omega
    · obtain rfl : i = n := by omega
      have hfin := hown.out
      rw [tfill_all ss i hlen.out] at hfin
      replace hfin := hide hfin
      clear hown
      go_wp2
      go_ret
      exact ⟨_, rfl, msgs_of_row hfin.out hlen.out, hb.out⟩
end Go.Proofs.YtcmajdimggdkoaaFmt
