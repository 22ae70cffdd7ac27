/-
  The walks of msgToStringDefault and Msg.String at an error or a warning with nothing but a text. Conditions: sizes.
-/
import Derived.Test.YtcmajdimggdkoaaFmtMst
import Derived.Test.YtcmajdimggdkoaaFmtBld
import Derived.Test.YtcmajdimggdkoaaFmtShelf
namespace Go.Proofs.YtcmajdimggdkoaaFmt
open Go.RowKit Go.Extern.Stop Go.Stop Go.Extern

theorem below_grownBy {a w : World} (h : Below a.heap.size a w) : a.grownBy w none := ⟨h.os, h.tape, h.output, h.size, fun k hk _ => h.block k hk⟩
theorem bu_new_at {w : World} {n : Nat} (h : n = w.heap.size) : Bu n n [] (w.alloc (.cells #[.pointer none, .slice none 0 0] 57)) := by
  subst h
  exact Bu.new w
theorem Bu.below {B b : Nat} {l : List UInt8} {w w' : World} (h : Bu B b l w) (hb : Below w.heap.size w w') : Bu B b l w' := by
  have hx : ∀ p, Lib.BuilderAt 57 5 B b p (l.map bv) w → Lib.BuilderAt 57 5 B b p (l.map bv) w' := fun p ⟨hB, v, hbk, hown, hne⟩ =>
    ⟨hB, v, (hb.block b (Array.getElem?_eq_some_iff.1 hbk).1).trans hbk, hown.kept (row := none) (below_grownBy hb) (by cases v.ownBlock <;> simp), hne⟩
  rcases h with h | h
  · exact .inl (hx _ h)
  · exact .inr (hx _ h)

/-- what msgString is known to do at kind k -/
def Line39 (F : Interp) (k : Int) (A K t : ByteArray) : Prop := ∀ w : World, F.told.answers w.tape →
    Calls Tryf.prog 39 #[.bool true, .int .u8 0, .agg #[.bool false, .bool false, .int .i64 0, .int .i64 0], .int .u8 0, .int .u8 k, .agg #[.nilIface, .pointer none, .string t, .bool false], .string ⟨#[]⟩] w
      fun e w' => e = .returned (.string (ofBytes (lineOf A.data.toList K.data.toList t.data.toList))) ∧ Below w.heap.size w w'

/-- the text of a message -/
def msgText (A K t : ByteArray) : List UInt8 := lineOf A.data.toList K.data.toList t.data.toList ++ [10]

set_option maxHeartbeats 3200000 in
set_option maxRecDepth 100000 in
theorem dflt34_any (F : Interp) (k : Int) (A K t : ByteArray) (w : World) (hF : F.told.answers w.tape) (ht : t.size ≤ 1048576) (hA : A.size ≤ 16) (hK : K.size ≤ 16) (C : Line39 F k A K t) :
    Calls Tryf.prog 34 #[.agg #[.slice none 0 0, .string ⟨#[]⟩, .nilIface, .pointer none, .string t, .bool false, .int .u8 k, .int .u8 0], .agg #[.int .i64 0, .bool true, .int .u8 0, .int .i8 0, .int .i8 0, .int .u8 0, .map none], .agg #[.bool false, .bool false, .int .i64 0, .int .i64 0]] w
      fun e w' => e = .returned (.string (ofBytes (msgText A K t))) ∧ Below w.heap.size w w' := by
  replace hF := hide hF
  replace C := hide C
  go_enter Tryf.func34, Tryf.ntmps34
  go_wp2_with fail
  refine (C.out _ ?_).mono ?_
  exact hF.out
  rintro e w1 ⟨rfl, hb1⟩
  have n0 : w1.cell? ⟨w.heap.size, 0, none⟩ = some (.slice none 0 0) := (hb1.cell (p := ⟨w.heap.size, 0, none⟩) (by simp <;> omega)).trans (by rw [World.cell?_alloc_past _ _ _ (by simp <;> omega), World.cell?_alloc_past _ _ _ (by simp <;> omega), World.cell?_alloc_past _ _ _ (by simp <;> omega), World.cell?_alloc_at _ _ _ _ rfl]; rfl)
  have o1 : w1.cell? ⟨w.heap.size + 1, 1, none⟩ = some (.bool true) := (hb1.cell (p := ⟨w.heap.size + 1, 1, none⟩) (by simp <;> omega)).trans (by rw [World.cell?_alloc_past _ _ _ (by simp <;> omega), World.cell?_alloc_past _ _ _ (by simp <;> omega), World.cell?_alloc_at _ _ _ _ (by simp <;> omega)]; rfl)
  have hu1 : Bu (w.heap.size + 1 + 1 + 1) (w.heap.size + 1 + 1 + 1) [] w1 := (bu_new_at (by simp)).below hb1
  have hsz := hb1.size
  have hb2 : Below w.heap.size w w1 := (((((Below.refl _ _).alloc (Nat.le_refl _) _).alloc (by simp <;> omega) _).alloc (by simp <;> omega) _).alloc (by simp <;> omega) _).trans (hb1.mono (by simp <;> omega))
  simp at hsz
  have hU : (ofBytes (lineOf A.data.toList K.data.toList t.data.toList)).size ≤ 1048640 := by rw [ofBytes_size]; simp [lineOf]; omega
  obtain ⟨U, hUe⟩ : ∃ U, U = ofBytes (lineOf A.data.toList K.data.toList t.data.toList) := ⟨_, rfl⟩
  rw [← hUe] at hU ⊢
  replace hUe := hide hUe
  replace hu1 := hide hu1
  replace hb2 := hide hb2
  clear hb1 C
  go_wp2_with fail
  refine (writeString_any (w.heap.size + 1 + 1 + 1) (w.heap.size + 1 + 1 + 1) [] U _ hu1.out (by simp; omega) (by omega)).mono ?_
  rintro e w2 ⟨rfl, hu2, hb3⟩
  replace n0 := (hb3.cell (p := ⟨w.heap.size, 0, none⟩) (by show w.heap.size < _; omega)).trans n0
  replace o1 := (hb3.cell (p := ⟨w.heap.size + 1, 1, none⟩) (by show w.heap.size + 1 < _; omega)).trans o1
  have hsz2 := hb3.size
  have hb4 := hide (hb2.out.trans (hb3.mono (by omega)))
  have n1 : ∀ o, (w2.alloc o).cell? ⟨w.heap.size, 0, none⟩ = some (.slice none 0 0) := fun o => (World.cell?_alloc_lt w2 o _ (by show w.heap.size < _; omega)).trans n0
  have o2 : ∀ o, (w2.alloc o).cell? ⟨w.heap.size + 1, 1, none⟩ = some (.bool true) := fun o => (World.cell?_alloc_lt w2 o _ (by show w.heap.size + 1 < _; omega)).trans o1
  have hu3 : ∀ o, Bu (w.heap.size + 1 + 1 + 1) (w.heap.size + 1 + 1 + 1) U.data.toList (w2.alloc o) := fun o => Bu.below hu2 ((Below.refl _ _).alloc (Nat.le_refl _) _)
  replace hu3 := hide hu3
  clear hb3 hu1 hb2 hu2 n0 o1
  go_wp2_with fail
  refine wp_loop_rounds 1 ?_
  rw [rounds_succ]
  go_wp2_with fail
  refine (writeString_any (w.heap.size + 1 + 1 + 1) (w.heap.size + 1 + 1 + 1) U.data.toList ⟨#[10]⟩ _ (hu3.out _) (by rw [ba_len]; show U.size + 1 ≤ _; omega) (by simp; omega)).mono ?_
  rintro e w3 ⟨rfl, hu4, hb5⟩
  have hsz3 := hb5.size
  simp at hsz3
  have hb6 := hide ((hb4.out.alloc hb4.out.size (.cells #[.nilIface, .pointer none, .string ⟨#[]⟩, .bool false] 64)).trans (hb5.mono (by omega)))
  replace hu4 := hide hu4
  clear hb5 hu3 hb4 n1 o2
  go_wp2_with fail
  refine (Tryf.Builder_String_any (w.heap.size + 1 + 1 + 1) (w.heap.size + 1 + 1 + 1) _ w3 hu4.out (by omega)).mono ?_
  rintro e w4 ⟨rfl, hb7⟩
  replace hb7 := hide (hb6.out.trans (hb7.mono (by omega)))
  have hres : (⟨(U.data.toList ++ (⟨#[10]⟩ : ByteArray).data.toList).toArray⟩ : ByteArray) = ofBytes (msgText A K t) := by
    rw [hUe.out, ofBytes_data]
    rfl
  rw [hres]
  clear hb6
  go_wp2
  go_ret
  exact ⟨rfl, hb7.out⟩

set_option maxHeartbeats 1600000 in
set_option maxRecDepth 100000 in
theorem string27_any (F : Interp) (k : Int) (A K t : ByteArray) (w : World) (hF : F.told.answers w.tape) (ht : t.size ≤ 1048576) (hA : A.size ≤ 16) (hK : K.size ≤ 16) (C : Line39 F k A K t) :
    Calls Tryf.prog 27 #[.agg #[.slice none 0 0, .string ⟨#[]⟩, .nilIface, .pointer none, .string t, .bool false, .int .u8 k, .int .u8 0], .agg #[.int .i64 0, .bool true, .int .u8 0, .int .i8 0, .int .i8 0, .int .u8 0, .map none], .agg #[.bool false, .bool false, .int .i64 0, .int .i64 0]] w
      fun e w' => e = .returned (.string (ofBytes (msgText A K t))) ∧ Below w.heap.size w w' := by
  have D := fun wb hb => dflt34_any F k A K t wb hb ht hA hK C
  replace D := hide D
  replace hF := hide hF
  have hB := (Below.refl w.heap.size w).alloc (Nat.le_refl _)
  replace hB := hide hB
  clear C ht hA hK
  go_enter Tryf.func27, Tryf.ntmps27
  go_wp2_with fail
  refine (D.out _ ?_).mono ?_
  exact hF.out
  rintro e w1 ⟨rfl, hb1⟩
  go_wp2
  go_ret
  refine ⟨rfl, ?_⟩
  first
    | exact hb1
    | exact (hB.out _).trans (hb1.mono (by simp))
    | exact ((hB.out _).alloc (by simp) _).trans (hb1.mono (by simp <;> omega))
    | exact (((hB.out _).alloc (by simp) _).alloc (by simp <;> omega) _).trans (hb1.mono (by simp <;> omega))
end Go.Proofs.YtcmajdimggdkoaaFmt
