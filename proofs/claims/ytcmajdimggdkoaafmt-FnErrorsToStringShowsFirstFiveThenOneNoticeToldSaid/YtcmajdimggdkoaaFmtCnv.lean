/-
  The walk of convertMessagesToInternal: messages with nothing but a text. Conditions: sizes.
-/
import Derived.Test.YtcmajdimggdkoaaFmtIdn
import Derived.Test.YtcmajdimggdkoaaFmtMax
import Derived.Deep.RegionHeld3
namespace Go.Proofs.YtcmajdimggdkoaaFmt
open Go.RowKit

theorem E58 : ElemT Tryf.prog 58 66 (.agg #[.slice none 0 0, .string ByteArray.empty, .nilIface, .pointer none, .string ByteArray.empty, .bool false, .int .u8 0, .int .u8 0]) 8 96 := ⟨Tryf.underlying58, by kernel_rfl, rfl, by decide⟩
theorem E24 : ElemT Tryf.prog 24 28 (.agg #[.string ByteArray.empty, .string ByteArray.empty, .string ByteArray.empty, .pointer none, .slice none 0 0, .nilIface]) 6 96 := ⟨Tryf.underlying24, by kernel_rfl, rfl, by decide⟩
theorem E32 : ElemT Tryf.prog 32 9 (.string ByteArray.empty) 1 16 := ⟨Tryf.underlying32, by kernel_rfl, rfl, by decide⟩

/-- the cells of a message with nothing but a text -/
def msgIn (t : ByteArray) : List Value := [.string ⟨#[]⟩, .string ⟨#[]⟩, .string t, .pointer none, .slice none 0 0, .nilIface]
/-- the cells of what it turns into -/
def msgOut (k : Int) (t : ByteArray) : List Value := [.slice none 0 0, .string ⟨#[]⟩, .nilIface, .pointer none, .string t, .bool false, .int .u8 k, .int .u8 0]

/-- messages from block b, place off on -/
def Msgs (w : World) (B : Nat) (A : Option Addr) (n : Nat) (ts : List ByteArray) : Prop :=
  ts.length = n ∧ (0 < n → ∃ b off, A = some ⟨b, off, none⟩ ∧ b < B ∧ ∀ j t, ts[j]? = some t → ∀ i u, (msgIn t)[i]? = some u → w.cell? ⟨b, off + j * 6 + i, none⟩ = some u)
theorem Msgs.below {w w' : World} {B n : Nat} {A : Option Addr} {ts : List ByteArray} (h : Msgs w B A n ts) (hb : Below B w w') : Msgs w' B A n ts := by
  refine ⟨h.1, fun hn => ?_⟩
  obtain ⟨b, off, e, hB, hc⟩ := h.2 hn
  exact ⟨b, off, e, hB, fun j t hj i u hu => (hb.cell (p := ⟨b, off + j * 6 + i, none⟩) hB).trans (hc j t hj i u hu)⟩
theorem Msgs.more {w : World} {B B' n : Nat} {A : Option Addr} {ts : List ByteArray} (h : Msgs w B A n ts) (hB : B ≤ B') : Msgs w B' A n ts := by
  refine ⟨h.1, fun hn => ?_⟩
  obtain ⟨b, off, e, hb, hc⟩ := h.2 hn
  exact ⟨b, off, e, by omega, hc⟩

/-- all the cells of the messages turned -/
def outs (k : Int) (ts : List ByteArray) : List Value := ts.flatMap (msgOut k)

theorem own_below {w w' : World} {B e size n : Nat} {v : Value} {xs : List Value} (h : w.ownsRow B e size v n xs) (hb : Below w.heap.size w w') : w'.ownsRow B e size v n xs := by
  refine ⟨h.1, ?_⟩
  rcases h.2 with hn | ⟨g, cap, cur, rfl, hg, hgg, rest⟩
  · exact .inl hn
  · exact .inr ⟨g, cap, cur, rfl, hg, by rw [hb.block g (Array.getElem?_eq_some_iff.1 hgg).1]; exact hgg, rest⟩

/-- what the round reads of its message -/
def Held6 (M : Nat) (t : ByteArray) (w' : World) : Prop := w'.cell? ⟨M, 0, none⟩ = some (.string ⟨#[]⟩) ∧ w'.cell? ⟨M, 1, none⟩ = some (.string ⟨#[]⟩) ∧ w'.cell? ⟨M, 2, none⟩ = some (.string t) ∧ w'.cell? ⟨M, 3, none⟩ = some (.pointer none) ∧ w'.cell? ⟨M, 5, none⟩ = some .nilIface ∧ M < w'.heap.size
theorem held_same {M : Nat} {t : ByteArray} {w1 w2 : World} (h : Held6 M t w1) (hs : w1.heap.size ≤ w2.heap.size) (hc : ∀ j, w2.cell? ⟨M, j, none⟩ = w1.cell? ⟨M, j, none⟩) : Held6 M t w2 := by
  obtain ⟨h0, h1, h2, h3, h5, hM⟩ := h
  exact ⟨(hc 0).trans h0, (hc 1).trans h1, (hc 2).trans h2, (hc 3).trans h3, (hc 5).trans h5, by omega⟩
theorem held_below {M : Nat} {t : ByteArray} {w1 w2 : World} (h : Held6 M t w1) (hb : Below w1.heap.size w1 w2) : Held6 M t w2 :=
  held_same h hb.size fun j => hb.cell (p := ⟨M, j, none⟩) h.2.2.2.2.2
theorem held_alloc {M : Nat} {t : ByteArray} {w1 : World} {o : Obj} (h : Held6 M t w1) : Held6 M t (w1.alloc o) :=
  held_below h ((Below.refl _ _).alloc (Nat.le_refl _) _)
theorem held_grown {M : Nat} {t : ByteArray} {w1 w2 : World} {row : Option Nat} (h : Held6 M t w1) (hg : w1.grownBy w2 row) (hne : row ≠ some M) : Held6 M t w2 := by
  refine held_same h hg.size fun j => ?_
  unfold World.cell?
  rw [hg.block M h.2.2.2.2.2 (fun e => hne e.symm)]
theorem held_new (w : World) (t : ByteArray) : Held6 w.heap.size t (w.alloc (.cells #[.string ⟨#[]⟩, .string ⟨#[]⟩, .string t, .pointer none, .slice none 0 0, .nilIface] 28)).drew := by
  have hc : ∀ j, (w.alloc (.cells #[.string ⟨#[]⟩, .string ⟨#[]⟩, .string t, .pointer none, .slice none 0 0, .nilIface] 28)).drew.cell? ⟨w.heap.size, j, none⟩ = (#[.string ⟨#[]⟩, .string ⟨#[]⟩, .string t, .pointer none, .slice none 0 0, .nilIface] : Array Value)[j]? := fun j => World.cell?_alloc_at _ _ _ _ rfl
  refine ⟨hc 0, hc 1, hc 2, hc 3, hc 5, ?_⟩
  show w.heap.size < (w.alloc _).heap.size
  simp
theorem cells_msg (t : ByteArray) (k : Int) : ∀ u ∈ (#[.slice none 0 0, .string ⟨#[]⟩, .nilIface, .pointer none, .string t, .bool false, .int .u8 k, .int .u8 0] : Array Value).toList, u.oneCell' = true := by
  intro u hu
  simp at hu
  rcases hu with rfl | rfl | rfl | rfl | rfl | rfl | rfl | rfl <;> rfl

theorem outs_succ (k : Int) {ts : List ByteArray} {i : Nat} {t : ByteArray} (h : ts[i]? = some t) : outs k (ts.take (i + 1)) = outs k (ts.take i) ++ msgOut k t := by
  unfold outs
  rw [List.take_add_one, h]
  simp

set_option maxHeartbeats 3200000 in
set_option maxRecDepth 100000 in
theorem conv24_any (k : Int) (A : Option Addr) (n c : Nat) (ts : List ByteArray) (w : World) (h : Msgs w w.heap.size A n ts) (hn : n ≤ 1048576) :
    Calls Tryf.prog 24 #[.slice none 0 0, .int .u8 k, .slice A n c] w fun e w' => ∃ v, e = .returned v ∧ w'.ownsRow w.heap.size 66 8 v n (outs k ts) ∧ Below w.heap.size w w' := by
  go_enter Tryf.func24, Tryf.ntmps24
  go_wp2_with fail
  go_loopw [0, 14] (fun v s14 wr => ∃ i : Nat, i ≤ n ∧ s14 = .int .i64 i ∧ Hid (wr.ownsRow w.heap.size 66 8 v i (outs k (ts.take i))) ∧ Hid (Below w.heap.size w wr)) (fun _ s14 _ => n - (intOf s14).toNat)
  case atStart => exact ⟨0, Nat.zero_le _, rfl, hide ⟨rfl, .inl ⟨rfl, rfl⟩⟩, hide (Below.refl _ _)⟩
  case round =>
    obtain ⟨i, hi, rfl, hown, hb⟩ := hrel
    have hbs := hb.out.size
    by_cases hin : i < n
    · obtain ⟨b, off, rfl, hB, hcs⟩ := h.2 (by omega)
      obtain ⟨t, htk⟩ : ∃ t, ts[i]? = some t := ⟨_, List.getElem?_eq_getElem (by rw [h.1]; exact hin)⟩
      have q : ∀ j u, (msgIn t)[j]? = some u → wr.cell? ⟨b, off + i * 6 + j, none⟩ = some u := fun j u hu => (hb.out.cell (p := ⟨b, off + i * 6 + j, none⟩) hB).trans (hcs i t htk j u hu)
      have q0 : wr.cell? ⟨b, off + i * 6, none⟩ = some (.string ⟨#[]⟩) := q 0 _ rfl
      have q1 := q 1 _ rfl
      have q2 := q 2 _ rfl
      have q3 := q 3 _ rfl
      have q4 := q 4 _ rfl
      have q5 := q 5 _ rfl
      replace htk := hide htk
      replace hcs := hide hcs
      clear q
      go_wp2_with fail
      refine wp_loop_rounds 1 ?_
      rw [rounds_succ]
      go_upto_region 10 with (fail)
      have C31 : ∀ wb : World, Calls Tryf.prog 31 #[.string ⟨#[]⟩] wb fun e w' => e = .returned (.int .u8 0) ∧ Below wb.heap.size wb w' := max31_empty
      have C30 : ∀ wb : World, Calls Tryf.prog 30 #[.pointer none] wb fun e w' => e = .returned (.pointer none) ∧ wb = w' := loc30_nil
      replace C31 := hide C31
      replace C30 := hide C30
      have hS0 : Held6 wr.heap.size t (wr.alloc (.cells #[.string ⟨#[]⟩, .string ⟨#[]⟩, .string t, .pointer none, .slice none 0 0, .nilIface] 28)).drew := held_new wr t
      have hown0 : (wr.alloc (.cells #[.string ⟨#[]⟩, .string ⟨#[]⟩, .string t, .pointer none, .slice none 0 0, .nilIface] 28)).drew.ownsRow w.heap.size 66 8 u0 i (outs k (ts.take i)) := own_below hown.out (((Below.refl _ _).alloc (Nat.le_refl _) _).drew)
      have hne : u0.ownBlock ≠ some wr.heap.size := fun e => absurd (hown.out.lt _ e).2 (Nat.lt_irrefl _)
      have hbb : Below w.heap.size w (wr.alloc (.cells #[.string ⟨#[]⟩, .string ⟨#[]⟩, .string t, .pointer none, .slice none 0 0, .nilIface] 28)).drew := (hb.out.alloc hbs _).drew
      replace hown0 := hide hown0
      replace hbb := hide hbb
      clear q0 q1 q2 q3 q4 q5
      unfold Held6 at hS0
      go_region_held3 (fun w' : World => w'.cell? ⟨wr.heap.size, 0, none⟩ = some (.string ⟨#[]⟩) ∧ w'.cell? ⟨wr.heap.size, 1, none⟩ = some (.string ⟨#[]⟩) ∧ w'.cell? ⟨wr.heap.size, 2, none⟩ = some (.string t) ∧ w'.cell? ⟨wr.heap.size, 3, none⟩ = some (.pointer none) ∧ w'.cell? ⟨wr.heap.size, 5, none⟩ = some .nilIface ∧ wr.heap.size < w'.heap.size)
        (first | exact hS0 | assumption | exact held_below (by assumption) hb2 | exact held_grown hS2 hg hne | exact held_alloc (by assumption))
        (first
          | (refine step_push E58 rfl _ _ rfl hown2.out rfl #[_, _, _, _, _, _, _, _] rfl rfl (cells_msg _ _) (by omega) (by decide) (by have := hbb2.out.size; omega) ?_; intro g cap w1 hown1 hg)
          | (go_at_call 31; (with_reducible refine (C31.out _).mono ?_); rintro e w2 ⟨rfl, hb2⟩; have hown2 := hide (own_below hown0.out hb2); have hS2 : Held6 wr.heap.size t w2 := held_below (by assumption) hb2; have hbb2 := hide (hbb.out.trans (hb2.mono hbb.out.size)))
          | (go_at_call 30; (with_reducible refine (C30.out _).mono ?_); rintro e w2 ⟨rfl, rfl⟩))
      have hown3 : w1.ownsRow w.heap.size 66 8 (.slice (some ⟨g, 0, none⟩) (i + 1) cap) (i + 1) (outs k (ts.take (i + 1))) := by rw [outs_succ k htk.out]; exact hown1
      have hb3 := hbb2.out.grown hg hbb2.out.size (fun g e => (hown2.out.lt g e).1)
      replace hown3 := hide hown3
      replace hb3 := hide hb3
      clear hown1 hg hown2 hbb2 hS2 hb2 hown0 hbb hS0 hown hb hcs htk C30 C31 hne
      go_wp2
      go_roundw
      case rel => exact ⟨i + 1, by omega, by go_num, hown3, hb3⟩
      case measure => simp [intOf]; omega
    · obtain rfl : i = n := by omega
      have hfin := hown.out
      rw [List.take_of_length_le (by rw [h.1]; exact Nat.le_refl _)] at hfin
      replace hfin := hide hfin
      clear hown
      go_wp2
      go_ret
      exact ⟨_, rfl, hfin.out, hb.out⟩
end Go.Proofs.YtcmajdimggdkoaaFmt
