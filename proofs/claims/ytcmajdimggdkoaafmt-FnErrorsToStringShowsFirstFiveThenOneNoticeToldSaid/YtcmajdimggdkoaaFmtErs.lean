/-
  The walk of errorsToString at five messages or fewer with nothing but a text. Conditions: sizes.
-/
import Derived.Test.YtcmajdimggdkoaaFmtLaw30A
import Derived.Test.YtcmajdimggdkoaaFmtBlf
namespace Go.Proofs.YtcmajdimggdkoaaFmt
open Go.RowKit Go.Extern.Stop Go.Stop Go.Extern

/-- the report on the messages -/
def reportOf (ts : List ByteArray) : List UInt8 := ts.flatMap (textOf false)
theorem reportOf_succ {ts : List ByteArray} {i : Nat} {t : ByteArray} (h : ts[i]? = some t) : reportOf (ts.take (i + 1)) = reportOf (ts.take i) ++ textOf false t := by
  unfold reportOf
  rw [List.take_add_one, h]
  simp

theorem report_le : ∀ (ts : List ByteArray), (∀ t ∈ ts, t.size ≤ 1048576) → (reportOf ts).length ≤ ts.length * 1048590
  | [], _ => by simp [reportOf]
  | a :: r, h => by
    have ih := report_le r (fun t ht => h t (List.mem_cons_of_mem _ ht))
    have ha := h a (by simp)
    have e : (textOf false a).length = a.size + 14 := by rw [textOf_err]; simp
    have e2 : reportOf (a :: r) = textOf false a ++ reportOf r := by simp [reportOf]
    rw [e2, List.length_append, e, List.length_cons]
    omega
theorem report_len (ts : List ByteArray) (ht : ∀ t ∈ ts, t.size ≤ 1048576) (hn : ts.length ≤ 5) (i : Nat) (t : ByteArray) (h : ts[i]? = some t) : (reportOf (ts.take i)).length + (msgText iconE wordE t).length ≤ 1073741824 := by
  have h1 := report_le (ts.take i) (fun t h => ht t (List.mem_of_mem_take h))
  have h2 : (ts.take i).length ≤ 5 := by rw [List.length_take]; omega
  have h3 := Nat.mul_le_mul_right 1048590 h2
  have h4 : (msgText iconE wordE t).length = t.size + 14 := by
    have := congrArg List.length (textOf_err t)
    simpa [textOf] using this
  have h5 := ht t (List.mem_of_getElem? h)
  omega
theorem BuR.below {R b : Nat} {l : List UInt8} {w w' : World} (h : BuR R b l w) (hb : Below w.heap.size w w') : BuR R b l w' := by
  obtain ⟨hbR, q, v, hq, hbk, hown⟩ := h
  exact ⟨hbR, q, v, hq, (hb.block b (Array.getElem?_eq_some_iff.1 hbk).1).trans hbk, own_below hown hb⟩

set_option maxHeartbeats 3200000 in
set_option maxRecDepth 100000 in
theorem errs21_few (F : Interp) (P : Option Addr) (n c : Nat) (ts : List ByteArray) (w : World) (hF : F.told.answers w.tape) (h : Msgs w w.heap.size P n ts) (hn : n ≤ 5) (ht : ∀ t ∈ ts, t.size ≤ 1048576) :
    Calls Tryf.prog 21 #[.slice P n c] w fun e w' => e = .returned (.string (ofBytes (reportOf ts))) ∧ Below w.heap.size w w' := by
  replace hF := hide hF
  go_enter Tryf.func21, Tryf.ntmps21
  go_wp2_with fail
  refine (conv24_any 0 P n c ts _ ((h.below ((((Below.refl _ _).alloc (Nat.le_refl _) _).alloc (by simp) _).alloc (by simp <;> omega) _)).more (by simp <;> omega)) (by omega)).mono ?_
  rintro e w2 ⟨v, rfl, hown, hb⟩
  obtain ⟨A', c', rfl, hnc, hcm, hcells⟩ := outs_at hown
  have hbs := hb.size
  simp at hbs
  have o : ∀ j u, (#[.int .i64 0, .bool true, .int .u8 0, .int .i8 0, .int .i8 0, .int .u8 0, .map none] : Array Value)[j]? = some u → w2.cell? ⟨w.heap.size, j, none⟩ = some u := fun j u hu => (hb.cell (p := ⟨w.heap.size, j, none⟩) (by simp <;> omega)).trans (by rw [World.cell?_alloc_past _ _ _ (by simp <;> omega), World.cell?_alloc_past _ _ _ (by simp), World.cell?_alloc_at _ _ _ _ rfl]; exact hu)
  have q : ∀ j u, (#[.bool false, .bool false, .int .i64 0, .int .i64 0] : Array Value)[j]? = some u → w2.cell? ⟨w.heap.size + 1, j, none⟩ = some u := fun j u hu => (hb.cell (p := ⟨w.heap.size + 1, j, none⟩) (by simp <;> omega)).trans (by rw [World.cell?_alloc_past _ _ _ (by simp), World.cell?_alloc_at _ _ _ _ (by simp)]; exact hu)
  have hu0 : BuR w2.heap.size (w.heap.size + 1 + 1) [] w2 := BuR.new (by simp) hb (by omega)
  have hb2 : Below w.heap.size w w2 := ((((Below.refl _ _).alloc (Nat.le_refl _) _).alloc (by simp) _).alloc (by simp <;> omega) _).trans (hb.mono (by simp <;> omega))
  have hnl : ts.length ≤ 5 := by rw [h.1]; exact hn
  have hlen : ∀ i t, ts[i]? = some t → (reportOf (ts.take i)).length + (msgText iconE wordE t).length ≤ 1073741824 := fun i t h => report_len ts ht hnl i t h
  unfold maxLen at hcm
  replace hcells := hide hcells
  replace hb2 := hide hb2
  replace o := hide o
  replace q := hide q
  replace hu0 := hide hu0
  clear hb hown
  go_wp2_with fail
  go_loopw [15] (fun s15 wr => ∃ i : Nat, i ≤ n ∧ s15 = .int .i64 i ∧ Hid (BuR w2.heap.size (w.heap.size + 1 + 1) (reportOf (ts.take i)) wr) ∧ Hid (Far w2.heap.size (w.heap.size + 1 + 1) w2 wr)) (fun s15 _ => n - (intOf s15).toNat)
  case atStart => exact ⟨0, Nat.zero_le _, rfl, hide hu0.out, hide (Far.refl _ _ _)⟩
  case round =>
    obtain ⟨i, hi, rfl, hu, hf⟩ := hrel
    have hfs := hf.out.size
    by_cases hin : i < n
    · obtain ⟨t, htk⟩ : ∃ t, ts[i]? = some t := ⟨_, List.getElem?_eq_getElem (by rw [h.1]; exact hin)⟩
      obtain ⟨g, rfl, hg1, hg2, hcs⟩ := hcells.out i t htk hin
      simp at hg1
      have q8 : ∀ j u, (msgOut 0 t)[j]? = some u → wr.cell? ⟨g, i * 8 + j, none⟩ = some u := fun j u hu => (hf.out.cell (p := ⟨g, i * 8 + j, none⟩) hg2 (by show g ≠ _; omega)).trans (hcs j u hu)
      have q0 : wr.cell? ⟨g, i * 8, none⟩ = some (.slice none 0 0) := q8 0 _ rfl
      have q1 := q8 1 _ rfl
      have q2 := q8 2 _ rfl
      have q3 := q8 3 _ rfl
      have q4 := q8 4 _ rfl
      have q5 := q8 5 _ rfl
      have q6 := q8 6 _ rfl
      have q7 := q8 7 _ rfl
      have hts := ht t (List.mem_of_getElem? htk)
      have hi5 : ((i : Int) == 5) = false := by simp; omega
      replace htk := hide htk
      replace hcs := hide hcs
      have oo : ∀ j u, (#[.int .i64 0, .bool true, .int .u8 0, .int .i8 0, .int .i8 0, .int .u8 0, .map none] : Array Value)[j]? = some u → ∀ ob, (wr.alloc ob).cell? ⟨w.heap.size, j, none⟩ = some u := fun j u hu ob =>
        (World.cell?_alloc_lt wr ob _ (by show w.heap.size < _; omega)).trans ((hf.out.cell (p := ⟨w.heap.size, j, none⟩) (by show w.heap.size < _; omega) (by show w.heap.size ≠ _; omega)).trans (o.out j u hu))
      have rr : ∀ j u, (#[.bool false, .bool false, .int .i64 0, .int .i64 0] : Array Value)[j]? = some u → ∀ ob, (wr.alloc ob).cell? ⟨w.heap.size + 1, j, none⟩ = some u := fun j u hu ob =>
        (World.cell?_alloc_lt wr ob _ (by show w.heap.size + 1 < _; omega)).trans ((hf.out.cell (p := ⟨w.heap.size + 1, j, none⟩) (by show w.heap.size + 1 < _; omega) (by show w.heap.size + 1 ≠ _; omega)).trans (q.out j u hu))
      have p0 := oo 0 _ rfl
      have p1 := oo 1 _ rfl
      have p2 := oo 2 _ rfl
      have p3 := oo 3 _ rfl
      have p4 := oo 4 _ rfl
      have p5 := oo 5 _ rfl
      have p6 := oo 6 _ rfl
      have r0 := rr 0 _ rfl
      have r1 := rr 1 _ rfl
      have r2 := rr 2 _ rfl
      have r3 := rr 3 _ rfl
      clear oo rr q8
      have hF1 : F.told.answers wr.tape := by rw [hf.out.tape, hb2.out.tape]; exact hF.out
      have hL := hlen i t htk.out
      have hW : (wr.alloc (.cells #[.slice none 0 0, .string ⟨#[]⟩, .nilIface, .pointer none, .string t, .bool false, .int .u8 0, .int .u8 0] 66)).heap.size = wr.heap.size + 1 := by simp
      replace hF1 := hide hF1
      go_wp2_with fail
      refine (string27_any F 0 iconE wordE t _ ?_ hts (by decide) (by decide) (line_err F t hts)).mono ?_
      exact hF1.out
      rintro e w4 ⟨rfl, hb4⟩
      have hal : Below wr.heap.size wr w4 := ((Below.refl _ _).alloc (Nat.le_refl _) _).trans (hb4.mono (by omega))
      have hu4 := hu.out.below hal
      have hf4 := hf.out.trans (Far.of_below (b := w.heap.size + 1 + 1) (hal.mono hfs))
      have hs4 := hf4.size
      replace hu4 := hide hu4
      replace hf4 := hide hf4
      clear hu hf hal hb4 p0 p1 p2 p3 p4 p5 p6 r0 r1 r2 r3 q0 q1 q2 q3 q4 q5 q6 q7
      go_wp2_with fail
      refine (writeString_far w2.heap.size (w.heap.size + 1 + 1) (reportOf (ts.take i)) (ofBytes (msgText iconE wordE t)) _ hu4.out (by rw [ofBytes_size]; exact hL) hs4).mono ?_
      rintro e w5 ⟨rfl, hu5, hf5⟩
      have hu6 : BuR w2.heap.size (w.heap.size + 1 + 1) (reportOf (ts.take (i + 1))) w5 := by rw [reportOf_succ htk.out]; exact hu5
      have hf6 := hf4.out.trans hf5
      replace hu6 := hide hu6
      replace hf6 := hide hf6
      clear hu5 hf5 hu4 hf4
      go_wp2
      go_roundw
      case rel => exact ⟨i + 1, by omega, by go_num, hu6, hf6⟩
      case measure => simp [intOf]; omega
    · obtain rfl : i = n := by omega
      rw [List.take_of_length_le (by rw [h.1]; exact Nat.le_refl _)] at hu
      have hb6 := hb2.out.trans (hf.out.below (B := w.heap.size) (by omega) (by omega))
      replace hb6 := hide hb6
      go_wp2_with fail
      refine (Tryf.Builder_String_any (w.heap.size + 1 + 1) (w.heap.size + 1 + 1) (reportOf ts) wr hu.out.bu (by omega)).mono ?_
      rintro e w7 ⟨rfl, hb7⟩
      replace hb7 := hide (hb6.out.trans (hb7.mono (by omega)))
      go_wp2
      go_ret
      exact ⟨rfl, hb7.out⟩
end Go.Proofs.YtcmajdimggdkoaaFmt
