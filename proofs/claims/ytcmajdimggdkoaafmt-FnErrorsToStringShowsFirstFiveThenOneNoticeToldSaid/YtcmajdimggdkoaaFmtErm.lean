/-
  The walk of errorsToString at more than five messages: the first five's report and one notice, told by fmt. Conditions: sizes.
-/
import Derived.Test.YtcmajdimggdkoaaFmtHlq
import Derived.Stop.FmtTextKit
import Derived.Stop.FmtTextVerbs
namespace Go.Proofs.YtcmajdimggdkoaaFmt
open Go.RowKit Go.Extern.Stop Go.Stop Go.Extern Go.Kit

def fmtN : List UInt8 := [37,100,32,111,117,116,32,111,102,32,37,100,32,101,114,114,111,114,115,32,115,104,111,119,110,10]
theorem fmtNP (w : World) : (FmtDoors.printed ⟨#[37,100,32,111,117,116,32,111,102,32,37,100,32,101,114,114,111,114,115,32,115,104,111,119,110,10]⟩ 2).run Tryf.prog w = .ok [(0, 100, false), (1, 100, false)] w := by kernel_rfl
theorem fmtNP0 : FmtStop.printed? ⟨#[37,100,32,111,117,116,32,111,102,32,37,100,32,101,114,114,111,114,115,32,115,104,111,119,110,10]⟩ 2 = some [(0, 100, false), (1, 100, false)] := by kernel_rfl
def shape3 : List UInt8 := [5, 3, 0, 0, 0, 0, 0, 0, 0, 105, 110, 116]
theorem op3 (name : String) (x : Int) (w : World) : (FmtStop.operand name false 100 false (.iface 3 (.int .i64 x))).run Tryf.prog w = .ok (shape3, digits 8 (x % 18446744073709551616).toNat) w := by kernel_rfl

/-- what fmt is asked for the notice -/
def readingN (n : Int) : List (List UInt8) := [fmtN, shape3, digits 8 ((5 : Int) % 18446744073709551616).toNat, shape3, digits 8 (n % 18446744073709551616).toNat]
theorem fmtNParse : (FmtText.parse fmtN).map FmtText.glue = some [.verb {} 100, .lit [32,111,117,116,32,111,102,32], .verb {} 100, .lit [32,101,114,114,111,114,115,32,115,104,111,119,110,10]] := by rfl
/-- the notice -/
def noteOf (n : Nat) : List UInt8 := Lib.itoa 5 ++ ([32,111,117,116,32,111,102,32] ++ (Lib.itoa n ++ [32,101,114,114,111,114,115,32,115,104,111,119,110,10]))
theorem wf_nat {n : Nat} (h : n ≤ 1048576) : (Lit.int .i64 (n : Int)).wf = true := by
  simp [Lit.wf, IntKind.min, IntKind.max, IntKind.signed, IntKind.bits]
  omega
theorem note_len {n : Nat} (h : n ≤ 1048576) : (noteOf n).length ≤ 100 := by
  have h1 := FmtText.itoa_length_le (wf_nat h)
  have h2 := FmtText.itoa_length_le (wf_nat (n := 5) (by decide))
  simp only [noteOf, List.length_append, List.length_cons, List.length_nil] at h1 h2 ⊢
  have h3 : (Lib.itoa 5).length ≤ 21 := h2
  omega
theorem note_pos (n : Nat) : 0 < (noteOf n).length := by simp only [noteOf, List.length_append, List.length_cons, List.length_nil]; omega
theorem text_note {n : Nat} (h : n ≤ 1048576) : FmtText.text "fmt.Sprintf" (readingN n) = some (noteOf n) := by
  have w5 : (Lit.int .i64 (5 : Int)).wf = true := wf_nat (n := 5) (by decide)
  have h5 := FmtText.operand_int_at (sh := shape3) (k := .i64) rfl rfl 5 w5
  have hn := FmtText.operand_int_at (sh := shape3) (k := .i64) rfl rfl n (wf_nat h)
  have p5 := FmtText.printArg_d false [105, 110, 116] w5
  have pn := FmtText.printArg_d false [105, 110, 116] (wf_nat h)
  unfold readingN
  generalize ((5 : Int) % 18446744073709551616).toNat = a at *
  generalize ((n : Int) % 18446744073709551616).toNat = b at *
  rw [FmtText.text_sprintf_glued fmtNParse (FmtText.operands_cons h5 (FmtText.operands_cons hn FmtText.operands_nil))]
  simp [FmtText.render, p5, pn, noteOf]
theorem told_note (F : Interp) {n : Nat} (h : n ≤ 1048576) : FmtStop.textOf (F.told "fmt.Sprintf" (readingN n) 0) = ofBytes (noteOf n) := by
  have ht := told_string F (text_note h) (by have := note_len h; omega)
  apply ofBytes_eq
  rw [textOf_list, ht]

theorem report_len5 (ts : List ByteArray) (ht : ∀ t ∈ ts, t.size ≤ 1048576) (i : Nat) (hi : i ≤ 5) (t : ByteArray) (h : ts[i]? = some t) : (reportOf (ts.take i)).length + (msgText iconE wordE t).length ≤ 1073741000 := by
  have h1 := report_le (ts.take i) (fun t h => ht t (List.mem_of_mem_take h))
  have h2 : (ts.take i).length ≤ 5 := by rw [List.length_take]; omega
  have h3 := Nat.mul_le_mul_right 1048590 h2
  have h4 : (msgText iconE wordE t).length = t.size + 14 := by
    have := congrArg List.length (textOf_err t)
    simpa [textOf] using this
  have h5 := ht t (List.mem_of_getElem? h)
  omega

set_option maxHeartbeats 3200000 in
set_option maxRecDepth 100000 in
theorem errs21_many (F : Interp) (P : Option Addr) (n c : Nat) (ts : List ByteArray) (w : World) (hF : F.told.answers w.tape) (h : Msgs w w.heap.size P n ts) (hn5 : 5 < n) (hn : n ≤ 1048576) (ht : ∀ t ∈ ts, t.size ≤ 1048576) :
    Calls Tryf.prog 21 #[.slice P n c] w fun e w' => e = .returned (.string (ofBytes (reportOf (ts.take 5) ++ noteOf n))) ∧ Below w.heap.size w w' := by
  replace hF := hide hF
  go_enter Tryf.func21, Tryf.ntmps21
  go_wp2_with fail
  refine (conv24_any 0 P n c ts _ ((h.below ((((Below.refl _ _).alloc (Nat.le_refl _) _).alloc (by simp) _).alloc (by simp <;> omega) _)).more (by simp <;> omega)) hn).mono ?_
  rintro e w2 ⟨v, rfl, hown, hb⟩
  obtain ⟨A', c', rfl, hnc, hcm, hcells⟩ := outs_at hown
  have hbs := hb.size
  simp at hbs
  have o : ∀ j u, (#[.int .i64 0, .bool true, .int .u8 0, .int .i8 0, .int .i8 0, .int .u8 0, .map none] : Array Value)[j]? = some u → w2.cell? ⟨w.heap.size, j, none⟩ = some u := fun j u hu => (hb.cell (p := ⟨w.heap.size, j, none⟩) (by simp <;> omega)).trans (by rw [World.cell?_alloc_past _ _ _ (by simp <;> omega), World.cell?_alloc_past _ _ _ (by simp), World.cell?_alloc_at _ _ _ _ rfl]; exact hu)
  have q : ∀ j u, (#[.bool false, .bool false, .int .i64 0, .int .i64 0] : Array Value)[j]? = some u → w2.cell? ⟨w.heap.size + 1, j, none⟩ = some u := fun j u hu => (hb.cell (p := ⟨w.heap.size + 1, j, none⟩) (by simp <;> omega)).trans (by rw [World.cell?_alloc_past _ _ _ (by simp), World.cell?_alloc_at _ _ _ _ (by simp)]; exact hu)
  have hu0 : BuR w2.heap.size (w.heap.size + 1 + 1) [] w2 := BuR.new (by simp) hb (by omega)
  have hb2 : Below w.heap.size w w2 := ((((Below.refl _ _).alloc (Nat.le_refl _) _).alloc (by simp) _).alloc (by simp <;> omega) _).trans (hb.mono (by simp <;> omega))
  have hlen : ∀ i t, i ≤ 5 → ts[i]? = some t → (reportOf (ts.take i)).length + (msgText iconE wordE t).length ≤ 1073741000 := fun i t hi h => report_len5 ts ht i hi t h
  unfold maxLen at hcm
  replace hcells := hide hcells
  replace hb2 := hide hb2
  replace o := hide o
  replace q := hide q
  replace hu0 := hide hu0
  clear hb hown
  go_wp2_with fail
  go_loopw [15] (fun s15 wr => ∃ i : Nat, i ≤ 5 ∧ s15 = .int .i64 i ∧ Hid (BuR w2.heap.size (w.heap.size + 1 + 1) (reportOf (ts.take i)) wr) ∧ Hid (Far w2.heap.size (w.heap.size + 1 + 1) w2 wr)) (fun s15 _ => 5 - (intOf s15).toNat)
  case atStart => exact ⟨0, Nat.zero_le _, rfl, hide hu0.out, hide (Far.refl _ _ _)⟩
  case round =>
    obtain ⟨i, hi, rfl, hu, hf⟩ := hrel
    have hfs := hf.out.size
    have hin : i < n := by omega
    · obtain ⟨t, htk⟩ : ∃ t, ts[i]? = some t := ⟨_, List.getElem?_eq_getElem (by rw [h.1]; exact hin)⟩
      obtain ⟨g, rfl, hg1, hg2, hcs⟩ := hcells.out i t htk hin
      simp at hg1
      have q8 : ∀ j u, (msgOut 0 t)[j]? = some u → wr.cell? ⟨g, i * 8 + j, none⟩ = some u := fun j u hu => (hf.out.cell (p := ⟨g, i * 8 + j, none⟩) hg2 (by show g ≠ _; omega)).trans (hcs j u hu)
      have q0 : wr.cell? ⟨g, i * 8, none⟩ = some (.slice none 0 0) := q8 0 _ rfl
      have q1 := q8 1 _ rfl
      have q2 := q8 2 _ rfl
      have q3 := q8 3 _ rfl
      have q4 := q8 4 _ rfl
      have q5 := q8 5 _ rfl
      have q6 := q8 6 _ rfl
      have q7 := q8 7 _ rfl
      have hts := ht t (List.mem_of_getElem? htk)
      replace htk := hide htk
      replace hcs := hide hcs
      have oo : ∀ j u, (#[.int .i64 0, .bool true, .int .u8 0, .int .i8 0, .int .i8 0, .int .u8 0, .map none] : Array Value)[j]? = some u → ∀ ob, (wr.alloc ob).cell? ⟨w.heap.size, j, none⟩ = some u := fun j u hu ob =>
        (World.cell?_alloc_lt wr ob _ (by show w.heap.size < _; omega)).trans ((hf.out.cell (p := ⟨w.heap.size, j, none⟩) (by show w.heap.size < _; omega) (by show w.heap.size ≠ _; omega)).trans (o.out j u hu))
      have rr : ∀ j u, (#[.bool false, .bool false, .int .i64 0, .int .i64 0] : Array Value)[j]? = some u → ∀ ob, (wr.alloc ob).cell? ⟨w.heap.size + 1, j, none⟩ = some u := fun j u hu ob =>
        (World.cell?_alloc_lt wr ob _ (by show w.heap.size + 1 < _; omega)).trans ((hf.out.cell (p := ⟨w.heap.size + 1, j, none⟩) (by show w.heap.size + 1 < _; omega) (by show w.heap.size + 1 ≠ _; omega)).trans (q.out j u hu))
      have p0 := oo 0 _ rfl
      have p1 := oo 1 _ rfl
      have p2 := oo 2 _ rfl
      have p3 := oo 3 _ rfl
      have p4 := oo 4 _ rfl
      have p5 := oo 5 _ rfl
      have p6 := oo 6 _ rfl
      have r0 := rr 0 _ rfl
      have r1 := rr 1 _ rfl
      have r2 := rr 2 _ rfl
      have r3 := rr 3 _ rfl
      clear oo rr q8
      have hF1 : F.told.answers wr.tape := by rw [hf.out.tape, hb2.out.tape]; exact hF.out
      have hL := hlen i t hi htk.out
      have hW : (wr.alloc (.cells #[.slice none 0 0, .string ⟨#[]⟩, .nilIface, .pointer none, .string t, .bool false, .int .u8 0, .int .u8 0] 66)).heap.size = wr.heap.size + 1 := by simp
      replace hF1 := hide hF1
      by_cases h5 : i < 5
      · have hi5 : ((i : Int) == 5) = false := by simp; omega
        go_wp2_with fail
        refine (string27_any F 0 iconE wordE t _ ?_ hts (by decide) (by decide) (line_err F t hts)).mono ?_
        exact hF1.out
        rintro e w4 ⟨rfl, hb4⟩
        have hal : Below wr.heap.size wr w4 := ((Below.refl _ _).alloc (Nat.le_refl _) _).trans (hb4.mono (by omega))
        have hu4 := hu.out.below hal
        have hf4 := hf.out.trans (Far.of_below (b := w.heap.size + 1 + 1) (hal.mono hfs))
        have hs4 := hf4.size
        replace hu4 := hide hu4
        replace hf4 := hide hf4
        clear hu hf hal hb4 p0 p1 p2 p3 p4 p5 p6 r0 r1 r2 r3 q0 q1 q2 q3 q4 q5 q6 q7
        go_wp2_with fail
        refine (writeString_far w2.heap.size (w.heap.size + 1 + 1) (reportOf (ts.take i)) (ofBytes (msgText iconE wordE t)) _ hu4.out (by rw [ofBytes_size]; omega) hs4).mono ?_
        rintro e w5 ⟨rfl, hu5, hf5⟩
        have hu6 : BuR w2.heap.size (w.heap.size + 1 + 1) (reportOf (ts.take (i + 1))) w5 := by rw [reportOf_succ htk.out]; exact hu5
        have hf6 := hf4.out.trans hf5
        replace hu6 := hide hu6
        replace hf6 := hide hf6
        clear hu5 hf5 hu4 hf4
        go_wp2
        go_roundw
        case rel => exact ⟨i + 1, by omega, by go_num, hu6, hf6⟩
        case measure => simp [intOf]; omega
      · have hi5 : ((i : Int) == 5) = true := by simp; omega
        clear p0 p1 p2 p3 p4 p5 p6 r0 r1 r2 r3
        have htk5 : reportOf (ts.take i) = reportOf (ts.take 5) := by rw [show i = 5 by omega]
        rw [htk5] at hu hL
        replace htk5 := hide htk5
        have hF' := answers_open hF1
        have k26 := call26
        have kg := fmtGuard
        have kp := fmtNP
        have kp0 := fmtNP0
        have ko := op3
        have htold : FmtStop.textOf (F.told "fmt.Sprintf" [[37,100,32,111,117,116,32,111,102,32,37,100,32,101,114,114,111,114,115,32,115,104,111,119,110,10], shape3, digits 8 5, shape3, digits 8 (n % 18446744073709551616)] 0) = ofBytes (noteOf n) := by
          have h := told_note F hn
          have e5 : ((5 : Int) % 18446744073709551616).toNat = 5 := by decide
          have en : ((n : Int) % 18446744073709551616).toNat = n % 18446744073709551616 := by omega
          unfold readingN at h
          rw [e5, en] at h
          exact h
        have hN := note_len hn
        obtain ⟨N, hNe⟩ : ∃ N, N = noteOf n := ⟨_, rfl⟩
        rw [← hNe] at htold hN
        have hal : Below wr.heap.size wr ((wr.alloc (.cells #[.slice none 0 0, .string ⟨#[]⟩, .nilIface, .pointer none, .string t, .bool false, .int .u8 0, .int .u8 0] 66)).alloc (.cells #[.iface 3 (.int .i64 5), .iface 3 (.int .i64 n)] 20)).drew := (((Below.refl _ _).alloc (Nat.le_refl _) _).alloc (by simp) _).drew
        have hu4 := hu.out.below hal
        have hf4 := hf.out.trans (Far.of_below (b := w.heap.size + 1 + 1) (hal.mono hfs))
        have hs4 := hf4.size
        replace htold := hide htold
        replace hu4 := hide hu4
        replace hf4 := hide hf4
        replace hNe := hide hNe
        clear hu hf hal
        go_wp2_with fail
        rw [htold.out]
        refine (writeString_far w2.heap.size (w.heap.size + 1 + 1) (reportOf (ts.take 5)) (ofBytes N) _ hu4.out (by rw [ofBytes_size]; omega) hs4).mono ?_
        rintro e w5 ⟨rfl, hu5, hf5⟩
        have hf6 := hf4.out.trans hf5
        have hs6 := hf6.size
        replace hu5 := hide hu5
        have hb6 := hide (hb2.out.trans (hf6.below (B := w.heap.size) (by omega) (by omega)))
        clear hf5 hu4 hf4 hf6 htold kp0 kp kg k26 ko hF' q0 q1 q2 q3 q4 q5 q6 q7
        go_wp2_with fail
        refine (Tryf.Builder_String_any (w.heap.size + 1 + 1) (w.heap.size + 1 + 1) (reportOf (ts.take 5) ++ N) w5 hu5.out.bu (by omega)).mono ?_
        rintro e w7 ⟨rfl, hb7⟩
        replace hb7 := hide (hb6.out.trans (hb7.mono (by omega)))
        go_wp2
        go_ret
        exact ⟨by rw [← hNe.out]; rfl, hb7.out⟩

theorem report8_many (F : Interp) (P : Option Addr) (n c : Nat) (ts : List ByteArray) (w : World) (hF : F.told.answers w.tape) (h : Msgs w w.heap.size P n ts) (hn5 : 5 < n) (hn : n ≤ 1048576) (ht : ∀ t ∈ ts, t.size ≤ 1048576) :
    Calls Tryf.prog 8 #[.slice P n c] w fun e w' => e = .returned (.string (ofBytes (reportOf (ts.take 5) ++ noteOf n))) ∧ Below w.heap.size w w' := by
  have C := errs21_many F P n c ts w hF h hn5 hn ht
  replace C := hide C
  go_enter Tryf.func8, Tryf.ntmps8
  go_wp2_with fail
  refine C.out.mono ?_
  rintro e w' ⟨rfl, hb⟩
  go_wp2
  go_ret
  exact ⟨rfl, hb⟩
end Go.Proofs.YtcmajdimggdkoaaFmt
