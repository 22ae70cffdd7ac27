/-
  The walk of FnFormatMessagesElementwise. Conditions: none.
-/
import Derived.Test.YtcmajdimggdkoaaFmtMsr
import Derived.Deep.RegionHeld3
import Derived.Deep.QuietTactic
import Derived.BigQuiet
namespace Go.Proofs.YtcmajdimggdkoaaFmt
open Go.RowKit Go.Extern.Stop Go.Stop Go.Extern

/-- the options' cells -/
def HeldO (O : Nat) (k : Int) (w' : World) : Prop := w'.cell? ⟨O, 0, none⟩ = some (.int .i64 0) ∧ w'.cell? ⟨O, 1, none⟩ = some (.int .u8 k) ∧ w'.cell? ⟨O, 2, none⟩ = some (.bool false) ∧ w'.cell? ⟨O, 3, none⟩ = some (.int .u8 0) ∧ O < w'.heap.size
theorem heldO_below {O : Nat} {k : Int} {w1 w2 : World} (h : HeldO O k w1) (hb : Below w1.heap.size w1 w2) : HeldO O k w2 := by
  obtain ⟨h0, h1, h2, h3, hO⟩ := h
  exact ⟨(hb.cell (p := ⟨O, 0, none⟩) hO).trans h0, (hb.cell (p := ⟨O, 1, none⟩) hO).trans h1, (hb.cell (p := ⟨O, 2, none⟩) hO).trans h2, (hb.cell (p := ⟨O, 3, none⟩) hO).trans h3, by have := hb.size; omega⟩
theorem heldO_new (w : World) (k : Int) : HeldO w.heap.size k (w.alloc (.cells #[.int .i64 0, .int .u8 k, .bool false, .int .u8 0] 36)).drew := by
  have hc : ∀ j, (w.alloc (.cells #[.int .i64 0, .int .u8 k, .bool false, .int .u8 0] 36)).drew.cell? ⟨w.heap.size, j, none⟩ = (#[.int .i64 0, .int .u8 k, .bool false, .int .u8 0] : Array Value)[j]? := fun j => World.cell?_alloc_at _ _ _ _ rfl
  refine ⟨hc 0, hc 1, hc 2, hc 3, ?_⟩
  show w.heap.size < (w.alloc _).heap.size
  simp
/-- the options' cells and the text's -/
def HeldR (O : Nat) (k : Int) (b o : Nat) (t : ByteArray) (w' : World) : Prop := w'.cell? ⟨O, 0, none⟩ = some (.int .i64 0) ∧ w'.cell? ⟨O, 1, none⟩ = some (.int .u8 k) ∧ w'.cell? ⟨O, 2, none⟩ = some (.bool false) ∧ w'.cell? ⟨O, 3, none⟩ = some (.int .u8 0) ∧ O < w'.heap.size ∧ w'.cell? ⟨b, o, none⟩ = some (.string t) ∧ b < w'.heap.size
theorem heldR_below {O : Nat} {k : Int} {b o : Nat} {t : ByteArray} {w1 w2 : World} (h : HeldR O k b o t w1) (hb : Below w1.heap.size w1 w2) : HeldR O k b o t w2 := by
  obtain ⟨h0, h1, h2, h3, hO, hc, hB⟩ := h
  have := hb.size
  exact ⟨(hb.cell (p := ⟨O, 0, none⟩) hO).trans h0, (hb.cell (p := ⟨O, 1, none⟩) hO).trans h1, (hb.cell (p := ⟨O, 2, none⟩) hO).trans h2, (hb.cell (p := ⟨O, 3, none⟩) hO).trans h3, by omega, (hb.cell (p := ⟨b, o, none⟩) hB).trans hc, by omega⟩
theorem heldR_alloc {O : Nat} {k : Int} {b o : Nat} {t : ByteArray} {w1 : World} {ob : Obj} (h : HeldR O k b o t w1) : HeldR O k b o t (w1.alloc ob) := heldR_below h ((Below.refl _ _).alloc (Nat.le_refl _) _)
theorem HeldO.withText {O : Nat} {k : Int} {b o : Nat} {t : ByteArray} {w1 : World} (h : HeldO O k w1) (hc : w1.cell? ⟨b, o, none⟩ = some (.string t)) (hB : b < w1.heap.size) : HeldR O k b o t w1 := by
  obtain ⟨h0, h1, h2, h3, hO⟩ := h
  exact ⟨h0, h1, h2, h3, hO, hc, hB⟩

theorem below_dN {B : Nat} {w w' : World} (h : Below B w w') (m : Nat) : Below B w (w'.drewN m) := by
  induction m with
  | zero => exact h
  | succ m ih => exact ih.drew

set_option maxHeartbeats 3200000 in
set_option maxRecDepth 100000 in
theorem law40_err (F : Interp) (A : Option Addr) (n c : Nat) (ss : List ByteArray) (w : World) (hF : F.told.answers w.tape) (h : RdS w w.heap.size A n ss) :
    Calls Tryf.prog 5 #[.slice A n c, .bool false] w fun e w' => e = .returned (.bool true) ∧ Below w.heap.size w w' := by
  have hlen := h.len
  have CB := bytes15_any A n c ss false w h
  have CT := total16_any A n c ss w h
  have CC := clone17_any A n c ss w h
  replace hlen := hide hlen
  replace hF := hide hF
  replace CB := hide CB
  replace CT := hide CT
  replace CC := hide CC
  go_enter Tryf.func5, Tryf.ntmps5
  go_wp2_with fail
  refine CB.out.mono ?_
  rintro e w1 ⟨b, rfl, rfl, hb⟩
  cases b
  · clear hb
    go_wp2
    go_ret
    exact ⟨rfl, Below.refl _ _⟩
  have hs := hb rfl
  clear hb
  by_cases hn : n ≤ 4096
  · go_wp2_with fail
    refine (CT.out hs).mono ?_
    rintro e w1 ⟨rfl, rfl⟩
    by_cases ht : n * 16 + tot ss ≤ 1048576
    · go_wp2_with fail
      refine (CC.out (by omega)).mono ?_
      rintro e w2 ⟨v, rfl, hown, hb⟩
      obtain ⟨A2, c2, rfl, hc2, hm2, hr⟩ := own_rds hown
      have hsz : ∀ t ∈ ss, t.size ≤ 1048576 := fun t h => by have := tot_mem h; omega
      replace hsz := hide hsz
      unfold maxLen at hm2
      replace hb := hide hb
      replace hr := hide hr
      clear hown CB CT CC h
      go_upto_region 12 with (fail)
      have hal : Below w2.heap.size w2 (w2.alloc (.cells #[.int .i64 0, .int .u8 0, .bool false, .int .u8 0] 36)).drew := ((Below.refl _ _).alloc (Nat.le_refl _) _).drew
      have hS0 : HeldO w2.heap.size 0 (w2.alloc (.cells #[.int .i64 0, .int .u8 0, .bool false, .int .u8 0] 36)).drew := heldO_new w2 0
      have hb0 : Below w.heap.size w (w2.alloc (.cells #[.int .i64 0, .int .u8 0, .bool false, .int .u8 0] 36)).drew := hb.out.trans (hal.mono hb.out.size)
      have hr0 : RdS (w2.alloc (.cells #[.int .i64 0, .int .u8 0, .bool false, .int .u8 0] 36)).drew (w2.alloc (.cells #[.int .i64 0, .int .u8 0, .bool false, .int .u8 0] 36)).drew.heap.size A2 n ss := (hr.out.below hal).more hal.size
      have C18 := fun wb hb => msgs18_any A2 n c2 ss wb hb (by omega)
      have C12 := fun P wb hF hb => fm12_any F false 0 (.inl ⟨rfl, rfl⟩) P n n ss wb hF hb (by omega) hsz.out
      replace hal := hide hal
      replace hb0 := hide hb0
      replace hr0 := hide hr0
      replace C18 := hide C18
      replace C12 := hide C12
      unfold HeldO at hS0
      go_region_held3 (fun w' : World => w'.cell? ⟨w2.heap.size, 0, none⟩ = some (.int .i64 0) ∧ w'.cell? ⟨w2.heap.size, 1, none⟩ = some (.int .u8 0) ∧ w'.cell? ⟨w2.heap.size, 2, none⟩ = some (.bool false) ∧ w'.cell? ⟨w2.heap.size, 3, none⟩ = some (.int .u8 0) ∧ w2.heap.size < w'.heap.size)
        (first | exact hS0 | assumption | exact heldO_below (by assumption) hb4 | exact heldO_below (by assumption) hb3)
        (first
          | (go_at_call 18; (refine (C18.out _ hr0.out).mono ?_); rintro e w3 ⟨A3, rfl, hm3, hb3⟩; have hbb3 := hide (hb0.out.trans (hb3.mono hb0.out.size)); have hF3 := hide (show F.told.answers w3.tape by rw [hbb3.out.tape]; exact hF.out))
          | (go_at_call 12; (refine (C12.out _ _ hF3.out hm3).mono ?_); rintro e w4 ⟨v, rfl, hown4, hb4⟩))
      have hS4 : HeldO w2.heap.size 0 w4 := (by assumption)
      rename_i hheld
      clear hheld
      replace hS4 := hide hS4
      have hb24 : Below w2.heap.size w2 w4 := (hal.out.trans (hb3.mono hal.out.size)).trans (hb4.mono (Nat.le_trans hal.out.size hb3.size))
      have hbw4 : Below w.heap.size w w4 := hbb3.out.trans (hb4.mono hbb3.out.size)
      have hr4 : RdS w4 w4.heap.size A2 n ss := (hr.out.below hb24).more hb24.size
      obtain ⟨U, hU⟩ : ∃ U : List ByteArray, U = ss.map fun t => ofBytes (textOf false t) := ⟨_, rfl⟩
      have hown : w4.ownsRow w3.heap.size 9 1 v n (U.map .string) := by rw [hU, List.map_map]; exact hown4
      obtain ⟨A4, c4, rfl, hc4, hm4, hr5⟩ := own_rds hown
      unfold maxLen at hm4
      replace hr4 := hide hr4
      replace hr5 := hide hr5
      replace hbw4 := hide hbw4
      replace hU := hide hU
      clear hS0 hal hb0 hr0 C18 C12 hm3 hb3 hbb3 hF3 hown4 hb4 hb24 hown hb hr
      go_wp2_with fail
      go_loopw [8] (fun s8 wr => ∃ i : Nat, i ≤ n ∧ s8 = .int .i64 i ∧ Hid (Below w4.heap.size w4 wr)) (fun s8 _ => n - (intOf s8).toNat)
      case atStart => exact ⟨0, Nat.zero_le _, rfl, hide (Below.refl _ _)⟩
      case round =>
        obtain ⟨i, hi, rfl, hb⟩ := hrel
        have hbs := hb.out.size
        by_cases hin : i < n
        · obtain ⟨b, off, t, rfl, hB, htk, hct⟩ := hr4.out.at hin
          obtain ⟨b2, off2, u, rfl, hB2, huk, hcu⟩ := hr5.out.at hin
          obtain rfl : u = ofBytes (textOf false t) := by
            have := huk
            rw [hU.out, List.getElem?_map, htk] at this
            exact (Option.some.inj this).symm
          have hts := hsz.out t (List.mem_of_getElem? htk)
          have hin' : (i : Int) < (n : Int) := by omega
          have hn0 : (0 : Int) ≤ (i : Int) := by omega
          have hO4 := heldO_below hS4.out hb.out
          have hct4 := (hb.out.cell (p := ⟨b, off + i, none⟩) hB).trans hct
          have hcu4 := (hb.out.cell (p := ⟨b2, off2 + i, none⟩) hB2).trans hcu
          have hS5 : HeldR w2.heap.size 0 b (off + i) t wr.drew := heldR_below (hO4.withText hct4 (by omega)) (Below.refl _ _).drew
          have hFr : F.told.answers wr.drew.tape := by show F.told.answers wr.tape; rw [hb.out.tape, hbw4.out.tape]; exact hF.out
          have hM : Msgs (wr.alloc (.cells #[.string ⟨#[]⟩, .string ⟨#[]⟩, .string t, .pointer none, .slice none 0 0, .nilIface] 28)).drew (wr.alloc (.cells #[.string ⟨#[]⟩, .string ⟨#[]⟩, .string t, .pointer none, .slice none 0 0, .nilIface] 28)).drew.heap.size (some ⟨wr.heap.size, 0, none⟩) 1 [t] := msgs_one rfl
          have hM2 : wr.heap.size ≤ (wr.alloc (.cells #[.string ⟨#[]⟩, .string ⟨#[]⟩, .string t, .pointer none, .slice none 0 0, .nilIface] 28)).drew.heap.size := by show wr.heap.size ≤ (wr.alloc _).heap.size; simp
          have hbd2 : Below w4.heap.size w4 (wr.alloc (.cells #[.string ⟨#[]⟩, .string ⟨#[]⟩, .string t, .pointer none, .slice none 0 0, .nilIface] 28)).drew := (hb.out.alloc hbs _).drew
          replace hM := hide hM
          replace hbd2 := hide hbd2
          have C12 := fun P wb hF hb => fm12_any F false 0 (.inl ⟨rfl, rfl⟩) P 1 1 [t] wb hF hb (by omega) (by intro u hu; simp at hu; subst hu; exact hts)
          have hbd : Below w4.heap.size w4 wr.drew := hb.out.drew
          replace hbd := hide hbd
          replace hFr := hide hFr
          replace C12 := hide C12
          replace htk := hide htk
          replace huk := hide huk
          clear hb hct4 hO4 hct hcu
          go_upto_region 18 with (fail)
          unfold HeldR at hS5
          go_region_held3 (fun w' : World => w'.cell? ⟨w2.heap.size, 0, none⟩ = some (.int .i64 0) ∧ w'.cell? ⟨w2.heap.size, 1, none⟩ = some (.int .u8 0) ∧ w'.cell? ⟨w2.heap.size, 2, none⟩ = some (.bool false) ∧ w'.cell? ⟨w2.heap.size, 3, none⟩ = some (.int .u8 0) ∧ w2.heap.size < w'.heap.size ∧ w'.cell? ⟨b, off + i, none⟩ = some (.string t) ∧ b < w'.heap.size)
            (first | exact hS5 | assumption | exact heldR_alloc (by assumption) | exact heldR_below (by assumption) hb5)
            (first
              | (go_at_call 12; (refine (C12.out _ _ ?_ hM.out).mono ?_); exact hFr.out; rintro e w5 ⟨v5, rfl, hown5, hb5⟩))
          rename_i hheld
          clear hheld
          obtain ⟨g, cap, rfl, hcap1, hcap2, hcell⟩ := own_one hown5
          have hb7 : Below w4.heap.size w4 w5 := hbd2.out.trans (hb5.mono hbd2.out.size)
          have hcu5 := (hb7.cell (p := ⟨b2, off2 + i, none⟩) hB2).trans ((hr5.out.2 (by omega)) |> fun ⟨b', off', e, _, hc⟩ => by
            simp only [Option.some.injEq, Addr.mk.injEq, and_true] at e
            obtain ⟨rfl, rfl⟩ := e
            exact hc i (.string (ofBytes (textOf false t))) (by rw [List.getElem?_map, huk.out]; rfl))
          obtain ⟨X, hX⟩ : ∃ X, X = ofBytes (textOf false t) := ⟨_, rfl⟩
          replace hcell : w5.cell? ⟨g, 0, none⟩ = some (.string (ofBytes (textOf false t))) := hcell
          rw [← hX] at hcell hcu5
          have hXn : 0 < X.size := by rw [hX, ofBytes_size]; unfold textOf msgText; split <;> simp
          have hXe : X.toList.isEmpty = false := by
            rw [ByteArray.toList_eq]
            have := ba_len X
            cases h : X.data.toList with
            | nil => rw [h] at this; simp at this; omega
            | cons a r => rfl
          unfold maxLen at hcap2
          replace hX := hide hX
          replace hb7 := hide hb7
          clear hS5 hM2 hM hbd2 hbd hFr C12 hown5 hb5 hcu4
          go_wp2_with fail
          go_quiet (fail)
          go_wp2_with fail
          have hfin := hide (below_dN hb7.out nq)
          go_roundw
          case rel => exact ⟨i + 1, by omega, by go_num, hfin⟩
          case measure => simp [intOf]; omega
        · obtain rfl : i = n := by omega
          have hfin := hide (hbw4.out.trans (hb.out.mono hbw4.out.size))
          clear hb hr4 hr5 hS4
          go_wp2
          go_ret
          exact ⟨rfl, hfin.out⟩
    · go_wp2
      go_ret
      exact ⟨rfl, Below.refl _ _⟩
  · go_wp2
    go_ret
    exact ⟨rfl, Below.refl _ _⟩

set_option maxHeartbeats 3200000 in
set_option maxRecDepth 100000 in
theorem law40_warn (F : Interp) (A : Option Addr) (n c : Nat) (ss : List ByteArray) (w : World) (hF : F.told.answers w.tape) (h : RdS w w.heap.size A n ss) :
    Calls Tryf.prog 5 #[.slice A n c, .bool true] w fun e w' => e = .returned (.bool true) ∧ Below w.heap.size w w' := by
  have hlen := h.len
  have CB := bytes15_any A n c ss true w h
  have CT := total16_any A n c ss w h
  have CC := clone17_any A n c ss w h
  replace hlen := hide hlen
  replace hF := hide hF
  replace CB := hide CB
  replace CT := hide CT
  replace CC := hide CC
  go_enter Tryf.func5, Tryf.ntmps5
  go_wp2_with fail
  refine CB.out.mono ?_
  rintro e w1 ⟨b, rfl, rfl, hb⟩
  cases b
  · clear hb
    go_wp2
    go_ret
    exact ⟨rfl, Below.refl _ _⟩
  have hs := hb rfl
  clear hb
  by_cases hn : n ≤ 4096
  · go_wp2_with fail
    refine (CT.out hs).mono ?_
    rintro e w1 ⟨rfl, rfl⟩
    by_cases ht : n * 16 + tot ss ≤ 1048576
    · go_wp2_with fail
      refine (CC.out (by omega)).mono ?_
      rintro e w2 ⟨v, rfl, hown, hb⟩
      obtain ⟨A2, c2, rfl, hc2, hm2, hr⟩ := own_rds hown
      have hsz : ∀ t ∈ ss, t.size ≤ 1048576 := fun t h => by have := tot_mem h; omega
      replace hsz := hide hsz
      unfold maxLen at hm2
      replace hb := hide hb
      replace hr := hide hr
      clear hown CB CT CC h
      go_upto_region 12 with (fail)
      have hal : Below w2.heap.size w2 (w2.alloc (.cells #[.int .i64 0, .int .u8 1, .bool false, .int .u8 0] 36)).drew := ((Below.refl _ _).alloc (Nat.le_refl _) _).drew
      have hS0 : HeldO w2.heap.size 1 (w2.alloc (.cells #[.int .i64 0, .int .u8 1, .bool false, .int .u8 0] 36)).drew := heldO_new w2 1
      have hb0 : Below w.heap.size w (w2.alloc (.cells #[.int .i64 0, .int .u8 1, .bool false, .int .u8 0] 36)).drew := hb.out.trans (hal.mono hb.out.size)
      have hr0 : RdS (w2.alloc (.cells #[.int .i64 0, .int .u8 1, .bool false, .int .u8 0] 36)).drew (w2.alloc (.cells #[.int .i64 0, .int .u8 1, .bool false, .int .u8 0] 36)).drew.heap.size A2 n ss := (hr.out.below hal).more hal.size
      have C18 := fun wb hb => msgs18_any A2 n c2 ss wb hb (by omega)
      have C12 := fun P wb hF hb => fm12_any F true 1 (.inr ⟨rfl, rfl⟩) P n n ss wb hF hb (by omega) hsz.out
      replace hal := hide hal
      replace hb0 := hide hb0
      replace hr0 := hide hr0
      replace C18 := hide C18
      replace C12 := hide C12
      unfold HeldO at hS0
      go_region_held3 (fun w' : World => w'.cell? ⟨w2.heap.size, 0, none⟩ = some (.int .i64 0) ∧ w'.cell? ⟨w2.heap.size, 1, none⟩ = some (.int .u8 1) ∧ w'.cell? ⟨w2.heap.size, 2, none⟩ = some (.bool false) ∧ w'.cell? ⟨w2.heap.size, 3, none⟩ = some (.int .u8 0) ∧ w2.heap.size < w'.heap.size)
        (first | exact hS0 | assumption | exact heldO_below (by assumption) hb4 | exact heldO_below (by assumption) hb3)
        (first
          | (go_at_call 18; (refine (C18.out _ hr0.out).mono ?_); rintro e w3 ⟨A3, rfl, hm3, hb3⟩; have hbb3 := hide (hb0.out.trans (hb3.mono hb0.out.size)); have hF3 := hide (show F.told.answers w3.tape by rw [hbb3.out.tape]; exact hF.out))
          | (go_at_call 12; (refine (C12.out _ _ hF3.out hm3).mono ?_); rintro e w4 ⟨v, rfl, hown4, hb4⟩))
      have hS4 : HeldO w2.heap.size 1 w4 := (by assumption)
      rename_i hheld
      clear hheld
      replace hS4 := hide hS4
      have hb24 : Below w2.heap.size w2 w4 := (hal.out.trans (hb3.mono hal.out.size)).trans (hb4.mono (Nat.le_trans hal.out.size hb3.size))
      have hbw4 : Below w.heap.size w w4 := hbb3.out.trans (hb4.mono hbb3.out.size)
      have hr4 : RdS w4 w4.heap.size A2 n ss := (hr.out.below hb24).more hb24.size
      obtain ⟨U, hU⟩ : ∃ U : List ByteArray, U = ss.map fun t => ofBytes (textOf true t) := ⟨_, rfl⟩
      have hown : w4.ownsRow w3.heap.size 9 1 v n (U.map .string) := by rw [hU, List.map_map]; exact hown4
      obtain ⟨A4, c4, rfl, hc4, hm4, hr5⟩ := own_rds hown
      unfold maxLen at hm4
      replace hr4 := hide hr4
      replace hr5 := hide hr5
      replace hbw4 := hide hbw4
      replace hU := hide hU
      clear hS0 hal hb0 hr0 C18 C12 hm3 hb3 hbb3 hF3 hown4 hb4 hb24 hown hb hr
      go_wp2_with fail
      go_loopw [8] (fun s8 wr => ∃ i : Nat, i ≤ n ∧ s8 = .int .i64 i ∧ Hid (Below w4.heap.size w4 wr)) (fun s8 _ => n - (intOf s8).toNat)
      case atStart => exact ⟨0, Nat.zero_le _, rfl, hide (Below.refl _ _)⟩
      case round =>
        obtain ⟨i, hi, rfl, hb⟩ := hrel
        have hbs := hb.out.size
        by_cases hin : i < n
        · obtain ⟨b, off, t, rfl, hB, htk, hct⟩ := hr4.out.at hin
          obtain ⟨b2, off2, u, rfl, hB2, huk, hcu⟩ := hr5.out.at hin
          obtain rfl : u = ofBytes (textOf true t) := by
            have := huk
            rw [hU.out, List.getElem?_map, htk] at this
            exact (Option.some.inj this).symm
          have hts := hsz.out t (List.mem_of_getElem? htk)
          have hin' : (i : Int) < (n : Int) := by omega
          have hn0 : (0 : Int) ≤ (i : Int) := by omega
          have hO4 := heldO_below hS4.out hb.out
          have hct4 := (hb.out.cell (p := ⟨b, off + i, none⟩) hB).trans hct
          have hcu4 := (hb.out.cell (p := ⟨b2, off2 + i, none⟩) hB2).trans hcu
          have hS5 : HeldR w2.heap.size 1 b (off + i) t wr.drew := heldR_below (hO4.withText hct4 (by omega)) (Below.refl _ _).drew
          have hFr : F.told.answers wr.drew.tape := by show F.told.answers wr.tape; rw [hb.out.tape, hbw4.out.tape]; exact hF.out
          have hM : Msgs (wr.alloc (.cells #[.string ⟨#[]⟩, .string ⟨#[]⟩, .string t, .pointer none, .slice none 0 0, .nilIface] 28)).drew (wr.alloc (.cells #[.string ⟨#[]⟩, .string ⟨#[]⟩, .string t, .pointer none, .slice none 0 0, .nilIface] 28)).drew.heap.size (some ⟨wr.heap.size, 0, none⟩) 1 [t] := msgs_one rfl
          have hM2 : wr.heap.size ≤ (wr.alloc (.cells #[.string ⟨#[]⟩, .string ⟨#[]⟩, .string t, .pointer none, .slice none 0 0, .nilIface] 28)).drew.heap.size := by show wr.heap.size ≤ (wr.alloc _).heap.size; simp
          have hbd2 : Below w4.heap.size w4 (wr.alloc (.cells #[.string ⟨#[]⟩, .string ⟨#[]⟩, .string t, .pointer none, .slice none 0 0, .nilIface] 28)).drew := (hb.out.alloc hbs _).drew
          replace hM := hide hM
          replace hbd2 := hide hbd2
          have C12 := fun P wb hF hb => fm12_any F true 1 (.inr ⟨rfl, rfl⟩) P 1 1 [t] wb hF hb (by omega) (by intro u hu; simp at hu; subst hu; exact hts)
          have hbd : Below w4.heap.size w4 wr.drew := hb.out.drew
          replace hbd := hide hbd
          replace hFr := hide hFr
          replace C12 := hide C12
          replace htk := hide htk
          replace huk := hide huk
          clear hb hct4 hO4 hct hcu
          go_upto_region 18 with (fail)
          unfold HeldR at hS5
          go_region_held3 (fun w' : World => w'.cell? ⟨w2.heap.size, 0, none⟩ = some (.int .i64 0) ∧ w'.cell? ⟨w2.heap.size, 1, none⟩ = some (.int .u8 1) ∧ w'.cell? ⟨w2.heap.size, 2, none⟩ = some (.bool false) ∧ w'.cell? ⟨w2.heap.size, 3, none⟩ = some (.int .u8 0) ∧ w2.heap.size < w'.heap.size ∧ w'.cell? ⟨b, off + i, none⟩ = some (.string t) ∧ b < w'.heap.size)
            (first | exact hS5 | assumption | exact heldR_alloc (by assumption) | exact heldR_below (by assumption) hb5)
            (first
              | (go_at_call 12; (refine (C12.out _ _ ?_ hM.out).mono ?_); exact hFr.out; rintro e w5 ⟨v5, rfl, hown5, hb5⟩))
          rename_i hheld
          clear hheld
          obtain ⟨g, cap, rfl, hcap1, hcap2, hcell⟩ := own_one hown5
          have hb7 : Below w4.heap.size w4 w5 := hbd2.out.trans (hb5.mono hbd2.out.size)
          have hcu5 := (hb7.cell (p := ⟨b2, off2 + i, none⟩) hB2).trans ((hr5.out.2 (by omega)) |> fun ⟨b', off', e, _, hc⟩ => by
            simp only [Option.some.injEq, Addr.mk.injEq, and_true] at e
            obtain ⟨rfl, rfl⟩ := e
            exact hc i (.string (ofBytes (textOf true t))) (by rw [List.getElem?_map, huk.out]; rfl))
          obtain ⟨X, hX⟩ : ∃ X, X = ofBytes (textOf true t) := ⟨_, rfl⟩
          replace hcell : w5.cell? ⟨g, 0, none⟩ = some (.string (ofBytes (textOf true t))) := hcell
          rw [← hX] at hcell hcu5
          have hXn : 0 < X.size := by rw [hX, ofBytes_size]; unfold textOf msgText; split <;> simp
          have hXe : X.toList.isEmpty = false := by
            rw [ByteArray.toList_eq]
            have := ba_len X
            cases h : X.data.toList with
            | nil => rw [h] at this; simp at this; omega
            | cons a r => rfl
          unfold maxLen at hcap2
          replace hX := hide hX
          replace hb7 := hide hb7
          clear hS5 hM2 hM hbd2 hbd hFr C12 hown5 hb5 hcu4
          go_wp2_with fail
          go_quiet (fail)
          go_wp2_with fail
          have hfin := hide (below_dN hb7.out nq)
          go_roundw
          case rel => exact ⟨i + 1, by omega, by go_num, hfin⟩
          case measure => simp [intOf]; omega
        · obtain rfl : i = n := by omega
          have hfin := hide (hbw4.out.trans (hb.out.mono hbw4.out.size))
          clear hb hr4 hr5 hS4
          go_wp2
          go_ret
          exact ⟨rfl, hfin.out⟩
    · go_wp2
      go_ret
      exact ⟨rfl, Below.refl _ _⟩
  · go_wp2
    go_ret
    exact ⟨rfl, Below.refl _ _⟩

theorem law40_all (F : Interp) (A : Option Addr) (n c : Nat) (ss : List ByteArray) (b : Bool) (w : World) (hF : F.told.answers w.tape) (h : RdS w w.heap.size A n ss) :
    Calls Tryf.prog 5 #[.slice A n c, .bool b] w fun e w' => e = .returned (.bool true) ∧ Below w.heap.size w w' := by
  cases b
  · exact law40_err F A n c ss w hF h
  · exact law40_warn F A n c ss w hF h
end Go.Proofs.YtcmajdimggdkoaaFmt
