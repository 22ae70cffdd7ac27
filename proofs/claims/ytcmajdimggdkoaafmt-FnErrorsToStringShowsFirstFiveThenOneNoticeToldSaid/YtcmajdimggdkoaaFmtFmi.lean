/-
  The walk of formatMsgsImpl: messages with nothing but a text, no colour. Conditions: sizes.
-/
import Derived.Test.YtcmajdimggdkoaaFmtDfl
import Derived.Test.YtcmajdimggdkoaaFmtCnv
namespace Go.Proofs.YtcmajdimggdkoaaFmt
open Go.RowKit Go.Extern.Stop Go.Stop Go.Extern

theorem flat_get (f : ByteArray → List Value) (m : Nat) (hf : ∀ t, (f t).length = m) : ∀ (ts : List ByteArray) (j : Nat) (t : ByteArray) (i : Nat), ts[j]? = some t → i < m → (ts.flatMap f)[j * m + i]? = (f t)[i]?
  | a :: ts, 0, t, i, h, hi => by
    simp only [List.getElem?_cons_zero, Option.some.injEq] at h
    subst h
    rw [List.flatMap_cons, List.getElem?_append_left (by rw [hf]; omega)]
    congr 1
    omega
  | a :: ts, j + 1, t, i, h, hi => by
    rw [List.getElem?_cons_succ] at h
    rw [List.flatMap_cons, List.getElem?_append_right (by rw [hf, Nat.add_mul]; omega), ← flat_get f m hf ts j t i h hi, hf]
    congr 1
    rw [Nat.add_mul]
    omega

theorem outs_at {w : World} {B n : Nat} {k : Int} {v : Value} {ts : List ByteArray} (h : w.ownsRow B 66 8 v n (outs k ts)) :
    ∃ A c, v = .slice A n c ∧ n ≤ c ∧ c ≤ maxLen ∧ ∀ j t, ts[j]? = some t → j < n → ∃ g, A = some ⟨g, 0, none⟩ ∧ B ≤ g ∧ g < w.heap.size ∧ ∀ i u, (msgOut k t)[i]? = some u → w.cell? ⟨g, j * 8 + i, none⟩ = some u := by
  rcases h.2 with ⟨rfl, rfl⟩ | ⟨g, cap, cur, rfl, hg, hh, hc, hm, r⟩
  · exact ⟨none, 0, rfl, Nat.le_refl _, by unfold maxLen; omega, fun j t _ hj => absurd hj (by omega)⟩
  · refine ⟨_, cap, rfl, hc, hm, fun j t hj hjn => ⟨g, rfl, hg, (Array.getElem?_eq_some_iff.1 hh).1, fun i u hu => ?_⟩⟩
    have hi : i < 8 := (List.getElem?_eq_some_iff.1 hu).1
    have := h.cells (g := g) rfl (j * 8 + i) u (by unfold outs; rw [flat_get (msgOut k) 8 (fun _ => rfl) ts j t i hj hi]; exact hu)
    rw [addr_add0] at this
    simpa using this

/-- the strings' row, filled from the left -/
def sfill (xs : List ByteArray) (n i : Nat) : List Value := (xs.take i).map .string ++ List.replicate (n - i) (.string ByteArray.empty)
theorem made_strings (n : Nat) : (madeCells (Value.string ByteArray.empty).cells (n * 1)).toList = List.replicate n (.string ByteArray.empty) := by
  have : (Value.string ByteArray.empty).cells = #[.string ByteArray.empty] := rfl
  rw [this, Nat.mul_one, toList_madeCells_one]
theorem sfill_get (xs : List ByteArray) (n i : Nat) (hx : xs.length = n) (hi : i < n) : (sfill xs n i)[i]? = some (.string ByteArray.empty) := by
  unfold sfill
  rw [List.getElem?_append_right (by simp; omega), List.getElem?_replicate, if_pos (by simp; omega)]
theorem sfill_set (xs : List ByteArray) (n i : Nat) {x : ByteArray} (hx : xs.length = n) (h : xs[i]? = some x) : (sfill xs n i).set i (.string x) = sfill xs n (i + 1) := by
  have hi : i < xs.length := (List.getElem?_eq_some_iff.1 h).1
  unfold sfill
  rw [List.set_append_right _ _ (by simp; omega), List.take_add_one, h]
  have e : n - i = (n - (i + 1)) + 1 := by omega
  rw [e, List.replicate_succ]
  have e2 : i - ((xs.take i).map Value.string).length = 0 := by simp; omega
  rw [e2, List.set_cons_zero]
  simp
theorem sfill_full (xs : List ByteArray) (n : Nat) (h : xs.length = n) : sfill xs n n = xs.map .string := by
  unfold sfill
  rw [List.take_of_length_le (by omega)]
  simp

theorem own_more {w : World} {B B' e size n : Nat} {v : Value} {xs : List Value} (h : w.ownsRow B e size v n xs) (hB : B' ≤ B) : w.ownsRow B' e size v n xs := by
  refine ⟨h.1, ?_⟩
  rcases h.2 with hn | ⟨g, cap, cur, hv, hg, rest⟩
  · exact .inl hn
  · exact .inr ⟨g, cap, cur, hv, by omega, rest⟩
/-- what the round reads: its message, its options -/
def Held8 (M O : Nat) (k : Int) (t : ByteArray) (w' : World) : Prop := w'.cell? ⟨M, 0, none⟩ = some (.slice none 0 0) ∧ w'.cell? ⟨M, 1, none⟩ = some (.string ⟨#[]⟩) ∧ w'.cell? ⟨M, 2, none⟩ = some .nilIface ∧ w'.cell? ⟨M, 3, none⟩ = some (.pointer none) ∧ w'.cell? ⟨M, 4, none⟩ = some (.string t) ∧ w'.cell? ⟨M, 5, none⟩ = some (.bool false) ∧ w'.cell? ⟨M, 6, none⟩ = some (.int .u8 k) ∧ w'.cell? ⟨M, 7, none⟩ = some (.int .u8 0) ∧ w'.cell? ⟨O, 0, none⟩ = some (.int .i64 0) ∧ w'.cell? ⟨O, 2, none⟩ = some (.bool false) ∧ w'.cell? ⟨O, 3, none⟩ = some (.int .u8 0) ∧ M < w'.heap.size ∧ O < w'.heap.size
theorem held8_same {M O : Nat} {k : Int} {t : ByteArray} {w1 w2 : World} (h : Held8 M O k t w1) (hs : w1.heap.size ≤ w2.heap.size) (hc : ∀ j, w2.cell? ⟨M, j, none⟩ = w1.cell? ⟨M, j, none⟩) (ho : ∀ j, w2.cell? ⟨O, j, none⟩ = w1.cell? ⟨O, j, none⟩) : Held8 M O k t w2 := by
  obtain ⟨h0, h1, h2, h3, h4, h5, h6, h7, o0, o2, o3, hM, hO⟩ := h
  exact ⟨(hc 0).trans h0, (hc 1).trans h1, (hc 2).trans h2, (hc 3).trans h3, (hc 4).trans h4, (hc 5).trans h5, (hc 6).trans h6, (hc 7).trans h7, (ho 0).trans o0, (ho 2).trans o2, (ho 3).trans o3, by omega, by omega⟩
theorem held8_below {M O : Nat} {k : Int} {t : ByteArray} {w1 w2 : World} (h : Held8 M O k t w1) (hb : Below w1.heap.size w1 w2) : Held8 M O k t w2 :=
  held8_same h hb.size (fun j => hb.cell (p := ⟨M, j, none⟩) h.2.2.2.2.2.2.2.2.2.2.2.1) (fun j => hb.cell (p := ⟨O, j, none⟩) h.2.2.2.2.2.2.2.2.2.2.2.2)
theorem held8_set {M O : Nat} {k : Int} {t : ByteArray} {w1 : World} {p : Addr} {u : Value} (h : Held8 M O k t w1) (h1 : p.block ≠ M) (h2 : p.block ≠ O) : Held8 M O k t (w1.setCell p u) :=
  held8_same h (by simp) (fun j => World.cell?_setCell_far _ _ _ _ h1) (fun j => World.cell?_setCell_far _ _ _ _ h2)
theorem held8_new (w : World) (t : ByteArray) (k : Int) {O : Nat} (hO : O < w.heap.size) (o0 : w.cell? ⟨O, 0, none⟩ = some (.int .i64 0)) (o2 : w.cell? ⟨O, 2, none⟩ = some (.bool false)) (o3 : w.cell? ⟨O, 3, none⟩ = some (.int .u8 0)) : Held8 w.heap.size O k t (w.alloc (.cells #[.slice none 0 0, .string ⟨#[]⟩, .nilIface, .pointer none, .string t, .bool false, .int .u8 k, .int .u8 0] 66)).drew := by
  have hc : ∀ j, (w.alloc (.cells #[.slice none 0 0, .string ⟨#[]⟩, .nilIface, .pointer none, .string t, .bool false, .int .u8 k, .int .u8 0] 66)).drew.cell? ⟨w.heap.size, j, none⟩ = (#[.slice none 0 0, .string ⟨#[]⟩, .nilIface, .pointer none, .string t, .bool false, .int .u8 k, .int .u8 0] : Array Value)[j]? := fun j => World.cell?_alloc_at _ _ _ _ rfl
  have ho : ∀ j, (w.alloc (.cells #[.slice none 0 0, .string ⟨#[]⟩, .nilIface, .pointer none, .string t, .bool false, .int .u8 k, .int .u8 0] 66)).drew.cell? ⟨O, j, none⟩ = w.cell? ⟨O, j, none⟩ := fun j => World.cell?_alloc_lt w _ _ hO
  have hs : (w.alloc (.cells #[.slice none 0 0, .string ⟨#[]⟩, .nilIface, .pointer none, .string t, .bool false, .int .u8 k, .int .u8 0] 66)).drew.heap.size = w.heap.size + 1 := by simp
  exact ⟨hc 0, hc 1, hc 2, hc 3, hc 4, hc 5, hc 6, hc 7, (ho 0).trans o0, (ho 2).trans o2, (ho 3).trans o3, by omega, by omega⟩

set_option maxHeartbeats 3200000 in
set_option maxRecDepth 100000 in
theorem fmi23_err (F : Interp) (A K : ByteArray) (P : Option Addr) (n c : Nat) (ts : List ByteArray) (w : World) (hF : F.told.answers w.tape) (h : Msgs w w.heap.size P n ts) (hn : n ≤ 1048576)
    (ht : ∀ t ∈ ts, t.size ≤ 1048576) (hA : A.size ≤ 16) (hK : K.size ≤ 16) (C : ∀ t, t.size ≤ 1048576 → Line39 F 0 A K t) :
    Calls Tryf.prog 23 #[.slice P n c, .agg #[.int .i64 0, .int .u8 0, .bool false, .int .u8 0]] w
      fun e w' => ∃ v, e = .returned v ∧ w'.ownsRow w.heap.size 9 1 v n (ts.map fun t => .string (ofBytes (msgText A K t))) ∧ Below w.heap.size w w' := by
  have CC := conv24_any 0 P n c ts w h hn
  replace CC := hide CC
  replace hF := hide hF
  replace C := hide C
  go_enter Tryf.func23, Tryf.ntmps23
  go_wp2_with fail
  refine (conv24_any 0 P n c ts _ ((h.below ((Below.refl _ _).alloc (Nat.le_refl _) _)).more (by simp)) hn).mono ?_
  rintro e w2 ⟨v, rfl, hown, hb⟩
  obtain ⟨A', c', rfl, hnc, hcm, hcells⟩ := outs_at hown
  have o0 : w2.cell? ⟨w.heap.size, 0, none⟩ = some (.int .i64 0) := (hb.cell (p := ⟨w.heap.size, 0, none⟩) (by simp)).trans (World.cell?_alloc_at _ _ _ _ rfl)
  have o2 : w2.cell? ⟨w.heap.size, 2, none⟩ = some (.bool false) := (hb.cell (p := ⟨w.heap.size, 2, none⟩) (by simp)).trans (World.cell?_alloc_at _ _ _ _ rfl)
  have o3 : w2.cell? ⟨w.heap.size, 3, none⟩ = some (.int .u8 0) := (hb.cell (p := ⟨w.heap.size, 3, none⟩) (by simp)).trans (World.cell?_alloc_at _ _ _ _ rfl)
  have hbs := hb.size
  simp at hbs
  have hb2 : Below w.heap.size w w2 := ((Below.refl _ _).alloc (Nat.le_refl _) _).trans (hb.mono (by simp))
  have hbs' : w.heap.size ≤ w2.heap.size := by omega
  unfold maxLen at hcm
  replace hcells := hide hcells
  replace hb2 := hide hb2
  clear hb hown CC
  go_wp2_with (at_make; refine wpList_mk (c := n) E32 rfl _ rfl w2.heap.size n rfl rfl (by omega) (by decide) (Nat.le_refl _) ?_; intro w3 hown3 hg hsz)
  rw [made_strings] at hown3
  obtain ⟨T, hT⟩ : ∃ T : List ByteArray, T = ts.map fun t => ofBytes (msgText A K t) := ⟨_, rfl⟩
  have hTl : T.length = n := by rw [hT, List.length_map, h.1]
  have hb3 : Below w2.heap.size w2 w3 := (Below.refl _ _).grown hg (Nat.le_refl _) (by intro k hk; cases hk)
  replace hT := hide hT
  go_loopw [21] (fun s21 wr => ∃ i : Nat, i ≤ n ∧ s21 = .int .i64 i ∧ Hid (wr.ownsRow w2.heap.size 9 1 (.slice (some ⟨w2.heap.size, 0, none⟩) n n) n (sfill T n i)) ∧ Hid (Below w2.heap.size w2 wr)) (fun s21 _ => n - (intOf s21).toNat)
  case atStart => exact ⟨0, Nat.zero_le _, rfl, hide (by simpa [sfill] using hown3), hide hb3⟩
  case round =>
    clear hown3 hb3 hg hsz
    obtain ⟨i, hi, rfl, hown, hb⟩ := hrel
    have hbs3 := hb.out.size
    by_cases hin : i < n
    · obtain ⟨t, htk⟩ : ∃ t, ts[i]? = some t := ⟨_, List.getElem?_eq_getElem (by rw [h.1]; exact hin)⟩
      obtain ⟨g, rfl, hg1, hg2, hcs⟩ := hcells.out i t htk hin
      have q : ∀ j u, (msgOut 0 t)[j]? = some u → wr.cell? ⟨g, i * 8 + j, none⟩ = some u := fun j u hu => (hb.out.cell (p := ⟨g, i * 8 + j, none⟩) hg2).trans (hcs j u hu)
      have q0 : wr.cell? ⟨g, i * 8, none⟩ = some (.slice none 0 0) := q 0 _ rfl
      have q1 := q 1 _ rfl
      have q2 := q 2 _ rfl
      have q3 := q 3 _ rfl
      have q4 := q 4 _ rfl
      have q5 := q 5 _ rfl
      have q6 := q 6 _ rfl
      have q7 := q 7 _ rfl
      have hts := ht t (List.mem_of_getElem? htk)
      replace htk := hide htk
      replace hcs := hide hcs
      clear q
      go_upto_region 9 with (fail)
      have C29 : ∀ wb : World, Calls Tryf.prog 29 #[.int .u8 0] wb fun e w' => e = .returned (.int .i8 0) ∧ wb = w' := style29_zero
      have C27 := fun wb hb => string27_any F 0 A K t wb hb hts hA hK (C.out t hts)
      replace C29 := hide C29
      replace C27 := hide C27
      have hW0 : (wr.alloc (.cells #[.slice none 0 0, .string ⟨#[]⟩, .nilIface, .pointer none, .string t, .bool false, .int .u8 0, .int .u8 0] 66)).drew.heap.size = wr.heap.size + 1 := by simp
      have hS0 : Held8 wr.heap.size w.heap.size 0 t (wr.alloc (.cells #[.slice none 0 0, .string ⟨#[]⟩, .nilIface, .pointer none, .string t, .bool false, .int .u8 0, .int .u8 0] 66)).drew :=
        held8_new wr t 0 (by omega) ((hb.out.cell (p := ⟨w.heap.size, 0, none⟩) (by show w.heap.size < _; omega)).trans o0) ((hb.out.cell (p := ⟨w.heap.size, 2, none⟩) (by show w.heap.size < _; omega)).trans o2) ((hb.out.cell (p := ⟨w.heap.size, 3, none⟩) (by show w.heap.size < _; omega)).trans o3)
      have hbb : Below w2.heap.size w2 (wr.alloc (.cells #[.slice none 0 0, .string ⟨#[]⟩, .nilIface, .pointer none, .string t, .bool false, .int .u8 0, .int .u8 0] 66)).drew := (hb.out.alloc hbs3 _).drew
      have hownn := own_below hown.out (((Below.refl wr.heap.size wr).alloc (Nat.le_refl _) (.cells #[.slice none 0 0, .string ⟨#[]⟩, .nilIface, .pointer none, .string t, .bool false, .int .u8 0, .int .u8 0] 66)).drew)
      have hF0 : F.told.answers (wr.alloc (.cells #[.slice none 0 0, .string ⟨#[]⟩, .nilIface, .pointer none, .string t, .bool false, .int .u8 0, .int .u8 0] 66)).drew.tape := by rw [hbb.tape, hb2.out.tape]; exact hF.out
      have hTwo : w2.heap.size ≠ wr.heap.size := by have := (hown.out.lt w2.heap.size rfl).2; omega
      have hOne : w2.heap.size ≠ w.heap.size := by omega
      replace hbb := hide hbb
      replace hownn := hide hownn
      replace hF0 := hide hF0
      clear q0 q1 q2 q3 q4 q5 q6 q7 hb hcs h
      clear hown
      unfold Held8 at hS0
      go_region_held3 (fun w' : World => w'.cell? ⟨wr.heap.size, 0, none⟩ = some (.slice none 0 0) ∧ w'.cell? ⟨wr.heap.size, 1, none⟩ = some (.string ⟨#[]⟩) ∧ w'.cell? ⟨wr.heap.size, 2, none⟩ = some .nilIface ∧ w'.cell? ⟨wr.heap.size, 3, none⟩ = some (.pointer none) ∧ w'.cell? ⟨wr.heap.size, 4, none⟩ = some (.string t) ∧ w'.cell? ⟨wr.heap.size, 5, none⟩ = some (.bool false) ∧ w'.cell? ⟨wr.heap.size, 6, none⟩ = some (.int .u8 0) ∧ w'.cell? ⟨wr.heap.size, 7, none⟩ = some (.int .u8 0) ∧ w'.cell? ⟨w.heap.size, 0, none⟩ = some (.int .i64 0) ∧ w'.cell? ⟨w.heap.size, 2, none⟩ = some (.bool false) ∧ w'.cell? ⟨w.heap.size, 3, none⟩ = some (.int .u8 0) ∧ wr.heap.size < w'.heap.size ∧ w.heap.size < w'.heap.size)
        (first | exact hS0 | assumption | exact held8_below (by assumption) hb4 | exact held8_set (M := wr.heap.size) (O := w.heap.size) (by assumption) (by show w2.heap.size ≠ wr.heap.size; exact hTwo) (by show w2.heap.size ≠ w.heap.size; exact hOne))
        (first
          | (go_at_call 27; (refine (C27.out _ ?_).mono ?_); exact hF0.out; rintro e w4 ⟨rfl, hb4⟩; have hown4 := own_below hownn.out hb4; have hbb4 := hide (hbb.out.trans (hb4.mono hbb.out.size)); have hf := hown4.frozenAt i; have hu := (hown4.cellAt i (by omega)).trans (sfill_get T n i hTl hin); have R := hide ((hown4.stored i (.string (ofBytes (msgText A K t)))).1); clear hown4)
          | (go_at_call 29; (with_reducible refine (C29.out _).mono ?_); rintro e w4 ⟨rfl, rfl⟩))
      have hTi : T[i]? = some (ofBytes (msgText A K t)) := by rw [hT.out, List.getElem?_map, htk.out]; rfl
      have R2 : (w4.setCell ⟨w2.heap.size, i, none⟩ (.string (ofBytes (msgText A K t)))).ownsRow w2.heap.size 9 1 (.slice (some ⟨w2.heap.size, 0, none⟩) n n) n (sfill T n (i + 1)) := by rw [← sfill_set T n i hTl hTi]; exact R.out
      have hb6 := hbb4.out.setCell (p := ⟨w2.heap.size, i, none⟩) (Nat.le_refl _) (.string (ofBytes (msgText A K t)))
      replace R2 := hide R2
      replace hb6 := hide hb6
      clear R hbb4 hf hu hb4 hownn hbb hF0 hS0 C29 C27 hTi htk
      go_wp2
      go_roundw
      case rel => exact ⟨i + 1, by omega, by go_num, R2, hb6⟩
      case measure => simp [intOf]; omega
    · obtain rfl : i = n := by omega
      have hfin := hown.out
      rw [sfill_full T i hTl, hT.out, List.map_map] at hfin
      have hb6 := hb2.out.trans (hb.out.mono hbs')
      replace hfin := hide hfin
      replace hb6 := hide hb6
      clear hown hb
      go_wp2
      go_ret
      refine ⟨_, rfl, ?_, hb6.out⟩
      exact own_more hfin.out hbs'

set_option maxHeartbeats 3200000 in
set_option maxRecDepth 100000 in
theorem fmi23_warn (F : Interp) (A K : ByteArray) (P : Option Addr) (n c : Nat) (ts : List ByteArray) (w : World) (hF : F.told.answers w.tape) (h : Msgs w w.heap.size P n ts) (hn : n ≤ 1048576)
    (ht : ∀ t ∈ ts, t.size ≤ 1048576) (hA : A.size ≤ 16) (hK : K.size ≤ 16) (C : ∀ t, t.size ≤ 1048576 → Line39 F 1 A K t) :
    Calls Tryf.prog 23 #[.slice P n c, .agg #[.int .i64 0, .int .u8 1, .bool false, .int .u8 0]] w
      fun e w' => ∃ v, e = .returned v ∧ w'.ownsRow w.heap.size 9 1 v n (ts.map fun t => .string (ofBytes (msgText A K t))) ∧ Below w.heap.size w w' := by
  have CC := conv24_any 1 P n c ts w h hn
  replace CC := hide CC
  replace hF := hide hF
  replace C := hide C
  go_enter Tryf.func23, Tryf.ntmps23
  go_wp2_with fail
  refine (conv24_any 1 P n c ts _ ((h.below ((Below.refl _ _).alloc (Nat.le_refl _) _)).more (by simp)) hn).mono ?_
  rintro e w2 ⟨v, rfl, hown, hb⟩
  obtain ⟨A', c', rfl, hnc, hcm, hcells⟩ := outs_at hown
  have o0 : w2.cell? ⟨w.heap.size, 0, none⟩ = some (.int .i64 0) := (hb.cell (p := ⟨w.heap.size, 0, none⟩) (by simp)).trans (World.cell?_alloc_at _ _ _ _ rfl)
  have o2 : w2.cell? ⟨w.heap.size, 2, none⟩ = some (.bool false) := (hb.cell (p := ⟨w.heap.size, 2, none⟩) (by simp)).trans (World.cell?_alloc_at _ _ _ _ rfl)
  have o3 : w2.cell? ⟨w.heap.size, 3, none⟩ = some (.int .u8 0) := (hb.cell (p := ⟨w.heap.size, 3, none⟩) (by simp)).trans (World.cell?_alloc_at _ _ _ _ rfl)
  have hbs := hb.size
  simp at hbs
  have hb2 : Below w.heap.size w w2 := ((Below.refl _ _).alloc (Nat.le_refl _) _).trans (hb.mono (by simp))
  have hbs' : w.heap.size ≤ w2.heap.size := by omega
  unfold maxLen at hcm
  replace hcells := hide hcells
  replace hb2 := hide hb2
  clear hb hown CC
  go_wp2_with (at_make; refine wpList_mk (c := n) E32 rfl _ rfl w2.heap.size n rfl rfl (by omega) (by decide) (Nat.le_refl _) ?_; intro w3 hown3 hg hsz)
  rw [made_strings] at hown3
  obtain ⟨T, hT⟩ : ∃ T : List ByteArray, T = ts.map fun t => ofBytes (msgText A K t) := ⟨_, rfl⟩
  have hTl : T.length = n := by rw [hT, List.length_map, h.1]
  have hb3 : Below w2.heap.size w2 w3 := (Below.refl _ _).grown hg (Nat.le_refl _) (by intro k hk; cases hk)
  replace hT := hide hT
  go_loopw [21] (fun s21 wr => ∃ i : Nat, i ≤ n ∧ s21 = .int .i64 i ∧ Hid (wr.ownsRow w2.heap.size 9 1 (.slice (some ⟨w2.heap.size, 0, none⟩) n n) n (sfill T n i)) ∧ Hid (Below w2.heap.size w2 wr)) (fun s21 _ => n - (intOf s21).toNat)
  case atStart => exact ⟨0, Nat.zero_le _, rfl, hide (by simpa [sfill] using hown3), hide hb3⟩
  case round =>
    clear hown3 hb3 hg hsz
    obtain ⟨i, hi, rfl, hown, hb⟩ := hrel
    have hbs3 := hb.out.size
    by_cases hin : i < n
    · obtain ⟨t, htk⟩ : ∃ t, ts[i]? = some t := ⟨_, List.getElem?_eq_getElem (by rw [h.1]; exact hin)⟩
      obtain ⟨g, rfl, hg1, hg2, hcs⟩ := hcells.out i t htk hin
      have q : ∀ j u, (msgOut 1 t)[j]? = some u → wr.cell? ⟨g, i * 8 + j, none⟩ = some u := fun j u hu => (hb.out.cell (p := ⟨g, i * 8 + j, none⟩) hg2).trans (hcs j u hu)
      have q0 : wr.cell? ⟨g, i * 8, none⟩ = some (.slice none 0 0) := q 0 _ rfl
      have q1 := q 1 _ rfl
      have q2 := q 2 _ rfl
      have q3 := q 3 _ rfl
      have q4 := q 4 _ rfl
      have q5 := q 5 _ rfl
      have q6 := q 6 _ rfl
      have q7 := q 7 _ rfl
      have hts := ht t (List.mem_of_getElem? htk)
      replace htk := hide htk
      replace hcs := hide hcs
      clear q
      go_upto_region 9 with (fail)
      have C29 : ∀ wb : World, Calls Tryf.prog 29 #[.int .u8 0] wb fun e w' => e = .returned (.int .i8 0) ∧ wb = w' := style29_zero
      have C27 := fun wb hb => string27_any F 1 A K t wb hb hts hA hK (C.out t hts)
      replace C29 := hide C29
      replace C27 := hide C27
      have hW0 : (wr.alloc (.cells #[.slice none 0 0, .string ⟨#[]⟩, .nilIface, .pointer none, .string t, .bool false, .int .u8 1, .int .u8 0] 66)).drew.heap.size = wr.heap.size + 1 := by simp
      have hS0 : Held8 wr.heap.size w.heap.size 1 t (wr.alloc (.cells #[.slice none 0 0, .string ⟨#[]⟩, .nilIface, .pointer none, .string t, .bool false, .int .u8 1, .int .u8 0] 66)).drew :=
        held8_new wr t 1 (by omega) ((hb.out.cell (p := ⟨w.heap.size, 0, none⟩) (by show w.heap.size < _; omega)).trans o0) ((hb.out.cell (p := ⟨w.heap.size, 2, none⟩) (by show w.heap.size < _; omega)).trans o2) ((hb.out.cell (p := ⟨w.heap.size, 3, none⟩) (by show w.heap.size < _; omega)).trans o3)
      have hbb : Below w2.heap.size w2 (wr.alloc (.cells #[.slice none 0 0, .string ⟨#[]⟩, .nilIface, .pointer none, .string t, .bool false, .int .u8 1, .int .u8 0] 66)).drew := (hb.out.alloc hbs3 _).drew
      have hownn := own_below hown.out (((Below.refl wr.heap.size wr).alloc (Nat.le_refl _) (.cells #[.slice none 0 0, .string ⟨#[]⟩, .nilIface, .pointer none, .string t, .bool false, .int .u8 1, .int .u8 0] 66)).drew)
      have hF0 : F.told.answers (wr.alloc (.cells #[.slice none 0 0, .string ⟨#[]⟩, .nilIface, .pointer none, .string t, .bool false, .int .u8 1, .int .u8 0] 66)).drew.tape := by rw [hbb.tape, hb2.out.tape]; exact hF.out
      have hTwo : w2.heap.size ≠ wr.heap.size := by have := (hown.out.lt w2.heap.size rfl).2; omega
      have hOne : w2.heap.size ≠ w.heap.size := by omega
      replace hbb := hide hbb
      replace hownn := hide hownn
      replace hF0 := hide hF0
      clear q0 q1 q2 q3 q4 q5 q6 q7 hb hcs h
      clear hown
      unfold Held8 at hS0
      go_region_held3 (fun w' : World => w'.cell? ⟨wr.heap.size, 0, none⟩ = some (.slice none 0 0) ∧ w'.cell? ⟨wr.heap.size, 1, none⟩ = some (.string ⟨#[]⟩) ∧ w'.cell? ⟨wr.heap.size, 2, none⟩ = some .nilIface ∧ w'.cell? ⟨wr.heap.size, 3, none⟩ = some (.pointer none) ∧ w'.cell? ⟨wr.heap.size, 4, none⟩ = some (.string t) ∧ w'.cell? ⟨wr.heap.size, 5, none⟩ = some (.bool false) ∧ w'.cell? ⟨wr.heap.size, 6, none⟩ = some (.int .u8 1) ∧ w'.cell? ⟨wr.heap.size, 7, none⟩ = some (.int .u8 0) ∧ w'.cell? ⟨w.heap.size, 0, none⟩ = some (.int .i64 0) ∧ w'.cell? ⟨w.heap.size, 2, none⟩ = some (.bool false) ∧ w'.cell? ⟨w.heap.size, 3, none⟩ = some (.int .u8 0) ∧ wr.heap.size < w'.heap.size ∧ w.heap.size < w'.heap.size)
        (first | exact hS0 | assumption | exact held8_below (by assumption) hb4 | exact held8_set (M := wr.heap.size) (O := w.heap.size) (by assumption) (by show w2.heap.size ≠ wr.heap.size; exact hTwo) (by show w2.heap.size ≠ w.heap.size; exact hOne))
        (first
          | (go_at_call 27; (refine (C27.out _ ?_).mono ?_); exact hF0.out; rintro e w4 ⟨rfl, hb4⟩; have hown4 := own_below hownn.out hb4; have hbb4 := hide (hbb.out.trans (hb4.mono hbb.out.size)); have hf := hown4.frozenAt i; have hu := (hown4.cellAt i (by omega)).trans (sfill_get T n i hTl hin); have R := hide ((hown4.stored i (.string (ofBytes (msgText A K t)))).1); clear hown4)
          | (go_at_call 29; (with_reducible refine (C29.out _).mono ?_); rintro e w4 ⟨rfl, rfl⟩))
      have hTi : T[i]? = some (ofBytes (msgText A K t)) := by rw [hT.out, List.getElem?_map, htk.out]; rfl
      have R2 : (w4.setCell ⟨w2.heap.size, i, none⟩ (.string (ofBytes (msgText A K t)))).ownsRow w2.heap.size 9 1 (.slice (some ⟨w2.heap.size, 0, none⟩) n n) n (sfill T n (i + 1)) := by rw [← sfill_set T n i hTl hTi]; exact R.out
      have hb6 := hbb4.out.setCell (p := ⟨w2.heap.size, i, none⟩) (Nat.le_refl _) (.string (ofBytes (msgText A K t)))
      replace R2 := hide R2
      replace hb6 := hide hb6
      clear R hbb4 hf hu hb4 hownn hbb hF0 hS0 C29 C27 hTi htk
      go_wp2
      go_roundw
      case rel => exact ⟨i + 1, by omega, by go_num, R2, hb6⟩
      case measure => simp [intOf]; omega
    · obtain rfl : i = n := by omega
      have hfin := hown.out
      rw [sfill_full T i hTl, hT.out, List.map_map] at hfin
      have hb6 := hb2.out.trans (hb.out.mono hbs')
      replace hfin := hide hfin
      replace hb6 := hide hb6
      clear hown hb
      go_wp2
      go_ret
      refine ⟨_, rfl, ?_, hb6.out⟩
      exact own_more hfin.out hbs'
end Go.Proofs.YtcmajdimggdkoaaFmt
