/-
  The walk of FnFormatMessagesSingleHeader. Conditions: none.
-/
import Derived.Test.YtcmajdimggdkoaaFmtFmi
import Derived.Test.YtcmajdimggdkoaaFmtHlp
namespace Go.Proofs.YtcmajdimggdkoaaFmt
open Go.RowKit Go.Extern.Stop Go.Stop Go.Extern

def iconE : ByteArray := ⟨#[226, 156, 152]⟩
def iconW : ByteArray := ⟨#[226, 150, 178]⟩
def wordE : ByteArray := ⟨#[69, 82, 82, 79, 82]⟩
def wordW : ByteArray := ⟨#[87, 65, 82, 78, 73, 78, 71]⟩
theorem line_err (F : Interp) (t : ByteArray) (ht : t.size ≤ 1048576) : Line39 F 0 iconE wordE t := fun w hF =>
  msg39_err F iconE wordE t w hF ht (by decide) (by decide) icon49_err kind42_err
theorem line_warn (F : Interp) (t : ByteArray) (ht : t.size ≤ 1048576) : Line39 F 1 iconW wordW t := fun w hF =>
  msg39_warn F iconW wordW t w hF ht (by decide) (by decide) icon49_warn kind42_warn

/-- the text of a message of kind b -/
def textOf (b : Bool) (t : ByteArray) : List UInt8 := if b = true then msgText iconW wordW t else msgText iconE wordE t

set_option maxHeartbeats 400000 in
theorem fm12_any (F : Interp) (b : Bool) (k : Int) (hk : (b = false ∧ k = 0) ∨ (b = true ∧ k = 1)) (P : Option Addr) (n c : Nat) (ts : List ByteArray) (w : World) (hF : F.told.answers w.tape) (h : Msgs w w.heap.size P n ts) (hn : n ≤ 1048576) (ht : ∀ t ∈ ts, t.size ≤ 1048576) :
    Calls Tryf.prog 12 #[.slice P n c, .agg #[.int .i64 0, .int .u8 k, .bool false, .int .u8 0]] w
      fun e w' => ∃ v, e = .returned v ∧ w'.ownsRow w.heap.size 9 1 v n (ts.map fun t => .string (ofBytes (textOf b t))) ∧ Below w.heap.size w w' := by
  have C : ∀ wb : World, F.told.answers wb.tape → Msgs wb wb.heap.size P n ts → Calls Tryf.prog 23 #[.slice P n c, .agg #[.int .i64 0, .int .u8 k, .bool false, .int .u8 0]] wb
      fun e w' => ∃ v, e = .returned v ∧ w'.ownsRow wb.heap.size 9 1 v n (ts.map fun t => .string (ofBytes (textOf b t))) ∧ Below wb.heap.size wb w' := by
    intro wb hF h
    rcases hk with ⟨rfl, rfl⟩ | ⟨rfl, rfl⟩
    · exact fmi23_err F iconE wordE P n c ts wb hF h hn ht (by decide) (by decide) (line_err F)
    · exact fmi23_warn F iconW wordW P n c ts wb hF h hn ht (by decide) (by decide) (line_warn F)
  have hB := (Below.refl w.heap.size w).alloc (Nat.le_refl _)
  have hM : ∀ o, Msgs (w.alloc o) (w.alloc o).heap.size P n ts := fun o => (h.below (hB o)).more (by simp)
  replace hM := hide hM
  replace hB := hide hB
  replace C := hide C
  replace hF := hide hF
  clear h ht hk
  go_enter Tryf.func12, Tryf.ntmps12
  go_wp2_with fail
  refine (C.out _ ?_ (hM.out _)).mono ?_
  exact hF.out
  rintro e w' ⟨v, rfl, hown, hb⟩
  have hown2 := own_more (B' := w.heap.size) hown (by simp)
  have hb2 := (hB.out _).trans (hb.mono (by simp))
  replace hown2 := hide hown2
  replace hb2 := hide hb2
  clear hown hb
  go_wp2
  go_ret
  exact ⟨v, rfl, hown2.out, hb2.out⟩

theorem own_one {w : World} {B : Nat} {v : Value} {x : Value} (h : w.ownsRow B 9 1 v 1 [x]) : ∃ g cap, v = .slice (some ⟨g, 0, none⟩) 1 cap ∧ 1 ≤ cap ∧ cap ≤ maxLen ∧ w.cell? ⟨g, 0, none⟩ = some x := by
  rcases h.2 with ⟨_, h0⟩ | ⟨g, cap, cur, rfl, hg, hh, hc, hm, r⟩
  · omega
  · refine ⟨g, cap, rfl, hc, hm, ?_⟩
    have := h.cells (g := g) rfl 0 x rfl
    rw [addr_add0] at this
    exact this

theorem msgs_one {w : World} {b : Nat} {t : ByteArray} (hb : b = w.heap.size) : Msgs (w.alloc (.cells #[.string ⟨#[]⟩, .string ⟨#[]⟩, .string t, .pointer none, .slice none 0 0, .nilIface] 28)) (w.alloc (.cells #[.string ⟨#[]⟩, .string ⟨#[]⟩, .string t, .pointer none, .slice none 0 0, .nilIface] 28)).heap.size (some ⟨b, 0, none⟩) 1 [t] := by
  refine ⟨rfl, fun _ => ⟨b, 0, rfl, by subst hb; simp, fun j u hj i x hx => ?_⟩⟩
  obtain rfl : j = 0 := by
    cases j with
    | zero => rfl
    | succ j => simp at hj
  simp only [List.getElem?_cons_zero, Option.some.injEq] at hj
  subst hj
  rw [World.cell?_alloc_at _ _ _ _ hb]
  simpa [msgIn] using hx

theorem textOf_err (t : ByteArray) : textOf false t = [226, 156, 152, 32] ++ (([91, 69, 82, 82, 79, 82, 93, 32] ++ t.data.toList) ++ [10, 10]) := by
  simp [textOf, msgText, lineOf, iconE, wordE]
theorem textOf_warn (t : ByteArray) : textOf true t = [226, 150, 178, 32] ++ (([91, 87, 65, 82, 78, 73, 78, 71, 93, 32] ++ t.data.toList) ++ [10, 10]) := by
  simp [textOf, msgText, lineOf, iconW, wordW]
theorem ext_mid (a r : List UInt8) {p : ByteArray} (m : List UInt8) {n : Nat} (h : p.data.toList = m) (hn : n = a.length) : (ofBytes (a ++ (m ++ r))).extract n (n + p.size) = p := by
  rw [ofBytes_extract, ← ba_len, h, hn]
  rw [← ofBytes_self p, h]
  congr 1
  simp [List.take_append]
theorem no_esc {zs : List UInt8} (h : allPrint zs = true) (a b : List UInt8) (ha : a.all (fun x => decide (x.toNat ≠ 27)) = true) (hb : b.all (fun x => decide (x.toNat ≠ 27)) = true) (m : List UInt8) (hm : m.all (fun x => decide (x.toNat ≠ 27)) = true) : hasB (a ++ ((m ++ zs) ++ b)) 27 = false := by
  unfold allPrint at h
  rw [List.all_eq_true] at h ha hb hm
  unfold hasB
  rw [List.any_eq_false]
  intro x hx
  simp only [List.mem_append] at hx
  rcases hx with hx | (hx | hx) | hx
  · have := ha x hx; simpa using this
  · have := hm x hx; simpa using this
  · have := h x hx
    simp [printB] at this
    simp
    omega
  · have := hb x hx; simpa using this

set_option maxHeartbeats 3200000 in
set_option maxRecDepth 100000 in
theorem law30_all (F : Interp) (s : ByteArray) (b : Bool) (w : World) (hF : F.told.answers w.tape) (hs : s.size ≤ maxLen) :
    Calls Tryf.prog 4 #[.string s, .bool b] w fun e w' => e = .returned (.bool true) ∧ Below w.heap.size w w' := by
  have hs' := hs
  unfold maxLen at hs
  replace hF := hide hF
  by_cases hTot : s.size ≤ 1048576
  · by_cases hL : s.size ≤ 65536
    · cases hP : allPrint s.data.toList
      · go_enter Tryf.func4, Tryf.ntmps4
        go_wp2_with fail
        refine (bytes10_any s b _ hs').mono ?_
        rintro e w' ⟨rfl, rfl⟩
        rw [decide_eq_true hTot]
        go_wp2_with fail
        refine (print11_any s w (by omega)).mono ?_
        rintro e w' ⟨rfl, rfl⟩
        rw [hP]
        go_wp2
        go_ret
        exact ⟨rfl, Below.refl _ _⟩
      · cases b
        · go_enter Tryf.func4, Tryf.ntmps4
          go_wp2_with fail
          refine (bytes10_any s false _ hs').mono ?_
          rintro e w' ⟨rfl, rfl⟩
          rw [decide_eq_true hTot]
          go_wp2_with fail
          refine (print11_any s w (by omega)).mono ?_
          rintro e w' ⟨rfl, rfl⟩
          rw [hP]
          go_wp2_with fail
          refine (fm12_any F false 0 (.inl ⟨rfl, rfl⟩) _ 1 1 [s] _ ?_ (msgs_one rfl) (by decide) (by intro u hu; simp at hu; subst hu; exact hTot)).mono ?_
          exact hF.out
          rintro e w2 ⟨v, rfl, hown, hb⟩
          obtain ⟨g, cap, rfl, hc1, hc2, hcell⟩ := own_one hown
          have hb2 := ((Below.refl w.heap.size w).alloc (Nat.le_refl _) (.cells #[.string ⟨#[]⟩, .string ⟨#[]⟩, .string s, .pointer none, .slice none 0 0, .nilIface] 28)).trans (hb.mono (by simp))
          obtain ⟨U, hU⟩ : ∃ U, U = ofBytes (textOf false s) := ⟨_, rfl⟩
          replace hcell : w2.cell? ⟨g, 0, none⟩ = some (.string (ofBytes (textOf false s))) := hcell
          rw [← hU] at hcell
          unfold maxLen at hc2
          replace hU := hide hU
          replace hb2 := hide hb2
          clear hown hb
          have hUl : U.size = s.size + 14 := by rw [hU.out, ofBytes_size, textOf_err]; simp
          have hUx : U.extract 4 (4 + ((⟨#[91, 69, 82, 82, 79, 82, 93, 32]⟩ : ByteArray) ++ s).size) = ⟨#[91, 69, 82, 82, 79, 82, 93, 32]⟩ ++ s := by
            rw [hU.out, textOf_err]
            exact ext_mid [226, 156, 152, 32] [10, 10] _ (by simp) rfl
          have hUb : hasB U.data.toList 27 = false := by
            rw [hU.out, textOf_err, ofBytes_data]
            exact no_esc hP [226, 156, 152, 32] [10, 10] (by decide) (by decide) _ (by decide)
          have hpl : ((⟨#[91, 69, 82, 82, 79, 82, 93, 32]⟩ : ByteArray) ++ s).size = s.size + 8 := by rw [ByteArray.size_append]; show 8 + s.size = _; omega
          obtain ⟨V, hV⟩ : ∃ V, V = (⟨#[91, 69, 82, 82, 79, 82, 93, 32]⟩ : ByteArray) ++ s := ⟨_, rfl⟩
          rw [← hV] at hUx hpl
          replace hUx := hide hUx
          replace hUb := hide hUb
          replace hV := hide hV
          clear hP
          go_wp2_with fail
          rw [← hV.out]
          refine (contains13_yes U V _ 4 (by omega) (by omega) (by omega) hUx.out).mono ?_
          rintro e w' ⟨rfl, rfl⟩
          go_wp2_with fail
          refine (hasByte14_any U 27 _ (by omega)).mono ?_
          rintro e w' ⟨rfl, rfl⟩
          rw [show ((27 : UInt8).toNat) = 27 from rfl, hUb.out]
          go_wp2
          go_ret
          exact ⟨rfl, hb2.out⟩
        · go_enter Tryf.func4, Tryf.ntmps4
          go_wp2_with fail
          refine (bytes10_any s true _ hs').mono ?_
          rintro e w' ⟨rfl, rfl⟩
          rw [decide_eq_true hTot]
          go_wp2_with fail
          refine (print11_any s w (by omega)).mono ?_
          rintro e w' ⟨rfl, rfl⟩
          rw [hP]
          go_wp2_with fail
          refine (fm12_any F true 1 (.inr ⟨rfl, rfl⟩) _ 1 1 [s] _ ?_ (msgs_one rfl) (by decide) (by intro u hu; simp at hu; subst hu; exact hTot)).mono ?_
          exact hF.out
          rintro e w2 ⟨v, rfl, hown, hb⟩
          obtain ⟨g, cap, rfl, hc1, hc2, hcell⟩ := own_one hown
          have hb2 := ((Below.refl w.heap.size w).alloc (Nat.le_refl _) (.cells #[.string ⟨#[]⟩, .string ⟨#[]⟩, .string s, .pointer none, .slice none 0 0, .nilIface] 28)).trans (hb.mono (by simp))
          obtain ⟨U, hU⟩ : ∃ U, U = ofBytes (textOf true s) := ⟨_, rfl⟩
          replace hcell : w2.cell? ⟨g, 0, none⟩ = some (.string (ofBytes (textOf true s))) := hcell
          rw [← hU] at hcell
          unfold maxLen at hc2
          replace hU := hide hU
          replace hb2 := hide hb2
          clear hown hb
          have hUl : U.size = s.size + 16 := by rw [hU.out, ofBytes_size, textOf_warn]; simp
          have hUx : U.extract 4 (4 + ((⟨#[91, 87, 65, 82, 78, 73, 78, 71, 93, 32]⟩ : ByteArray) ++ s).size) = ⟨#[91, 87, 65, 82, 78, 73, 78, 71, 93, 32]⟩ ++ s := by
            rw [hU.out, textOf_warn]
            exact ext_mid [226, 150, 178, 32] [10, 10] _ (by simp) rfl
          have hUb : hasB U.data.toList 27 = false := by
            rw [hU.out, textOf_warn, ofBytes_data]
            exact no_esc hP [226, 150, 178, 32] [10, 10] (by decide) (by decide) _ (by decide)
          have hpl : ((⟨#[91, 87, 65, 82, 78, 73, 78, 71, 93, 32]⟩ : ByteArray) ++ s).size = s.size + 10 := by rw [ByteArray.size_append]; show 10 + s.size = _; omega
          obtain ⟨V, hV⟩ : ∃ V, V = (⟨#[91, 87, 65, 82, 78, 73, 78, 71, 93, 32]⟩ : ByteArray) ++ s := ⟨_, rfl⟩
          rw [← hV] at hUx hpl
          replace hUx := hide hUx
          replace hUb := hide hUb
          replace hV := hide hV
          clear hP
          go_wp2_with fail
          rw [← hV.out]
          refine (contains13_yes U V _ 4 (by omega) (by omega) (by omega) hUx.out).mono ?_
          rintro e w' ⟨rfl, rfl⟩
          go_wp2_with fail
          refine (hasByte14_any U 27 _ (by omega)).mono ?_
          rintro e w' ⟨rfl, rfl⟩
          rw [show ((27 : UInt8).toNat) = 27 from rfl, hUb.out]
          go_wp2
          go_ret
          exact ⟨rfl, hb2.out⟩
    · go_enter Tryf.func4, Tryf.ntmps4
      go_wp2_with fail
      refine (bytes10_any s b _ hs').mono ?_
      rintro e w' ⟨rfl, rfl⟩
      rw [decide_eq_true hTot]
      go_wp2
      go_ret
      exact ⟨rfl, Below.refl _ _⟩
  · go_enter Tryf.func4, Tryf.ntmps4
    go_wp2_with fail
    refine (bytes10_any s b _ hs').mono ?_
    rintro e w' ⟨rfl, rfl⟩
    rw [decide_eq_false hTot]
    go_wp2
    go_ret
    exact ⟨rfl, Below.refl _ _⟩
end Go.Proofs.YtcmajdimggdkoaaFmt
