/-
  The walks of law 15's helpers: the size test, hasAt, containsStr, the report's wrapper. Conditions: sizes.
-/
import Derived.Test.YtcmajdimggdkoaaFmtHlp
import Derived.Test.YtcmajdimggdkoaaFmtErs
import Derived.Deep.QuietTactic
import Derived.BigQuiet
import Derived.IntWalk
namespace Go.Proofs.YtcmajdimggdkoaaFmt
open Go.RowKit Go.Extern.Stop Go.Stop Go.Extern

set_option maxHeartbeats 400000 in
theorem bytes7_any (s : ByteArray) (w : World) (hs : s.size ≤ maxLen) :
    Calls Tryf.prog 7 #[.string s] w fun e w' => (e = .returned (.bool (decide (s.size ≤ 1048576)))) ∧ w = w' := by
  unfold maxLen at hs
  go_enter Tryf.func7, Tryf.ntmps7
  by_cases h1 : s.size ≤ 1048576
  · rw [decide_eq_true h1]
    go_wp2
    go_ret
    exact ⟨rfl, rfl⟩
  · rw [decide_eq_false h1]
    go_wp2
    go_ret
    exact ⟨rfl, rfl⟩

/-- does p stand in s at place q? -/
def AtP (s p : ByteArray) (q : Nat) : Prop := ∀ j x, p.data.toList[j]? = some x → s.data.toList[q + j]? = some x
def MayAt (s p : ByteArray) (q : Nat) (w : World) (e : Ending) (w' : World) : Prop := ∃ b : Bool, e = .returned (.bool b) ∧ (AtP s p q → b = true) ∧ ∃ m, w' = w.drewN m

set_option maxHeartbeats 1600000 in
theorem hasAt22_any (s p : ByteArray) (q : Nat) (w : World) (hs : s.size ≤ 4294967296) (hp : p.size ≤ 4294967296) (hq : q + p.size ≤ s.size) :
    Calls Tryf.prog 22 #[.string s, .int .i64 q, .string p] w (MayAt s p q w) := by
  go_enter Tryf.func22, Tryf.ntmps22
  go_wp2_with fail
  go_loopw [7] (fun s7 wr => ∃ j m : Nat, j ≤ p.size ∧ s7 = .int .i64 j ∧ wr = w.drewN m) (fun s7 _ => p.size - (intOf s7).toNat)
  case atStart => exact ⟨0, 0, Nat.zero_le _, rfl, rfl⟩
  case round =>
    obtain ⟨j, m, hj, rfl, rfl⟩ := hrel
    by_cases hjm : j < p.size
    · have hx := ba_get s (q + j) (by omega)
      have hy := ba_get p j hjm
      have hsum : IntKind.i64.wrap ((q : Int) + (j : Int)) = (q : Int) + (j : Int) := IntWalk.i64_in _ (by omega)
      have hs0 : 0 ≤ (q : Int) + (j : Int) := by omega
      have hs1 : (q : Int) + (j : Int) < (s.size : Int) := by omega
      have hs2 : ((q : Int) + (j : Int)).toNat = q + j := by omega
      have hs3 : (j : Int) < (p.size : Int) := by omega
      by_cases hxy : (s[q + j]'(by omega)) = p[j]
      · have hne : (((s[q + j]'(by omega)).toNat : Int) != ((p[j]).toNat : Int)) = false := by rw [hxy]; simp
        clear hx hy hxy
        go_wp2
        go_quiet (fail)
        go_wp2
        go_roundw
        case rel => exact ⟨j + 1, _, by omega, by go_num, rfl⟩
        case measure => simp [intOf]; omega
      · have hne : (((s[q + j]'(by omega)).toNat : Int) != ((p[j]).toNat : Int)) = true := by
          simp only [bne_iff_ne, ne_eq]
          exact fun h => hxy (UInt8.toNat.inj (by omega))
        have HF : Hid (¬ AtP s p q) := hide (fun h => by
          have := h j _ hy
          rw [hx] at this
          exact hxy (Option.some.inj this))
        clear hx hy hxy
        go_wp2
        go_quiet (fail)
        go_wp2
        go_ret
        exact ⟨false, rfl, fun h => absurd h HF.out, _, World.drewN_drewN _ _ _⟩
    · obtain rfl : j = p.size := by omega
      go_wp2
      go_ret
      exact ⟨true, rfl, fun _ => rfl, _, rfl⟩

def MayIn (w : World) (e : Ending) (w' : World) : Prop := e = .returned (.bool true) ∧ ∃ m, w' = w.drewN m

set_option maxHeartbeats 1600000 in
theorem contains9_yes (s p : ByteArray) (w : World) (q : Nat) (hs : s.size ≤ 4294967296) (hp : p.size ≤ 4294967296) (hq : q + p.size ≤ s.size) (he : AtP s p q) :
    Calls Tryf.prog 9 #[.string s, .string p] w (MayIn w) := by
  replace he := hide he
  go_enter Tryf.func9, Tryf.ntmps9
  go_wp2_with fail
  go_loopw [5] (fun s5 wr => ∃ k m : Nat, k ≤ q ∧ s5 = .int .i64 k ∧ wr = w.drewN m) (fun s5 _ => s.size - (intOf s5).toNat)
  case atStart => exact ⟨0, 0, by omega, rfl, rfl⟩
  case round =>
    obtain ⟨k, m, hk, rfl, rfl⟩ := hrel
    go_wp2_with fail
    refine (hasAt22_any s p k _ hs hp (by omega)).mono ?_
    rintro e w' ⟨b, rfl, hb, m2, rfl⟩
    cases b
    · have hkq : k < q := by
        rcases Nat.lt_or_ge k q with h | h
        · exact h
        · obtain rfl : k = q := by omega
          exact absurd (hb he.out) (by decide)
      clear hb
      go_wp2
      go_roundw
      case rel => exact ⟨k + 1, _, by omega, by go_num, rfl⟩
      case measure => simp [intOf]; omega
    · clear hb
      go_wp2
      go_ret
      exact ⟨rfl, _, rfl⟩

theorem report8_few (F : Interp) (P : Option Addr) (n c : Nat) (ts : List ByteArray) (w : World) (hF : F.told.answers w.tape) (h : Msgs w w.heap.size P n ts) (hn : n ≤ 5) (ht : ∀ t ∈ ts, t.size ≤ 1048576) :
    Calls Tryf.prog 8 #[.slice P n c] w fun e w' => e = .returned (.string (ofBytes (reportOf ts))) ∧ Below w.heap.size w w' := by
  have C := errs21_few F P n c ts w hF h hn ht
  replace C := hide C
  go_enter Tryf.func8, Tryf.ntmps8
  go_wp2_with fail
  refine C.out.mono ?_
  rintro e w' ⟨rfl, hb⟩
  go_wp2
  go_ret
  exact ⟨rfl, hb⟩
end Go.Proofs.YtcmajdimggdkoaaFmt
