/-
  The walks over a slice of byte slices: the size tests, zzConcat. Conditions: sizes.
-/
import Derived.Test.YtpfnonkcjlfibaaLHelpC
import Derived.Test.YtpfnonkcjlfibaaLBytes
namespace Go.Proofs.Ytpfnonkcjlfibaa
open Go.RowKit

structure Part where
  A : Option Addr
  n : Nat
  c : Nat
  zs : List UInt8

/-- a slice of byte slices, all below block B -/
def RdP (w : World) (B : Nat) (A : Option Addr) (n : Nat) (qs : List Part) : Prop :=
  qs.length = n ∧ (0 < n → ∃ b off, A = some ⟨b, off, none⟩ ∧ b < B ∧ ∀ j q, qs[j]? = some q → w.cell? ⟨b, off + j, none⟩ = some (.slice q.A q.n q.c)) ∧
    ∀ q ∈ qs, Rd w B q.A q.n q.zs ∧ q.n ≤ q.c ∧ q.n ≤ maxLen

section
variable {w w' : World} {B B' n : Nat} {A : Option Addr} {qs : List Part}
theorem RdP.below (h : RdP w B A n qs) (hb : Below B w w') : RdP w' B A n qs := by
  refine ⟨h.1, fun hn => ?_, fun q hq => ⟨(h.2.2 q hq).1.below hb, (h.2.2 q hq).2⟩⟩
  obtain ⟨b, off, e, hB, hc⟩ := h.2.1 hn
  exact ⟨b, off, e, hB, fun j q hq => (hb.cell (p := ⟨b, off + j, none⟩) hB).trans (hc j q hq)⟩
theorem RdP.more (h : RdP w B A n qs) (hB : B ≤ B') : RdP w B' A n qs := by
  refine ⟨h.1, fun hn => ?_, fun q hq => ⟨(h.2.2 q hq).1.more hB, (h.2.2 q hq).2⟩⟩
  obtain ⟨b, off, e, hB, hc⟩ := h.2.1 hn
  exact ⟨b, off, e, by omega, hc⟩
theorem RdP.at (h : RdP w B A n qs) {k : Nat} (hk : k < n) : ∃ b off q, A = some ⟨b, off, none⟩ ∧ b < B ∧ qs[k]? = some q ∧ w.cell? ⟨b, off + k, none⟩ = some (.slice q.A q.n q.c) ∧ Rd w B q.A q.n q.zs ∧ q.n ≤ q.c ∧ q.n ≤ maxLen := by
  obtain ⟨b, off, e, hB, hc⟩ := h.2.1 (by omega)
  obtain ⟨q, hq⟩ : ∃ q, qs[k]? = some q := ⟨_, List.getElem?_eq_getElem (by rw [h.1]; exact hk)⟩
  have hm := h.2.2 _ (List.mem_of_getElem? hq)
  exact ⟨b, off, _, e, hB, hq, hc k _ hq, hm⟩
end

def totP (qs : List Part) : Nat := (qs.map (·.n)).sum
def catP (qs : List Part) : List UInt8 := qs.flatMap (·.zs)
theorem totP_succ {qs : List Part} {k : Nat} {q : Part} (h : qs[k]? = some q) : totP (qs.take (k + 1)) = totP (qs.take k) + q.n := by
  unfold totP
  rw [List.take_add_one, h]
  simp
theorem catP_succ {qs : List Part} {k : Nat} {q : Part} (h : qs[k]? = some q) : catP (qs.take (k + 1)) = catP (qs.take k) ++ q.zs := by
  unfold catP
  rw [List.take_add_one, h]
  simp
theorem totP_le {qs : List Part} (k : Nat) : totP (qs.take k) ≤ totP qs := by
  conv => rhs; rw [← List.take_append_drop k qs]
  unfold totP
  rw [List.map_append, List.sum_append]
  omega
theorem totP_mem {qs : List Part} {q : Part} (h : q ∈ qs) : q.n ≤ totP qs := by
  unfold totP
  induction qs with
  | nil => cases h
  | cons a r ih =>
    simp only [List.map_cons, List.sum_cons]
    rcases List.mem_cons.1 h with rfl | h
    · omega
    · have := ih h; omega
theorem catP_length {w : World} {B : Nat} {qs : List Part} (h : ∀ q ∈ qs, Rd w B q.A q.n q.zs ∧ q.n ≤ q.c ∧ q.n ≤ maxLen) : (catP qs).length = totP qs := by
  induction qs with
  | nil => rfl
  | cons a r ih =>
    have h1 := (h a (by simp)).1.len
    have h2 := ih fun q hq => h q (List.mem_cons_of_mem _ hq)
    unfold catP totP at *
    rw [List.flatMap_cons, List.length_append, h1, h2]
    simp

/-- what the size test says -/
def SizedP (X : Nat) (w : World) (e : Ending) (w' : World) : Prop := ∃ t, e = .returned (.bool t) ∧ (t = true → X ≤ 1048576) ∧ w = w'

set_option maxHeartbeats 1600000 in
set_option maxRecDepth 100000 in
theorem bytesP7_any (p : ByteArray) (a b : Int) (A : Option Addr) (n c : Nat) (qs : List Part) (w : World) (h : RdP w w.heap.size A n qs) (hp : p.size ≤ maxLen) (hn : n ≤ maxLen) :
    Calls Try.prog 7 #[.string p, .int .i64 a, .int .i64 b, .slice A n c] w (SizedP (p.size + n + totP qs) w) := by
  unfold maxLen at hp hn
  go_enter Try.func7, Try.ntmps7
  by_cases h1 : p.size ≤ 1048576
  · by_cases h2 : n ≤ 1048576
    · by_cases h3 : p.size + n ≤ 1048576
      · go_wp2
        go_loop [9, 10] (fun s i => ∃ k : Nat, k ≤ n ∧ i = .int .i64 k ∧ s = .int .i64 (p.size + n + totP (qs.take k) : Nat) ∧ p.size + n + totP (qs.take k) ≤ 1048576) (fun _ i => n - (intOf i).toNat)
        case atStart => exact ⟨0, by omega, rfl, by simp [totP], by simp [totP]; omega⟩
        case round =>
          obtain ⟨k, hk, rfl, rfl, hle⟩ := hrel
          by_cases hlt : k < n
          · obtain ⟨ba, off, q, rfl, hb, hq, hc, hr, hqc, hqm⟩ := h.at hlt
            have hs := hide (totP_succ hq)
            generalize hT : totP (qs.take k) = T at *
            unfold maxLen at hqm
            clear hq hr
            by_cases h4 : q.n ≤ 1048576
            · by_cases h5 : p.size + n + T + q.n ≤ 1048576
              · go_wp2
                go_round
                case rel => exact ⟨k + 1, by omega, by go_num, by rw [hs.out]; go_num, by rw [hs.out]; omega⟩
                case measure => simp [intOf]; omega
              · go_wp2
                go_ret
                exact ⟨_, rfl, fun e => (by cases e), rfl⟩
            · go_wp2
              go_ret
              exact ⟨_, rfl, fun e => (by cases e), rfl⟩
          · obtain rfl : k = n := by omega
            have he := hide hle
            clear hle
            go_wp2
            go_ret
            exact ⟨_, rfl, fun _ => by have := he.out; rwa [List.take_of_length_le (by rw [h.1]; exact Nat.le_refl _)] at this, rfl⟩
      · go_wp2
        go_ret
        exact ⟨_, rfl, fun e => (by cases e), rfl⟩
    · go_wp2
      go_ret
      exact ⟨_, rfl, fun e => (by cases e), rfl⟩
  · go_wp2
    go_ret
    exact ⟨_, rfl, fun e => (by cases e), rfl⟩
set_option maxHeartbeats 1600000 in
set_option maxRecDepth 100000 in
theorem bytesP19_any (p : ByteArray) (a b : Int) (A : Option Addr) (n c : Nat) (qs : List Part) (w : World) (h : RdP w w.heap.size A n qs) (hp : p.size ≤ maxLen) (hn : n ≤ maxLen) :
    Calls Try.prog 19 #[.string p, .int .i64 a, .int .i64 b, .slice A n c] w (SizedP (p.size + n + totP qs) w) := by
  unfold maxLen at hp hn
  go_enter Try.func19, Try.ntmps19
  by_cases h1 : p.size ≤ 1048576
  · by_cases h2 : n ≤ 1048576
    · by_cases h3 : p.size + n ≤ 1048576
      · go_wp2
        go_loop [9, 10] (fun s i => ∃ k : Nat, k ≤ n ∧ i = .int .i64 k ∧ s = .int .i64 (p.size + n + totP (qs.take k) : Nat) ∧ p.size + n + totP (qs.take k) ≤ 1048576) (fun _ i => n - (intOf i).toNat)
        case atStart => exact ⟨0, by omega, rfl, by simp [totP], by simp [totP]; omega⟩
        case round =>
          obtain ⟨k, hk, rfl, rfl, hle⟩ := hrel
          by_cases hlt : k < n
          · obtain ⟨ba, off, q, rfl, hb, hq, hc, hr, hqc, hqm⟩ := h.at hlt
            have hs := hide (totP_succ hq)
            generalize hT : totP (qs.take k) = T at *
            unfold maxLen at hqm
            clear hq hr
            by_cases h4 : q.n ≤ 1048576
            · by_cases h5 : p.size + n + T + q.n ≤ 1048576
              · go_wp2
                go_round
                case rel => exact ⟨k + 1, by omega, by go_num, by rw [hs.out]; go_num, by rw [hs.out]; omega⟩
                case measure => simp [intOf]; omega
              · go_wp2
                go_ret
                exact ⟨_, rfl, fun e => (by cases e), rfl⟩
            · go_wp2
              go_ret
              exact ⟨_, rfl, fun e => (by cases e), rfl⟩
          · obtain rfl : k = n := by omega
            have he := hide hle
            clear hle
            go_wp2
            go_ret
            exact ⟨_, rfl, fun _ => by have := he.out; rwa [List.take_of_length_le (by rw [h.1]; exact Nat.le_refl _)] at this, rfl⟩
      · go_wp2
        go_ret
        exact ⟨_, rfl, fun e => (by cases e), rfl⟩
    · go_wp2
      go_ret
      exact ⟨_, rfl, fun e => (by cases e), rfl⟩
  · go_wp2
    go_ret
    exact ⟨_, rfl, fun e => (by cases e), rfl⟩

/-- an int is handed back, nothing else is changed -/
def AnInt (w : World) (e : Ending) (w' : World) : Prop := ∃ r : Int, e = .returned (.int .i64 r) ∧ w = w'

set_option maxHeartbeats 800000 in
theorem partsBytes_any (A : Option Addr) (n c x : Nat) (qs : List Part) (w : World) (h : RdP w w.heap.size A n qs) (hn : x + n + totP qs ≤ 1048576) :
    Calls Try.prog 8 #[.slice A n c, .int .i64 x] w (AnInt w) := by
  go_enter Try.func8, Try.ntmps8
  go_wp2
  go_loop [5, 6] (fun s i => ∃ k : Nat, k ≤ n ∧ i = .int .i64 k ∧ s = .int .i64 (x + 24 * n + totP (qs.take k) : Nat)) (fun _ i => n - (intOf i).toNat)
  case atStart => exact ⟨0, by omega, rfl, by simp [totP]⟩
  case round =>
    obtain ⟨k, hk, rfl, rfl⟩ := hrel
    have hT := @totP_le qs k
    by_cases hlt : k < n
    · obtain ⟨ba, off, q, rfl, hb, hq, hc, hr, hqc, hqm⟩ := h.at hlt
      have hs := hide (totP_succ hq)
      have hT1 := @totP_le qs (k + 1)
      rw [hs.out] at hT1
      generalize totP (qs.take k) = T at *
      generalize totP qs = TT at *
      clear hq hr
      by_cases h5 : x + 24 * n + T ≤ 1048576
      · go_wp2
        go_round
        case rel => exact ⟨k + 1, by omega, by go_num, by rw [hs.out]; go_num⟩
        case measure => simp [intOf]; omega
      · go_wp2
        go_ret
        exact ⟨_, rfl, rfl⟩
    · obtain rfl : k = n := by omega
      go_wp2
      go_ret
      exact ⟨_, rfl, rfl⟩

/-- the text that zzConcat leaves -/
def TextTo (w : World) (C : List UInt8) (e : Ending) (w' : World) : Prop := ∃ v, e = .returned v ∧ w'.ownsRow w.heap.size 5 1 v C.length (C.map bv) ∧ Below w.heap.size w w'

set_option maxHeartbeats 800000 in
theorem concat_any (A : Option Addr) (n c : Nat) (qs : List Part) (w : World) (h : RdP w w.heap.size A n qs) (hn : n + totP qs ≤ 1048576) :
    Calls Try.prog 18 #[.slice A n c] w (TextTo w (catP qs)) := by
  have hcl := hide (fun k => show (catP (qs.take k)).length = totP (qs.take k) from catP_length (w := w) (B := w.heap.size) fun q hq => h.2.2 q (List.mem_of_mem_take hq))
  go_enter Try.func18, Try.ntmps18
  go_wp2
  go_loopw [3, 4] (fun v i wr => ∃ k : Nat, k ≤ n ∧ i = .int .i64 k ∧ wr.ownsRow w.heap.size 5 1 v (catP (qs.take k)).length ((catP (qs.take k)).map bv) ∧ Below w.heap.size w wr) (fun _ i _ => n - (intOf i).toNat)
  case atStart => exact ⟨0, by omega, rfl, own_nil _ _, Below.refl _ _⟩
  case round =>
    obtain ⟨k, hk, rfl, hown, hb⟩ := hrel
    have hbs := hb.size
    by_cases hlt : k < n
    · obtain ⟨ba, off, q, rfl, hB, hq, hc, hr, hqc, hqm⟩ := (h.below hb).at hlt
      have hs := hide (totP_succ hq)
      have hs2 := hide (catP_succ hq)
      have hT1 := @totP_le qs (k + 1)
      rw [hs.out, ← hcl.out k] at hT1
      have hqn := hr.len
      generalize hL : catP (qs.take k) = L at *
      clear hq
      go_wp2_with (at_builtin; refine wpList_app E42 rfl (.tmp 11) (.tmp 15) rfl L hown rfl hr rfl (by omega) hbs ?_; intro v2 w2 hown2 hg2; have hb2 : Below w.heap.size w w2 := hb.grown hg2 hbs (fun k hk => (hown.lt k hk).1); replace hown2 : w2.ownsRow w.heap.size 5 1 v2 (L ++ q.zs).length ((L ++ q.zs).map bv) := (by rw [List.length_append, hr.len]; exact hown2); clear hg2 hown)
      go_roundw
      case rel => exact ⟨k + 1, by omega, by go_num, by rw [hs2.out]; exact hown2, hb2⟩
      case measure => simp [intOf]; omega
    · obtain rfl : k = n := by omega
      rw [List.take_of_length_le (by rw [h.1]; exact Nat.le_refl _)] at hown
      go_wp2
      go_ret
      exact ⟨_, rfl, hown, hb⟩
end Go.Proofs.Ytpfnonkcjlfibaa
