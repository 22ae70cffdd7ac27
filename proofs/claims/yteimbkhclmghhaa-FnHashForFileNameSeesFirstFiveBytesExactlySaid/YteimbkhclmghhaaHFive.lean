/-
  The walks behind the second law on HashForFileName: zzB3HasByte, the bound on size; an array of five bytes that came in. Conditions: none.
-/
import Derived.Test.YteimbkhclmghhaaHName
import Derived.ProofKit
import Derived.OpenShut
namespace Go.Proofs.Yteimbkhclmghhaa
open Go.RowKit Go.ChangeShapes Go.WideShapes Go.ChangeAt

/-- is the byte among them? -/
def hasB (s : ByteArray) (c : UInt8) : Bool := s.data.toList.any (fun b => b == c)

theorem hasB_step (s : ByteArray) (c : UInt8) (k : Nat) (hk : k < s.size) :
    (s.data.toList.take (k + 1)).any (fun b => b == c) = ((s.data.toList.take k).any (fun b => b == c) || s[k] == c) := by
  rw [List.take_succ_eq_append_getElem (by simpa using hk), List.any_append]
  simp
  rfl

set_option maxHeartbeats 400000 in
theorem hasByte_any (s : ByteArray) (c : UInt8) (w : World) (hs : s.size ≤ 9223372036854775807) :
    Calls Try.prog 17 #[.string s, .int .u8 (c.toNat : Int)] w fun e w' => e = .returned (.bool (hasB s c)) ∧ w = w' := by
  go_enter Try.func17, Try.ntmps17
  go_wp2
  go_loop [5] (fun i => ∃ k : Nat, k ≤ s.size ∧ i = .int .i64 k ∧ Hid ((s.data.toList.take k).any (fun b => b == c) = false)) (fun i => s.size - (intOf i).toNat)
  case atStart => exact ⟨0, Nat.zero_le _, rfl, rfl⟩
  case round =>
    obtain ⟨k, hk, rfl, hno⟩ := hrel
    by_cases hlt : k < s.size
    · have HS := hide (hasB_step s c k hlt)
      by_cases hc : s[k] = c
      · have hx : ((s[k].toNat : Int) == (c.toNat : Int)) = true := by rw [hc]; simp
        have HC := hide hc
        clear hc
        go_wp2
        go_ret
        refine ⟨?_, rfl⟩
        have h1 : (s.data.toList.take (k + 1)).any (fun b => b == c) = true := by rw [HS.out, HC.out]; simp
        have h2 : hasB s c = true := by
          unfold hasB
          rw [List.any_eq_true] at h1 ⊢
          obtain ⟨x, hx, hxc⟩ := h1
          exact ⟨x, List.mem_of_mem_take hx, hxc⟩
        rw [h2]
        rfl
      · have hx : ((s[k].toNat : Int) == (c.toNat : Int)) = false := by
          simp
          intro h
          exact hc (UInt8.toNat.inj (by omega))
        have HC := hide hc
        clear hc
        go_wp2
        go_round
        case rel =>
          refine ⟨k + 1, by omega, by go_num, ?_⟩
          show (s.data.toList.take (k + 1)).any (fun b => b == c) = false
          rw [HS.out, hno.out]
          simpa using HC.out
        case measure => simp [intOf]; omega
    · obtain rfl : k = s.size := by omega
      go_wp2
      go_ret
      have h := hno.out
      rw [List.take_of_length_le (by simp)] at h
      exact ⟨by unfold hasB; rw [h]; rfl, rfl⟩

section
variable {H : Type} {enc : TypeId × Value → H} {P : Program} {w : World} {base : Nat} {spare : Nat → Bool} {held : Bool}
theorem open_bytes5 {r : Reach} {b0 : Nat} {t e : TypeId} {v : Value} {d : DataW H} {p : List MemPlace} (ht : P.underlying t = some (.array 5 e)) (he : P.underlying e = some (.int .u8)) (hce : P.cellsOf e = 1) (hC : P.cellsOf t = 5)
    (hv : Value.okWide P w r b0 t v) (h : DataW.Trod enc P w base spare held t v d p) :
    ∃ x0 x1 x2 x3 x4 : UInt8, v = .agg #[.int .u8 (x0.toNat : Int), .int .u8 (x1.toNat : Int), .int .u8 (x2.toNat : Int), .int .u8 (x3.toNat : Int), .int .u8 (x4.toNat : Int)] := by
  have hv' : ∃ cs, v = .agg cs ∧ cs.size = P.cellsOf t := by
    unfold Value.okWide at hv
    rw [ht] at hv
    obtain ⟨cs, h1, h2, _⟩ := hv
    exact ⟨cs, h1, h2⟩
  obtain ⟨cs, rfl, hsz⟩ := hv'
  obtain ⟨l⟩ := cs
  match l, hsz.trans hC with
  | [c0, c1, c2, c3, c4], _ =>
    obtain ⟨fuel, hf⟩ := h
    obtain ⟨xs, m, _, _, _, hl, hg⟩ := DataW.trod_array ht hf
    have key : ∀ i c, i < 5 → [c0, c1, c2, c3, c4][i]? = some c → ∃ x : UInt8, c = .int .u8 (x.toNat : Int) := by
      intro i c hi hc
      have h1 := hg i hi
      rw [hce, Nat.mul_one] at h1
      have h2 : (((Value.agg [c0, c1, c2, c3, c4].toArray).cells.toList.drop i).take 1) = [c] := by
        show (([c0, c1, c2, c3, c4].drop i).take 1) = [c]
        have hil := (List.getElem?_eq_some_iff.1 hc).1
        rw [List.drop_eq_getElem_cons hil, (List.getElem?_eq_some_iff.1 hc).2]
        rfl
      rw [h2, List.getElem?_eq_getElem (by omega)] at h1
      obtain ⟨n, h3, _, h4⟩ := DataW.trod_int he h1
      refine ⟨UInt8.ofNat n.toNat, ?_⟩
      rw [u8_of_wf h4]
      simpa using h3
    obtain ⟨x0, e0⟩ := key 0 c0 (by omega) rfl
    obtain ⟨x1, e1⟩ := key 1 c1 (by omega) rfl
    obtain ⟨x2, e2⟩ := key 2 c2 (by omega) rfl
    obtain ⟨x3, e3⟩ := key 3 c3 (by omega) rfl
    obtain ⟨x4, e4⟩ := key 4 c4 (by omega) rfl
    exact ⟨x0, x1, x2, x3, x4, by rw [e0, e1, e2, e3, e4]⟩
end

/-- five bytes as a value -/
def agg5 (x : List UInt8) : Value := .agg (x.map bv).toArray

set_option maxHeartbeats 400000 in
theorem room5_any (x y : Array Value) (A : Option Addr) (n cap : Nat) (w : World) :
    Calls Try.prog 16 #[.agg x, .agg y, .slice A n cap] w fun e w' => e = .returned (.bool (decide (n ≤ 1048576))) ∧ Below w.heap.size w w' := by
  by_cases hn : n ≤ 1048576
  · go_enter Try.func16, Try.ntmps16
    go_wp2
    go_ret
    exact ⟨by simp [hn], ((Below.refl _ _).alloc (Nat.le_refl _) _).alloc (by simp) _⟩
  · go_enter Try.func16, Try.ntmps16
    go_wp2
    go_ret
    exact ⟨by simp [hn], ((Below.refl _ _).alloc (Nat.le_refl _) _).alloc (by simp) _⟩
end Go.Proofs.Yteimbkhclmghhaa
