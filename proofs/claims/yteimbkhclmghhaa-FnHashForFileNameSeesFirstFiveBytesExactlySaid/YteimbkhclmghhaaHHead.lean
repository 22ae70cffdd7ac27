/-
  The walk of the model of base32's head. Conditions: at most 4294967295 bytes.
-/
import Derived.Test.YteimbkhclmghhaaMem
import Derived.Test.YteimbkhclmghhaaHMath
import Derived.Test.YteimbkhclmghhaaRows
import Derived.WalkKit
import Derived.WalkLawsBesides
import Derived.WalkSpells
import Derived.LoopTactic
import Derived.Deep.DeepCutAuto
import Derived.Outline
namespace Go.Proofs.Yteimbkhclmghhaa
open Go.RowKit
theorem hide {p : Prop} (h : p) : Hid p := h
theorem E22 : ElemT Try.prog 22 5 (.int .u8 0) 1 1 := ⟨Try.underlying22, by kernel_rfl, rfl, by decide⟩

set_option maxHeartbeats 400000 in
theorem head_any (A : Option Addr) (n cap : Nat) (zs : List UInt8) (w : World) (h : Rd w w.heap.size A n zs) (hn : n ≤ 4294967295) :
    Calls Try.prog 9 #[.slice A n cap] w fun e w' => e = .returned (.string (ofBytes (HM.head8 zs))) ∧ Below w.heap.size w w' := by
  obtain ⟨m, hm5, hmn, hm⟩ : ∃ m : Nat, m ≤ 5 ∧ m ≤ n ∧ (5 ≤ m ∨ n ≤ m) := ⟨min 5 n, by omega, by omega, by omega⟩
  go_enter Try.func9, Try.ntmps9
  go_upto_if 13 with (fail)
  go_cut [4] (fun s4 wx => s4 = .int .i64 m ∧ w = wx)
  case first =>
    go_wp2
    all_goals go_meet
    all_goals exact ⟨by go_num, rfl⟩
  case rest =>
    obtain ⟨rfl, rfl⟩ := hcut
    go_wp2
    go_loop [5, 6] (fun v i => ∃ k : Nat, k ≤ 5 ∧ i = .int .i64 k ∧ v = .int .u64 (HM.v5 zs k)) (fun _ i => 5 - (intOf i).toNat)
    case atStart => exact ⟨0, by omega, rfl, rfl⟩
    case round =>
      obtain ⟨k, hk, rfl, rfl⟩ := hrel
      by_cases hk5 : k < 5
      · by_cases hkm : k < m
        · obtain ⟨b, off, x, rfl, hb, hx, hc⟩ := h.at (show k < n by omega)
          have HS := hide (HM.v5_or zs hk5 hx)
          clear hx
          go_wp2
          go_round
          case rel => exact ⟨k + 1, by omega, by go_num, by rw [HS.out]⟩
          case measure => simp [intOf]; omega
        · have HS := hide (HM.v5_skip zs hk5 (by rw [h.len]; omega))
          go_wp2
          go_round
          case rel => exact ⟨k + 1, by omega, by go_num, by rw [HS.out]⟩
          case measure => simp [intOf]; omega
      · obtain rfl : k = 5 := by omega
        go_wp2_with (at_make; refine wpList_mk (c := 8) E22 rfl _ rfl w.heap.size 8 rfl rfl (by decide) (by decide) (Nat.le_refl _) ?_; intro w1 hown hg hsz)
        rw [made_bytes, ← fill_zero (HM.head8 zs) 8] at hown
        have hb1 : Below w.heap.size w w1 := (Below.refl _ _).grown hg (Nat.le_refl _) (by intro k hk; cases hk)
        clear hg
        go_loopw [9] (fun i wr => ∃ k : Nat, k ≤ 8 ∧ i = .int .i64 k ∧ wr.ownsRow w.heap.size 5 1 (.slice (some ⟨w.heap.size, 0, none⟩) 8 8) 8 ((fill (HM.head8 zs) 8 k).map bv) ∧ Below w.heap.size w wr) (fun i _ => 8 - (intOf i).toNat)
        case atStart => exact ⟨0, by omega, rfl, hown, hb1⟩
        case round =>
          obtain ⟨k, hk, rfl, hown, hb⟩ := hrel
          by_cases hk8 : k < 8
          · have hf := hown.frozenAt k
            have hu := fill_cell hown (HM.head8_length zs) hk8
            by_cases h5k : 5 * k < 8 * m
            · have hx := HM.head8_letter hk8 (show 5 * k < 8 * min 5 zs.length by rw [h.len]; omega)
              have hpl := HM.place_lt zs k
              have hpb := HM.place_bits zs k
              have R := fill_store hown (HM.head8_length zs) hx
              rw [← HM.digit_at _ hpl (show HM.place zs k < 32 from hpl)] at R
              generalize HM.place zs k = pl at *
              have R' := hide R
              have hown' := hide hown
              clear R hx hown
              go_wp2
              go_roundw
              case rel => exact ⟨k + 1, by omega, by go_num, R'.out, hb.setCell (Nat.le_refl _) _⟩
              case measure => simp [intOf]; omega
            · have hx := HM.head8_pad hk8 (show ¬ 5 * k < 8 * min 5 zs.length by rw [h.len]; omega)
              have R' := hide (fill_store hown (HM.head8_length zs) hx)
              have hown' := hide hown
              clear hx hown
              go_wp2
              go_roundw
              case rel => exact ⟨k + 1, by omega, by go_num, R'.out, hb.setCell (Nat.le_refl _) _⟩
              case measure => simp [intOf]; omega
          · obtain rfl : k = 8 := by omega
            rw [fill_all _ _ (HM.head8_length zs)] at hown
            have hst := (Rd.of_own hown).string 22 5 9 8 Try.underlying22 Try.underlying5 Try.underlying9
            go_wp2
            go_ret
            exact ⟨rfl, hb⟩
end Go.Proofs.Yteimbkhclmghhaa
