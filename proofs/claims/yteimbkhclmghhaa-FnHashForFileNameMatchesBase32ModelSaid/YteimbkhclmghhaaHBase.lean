/-
  The walk of zzBase32: a text of at least eight letters, the first eight of them the head. Conditions: not empty, at most 16777216 bytes.
-/
import Derived.Test.YteimbkhclmghhaaHHead
namespace Go.Proofs.Yteimbkhclmghhaa
open Go.RowKit

set_option maxHeartbeats 400000 in
theorem base32_any (A : Option Addr) (n cap : Nat) (zs : List UInt8) (w : World) (h : Rd w w.heap.size A n zs) (hcap : n ≤ cap) (hn : n ≤ 16777216) (h0 : 0 < n) :
    Calls Try.prog 19 #[.slice A n cap] w fun e w' => ∃ L, e = .returned (.string (ofBytes L)) ∧ 8 ≤ L.length ∧ L.take 8 = HM.head8 zs ∧ Below w.heap.size w w' := by
  go_enter Try.func19, Try.ntmps19
  go_wp2
  go_loopw [0, 3] (fun b out wr => ∃ (A' : Option Addr) (n' cap' : Nat) (zs' L : List UInt8), b = .slice A' n' cap' ∧ n' ≤ cap' ∧ Rd wr w.heap.size A' n' zs' ∧
      wr.ownsRow w.heap.size 5 1 out L.length (L.map bv) ∧ Below w.heap.size w wr ∧ L.length + 8 * n' ≤ 8 * n ∧ ((L = [] ∧ zs' = zs) ∨ (8 ≤ L.length ∧ L.take 8 = HM.head8 zs)))
    (fun b _ _ => match b with | .slice _ k _ => k | _ => 0)
  case atStart => exact ⟨A, n, cap, zs, [], rfl, hcap, h, World.ownsRow_nil _ _ _ _, Below.refl _ _, by simp, .inl ⟨rfl, rfl⟩⟩
  case round =>
    obtain ⟨A', n', cap', zs', L, rfl, hc', hr, hown, hb, hsz, hL⟩ := hrel
    by_cases hn' : 0 < n'
    · obtain ⟨m, hm5, hmn, hm, hm0⟩ : ∃ m : Nat, m ≤ 5 ∧ m ≤ n' ∧ (5 ≤ m ∨ n' ≤ m) ∧ 0 < m := ⟨min 5 n', by omega, by omega, by omega, by omega⟩
      go_upto_region 3 with (fail)
      go_cut [4] (fun s4 wx => s4 = .int .i64 m ∧ wr = wx)
      case first =>
        go_wp2
        all_goals go_meet
        all_goals exact ⟨by go_num, rfl⟩
      case rest =>
        obtain ⟨rfl, rfl⟩ := hcut
        go_wp2
        go_loop [5, 6] (fun v i => ∃ k : Nat, k ≤ 5 ∧ i = .int .i64 k ∧ v = .int .u64 (HM.v5 zs' k)) (fun _ i => 5 - (intOf i).toNat)
        case atStart => exact ⟨0, by omega, rfl, rfl⟩
        case round =>
          obtain ⟨k, hk, rfl, rfl⟩ := hrel
          by_cases hk5 : k < 5
          · by_cases hkm : k < m
            · obtain ⟨b, off, x, rfl, hbl, hx, hc⟩ := hr.at (show k < n' by omega)
              have HS := hide (HM.v5_or zs' hk5 hx)
              clear hx
              go_wp2
              go_round
              case rel => exact ⟨k + 1, by omega, by go_num, by rw [HS.out]⟩
              case measure => simp [intOf]; omega
            · have HS := hide (HM.v5_skip zs' hk5 (by rw [hr.len]; omega))
              go_wp2
              go_round
              case rel => exact ⟨k + 1, by omega, by go_num, by rw [HS.out]⟩
              case measure => simp [intOf]; omega
          · obtain rfl : k = 5 := by omega
            go_wp2
            obtain ⟨wo, rfl⟩ : ∃ wo : World, wo = wr := ⟨_, rfl⟩
            go_loopw [3, 7] (fun out i wq => ∃ k : Nat, k ≤ 8 ∧ i = .int .i64 k ∧ wq.ownsRow w.heap.size 5 1 out (L.length + k) ((L ++ (HM.head8 zs').take k).map bv) ∧ Below w.heap.size w wq ∧ Rd wq w.heap.size A' n' zs') (fun _ i _ => 8 - (intOf i).toNat)
            case atStart => exact ⟨0, by omega, rfl, by simpa using hown, hb, hr⟩
            case round =>
              have hlen := hr.len
              clear hown hb hr
              obtain ⟨k, hk, rfl, hown, hb, hr⟩ := hrel
              have hbs := hb.size
              by_cases hk8 : k < 8
              · by_cases h5k : 5 * k < 8 * m
                · have hx := HM.head8_letter hk8 (show 5 * k < 8 * min 5 zs'.length by omega)
                  have hpl := HM.place_lt zs' k
                  have hpb := HM.place_bits zs' k
                  have R := push_step L (HM.head8 zs') hx
                  rw [← HM.digit_at _ hpl (show HM.place zs' k < 32 from hpl)] at R
                  generalize HM.place zs' k = pl at *
                  have R' := hide R
                  clear R hx
                  go_wp2_with (at_builtin; refine wpList_push E22 rfl _ _ rfl hown rfl #[_] rfl rfl (one_byte _) (by omega) (by decide) hbs ?_; intro v' w' hown' hg')
                  have hb' : Below w.heap.size w w' := hb.grown hg' hbs (fun g hgb => (hown.lt g hgb).1)
                  have hr' := hr.grown hg' hbs (fun g hgb => (hown.lt g hgb).1)
                  rw [R'.out] at hown'
                  go_roundw
                  case rel => exact ⟨k + 1, by omega, by go_num, hown', hb', hr'⟩
                  case measure => simp [intOf]; omega
                · have hx := HM.head8_pad hk8 (show ¬ 5 * k < 8 * min 5 zs'.length by omega)
                  have R' : Hid ((L ++ (HM.head8 zs').take k).map bv ++ #[Value.int .u8 61].toList = (L ++ (HM.head8 zs').take (k + 1)).map bv) := hide (push_step L (HM.head8 zs') hx)
                  clear hx
                  go_wp2_with (at_builtin; refine wpList_push E22 rfl _ _ rfl hown rfl #[_] rfl rfl (one_byte _) (by omega) (by decide) hbs ?_; intro v' w' hown' hg')
                  have hb' : Below w.heap.size w w' := hb.grown hg' hbs (fun g hgb => (hown.lt g hgb).1)
                  have hr' := hr.grown hg' hbs (fun g hgb => (hown.lt g hgb).1)
                  rw [R'.out] at hown'
                  go_roundw
                  case rel => exact ⟨k + 1, by omega, by go_num, hown', hb', hr'⟩
                  case measure => simp [intOf]; omega
              · obtain rfl : k = 8 := by omega
                have hcut := hr.from_ hmn hc'
                have hown2 : wr.ownsRow w.heap.size 5 1 u3 (L ++ HM.head8 zs').length ((L ++ HM.head8 zs').map bv) := by
                  rw [List.take_of_length_le (Nat.le_of_eq (HM.head8_length zs'))] at hown
                  rw [List.length_append, HM.head8_length]
                  exact hown
                have hl8 := HM.head8_length zs'
                have hfin : 8 ≤ (L ++ HM.head8 zs').length ∧ (L ++ HM.head8 zs').take 8 = HM.head8 zs := by
                  refine ⟨by rw [List.length_append]; omega, ?_⟩
                  rcases hL with ⟨rfl, rfl⟩ | ⟨h8, hL⟩
                  · rw [List.nil_append]; exact List.take_of_length_le (Nat.le_of_eq hl8)
                  · rw [List.take_append_of_le_length h8]; exact hL
                have hfin' := hide hfin
                have hl' := hide hl8
                clear hfin hl8 hL
                go_wp2
                go_roundw
                case rel => exact ⟨_, _, _, _, _, rfl, by omega, hcut, hown2, hb, by rw [List.length_append, hl'.out]; omega, .inr hfin'.out⟩
                case measure => show n' - m < n'; omega
    · obtain rfl : n' = 0 := by omega
      obtain ⟨A2, c2, rfl, hlc, hrd⟩ := own_rd hown
      have hst := hrd.string 22 5 9 c2 Try.underlying22 Try.underlying5 Try.underlying9
      go_wp2
      go_ret
      rcases hL with ⟨rfl, rfl⟩ | ⟨h8, hL⟩
      · have := h.len
        have := hr.len
        omega
      · exact ⟨L, rfl, h8, hL, hb⟩
end Go.Proofs.Yteimbkhclmghhaa
