/-
  The walk of FnDecodeDataBase64RoundTrip. Conditions: none.
-/
import Derived.Test.YtfimnjdfchdldaaFmtPdu
import Derived.Test.YtfimnjdfchdldaaFmtDda
namespace Go.Proofs.YtfimnjdfchdldaaFmt
open Go.RowKit

set_option maxHeartbeats 1600000 in
set_option maxRecDepth 100000 in
theorem law14_all (m s : ByteArray) (w : World) (hm : m.size ≤ maxLen) (hs : s.size ≤ maxLen) :
    Calls Tryf.prog 3 #[.string m, .string s] w fun e w' => e = .returned (.bool true) ∧ Below w.heap.size w w' := by
  obtain ⟨X, hX⟩ : ∃ X, X = ofBytes (BM.enc s.data.toList) := ⟨_, rfl⟩
  have hm' := hm
  have hs' := hs
  unfold maxLen at hm hs
  by_cases hT : m.size + s.size ≤ 1048576
  · by_cases hL : m.size ≤ 262144 ∧ s.size ≤ 262144
    · obtain ⟨hL1, hL2⟩ := hL
      by_cases hC : hasB m.data.toList 44 = true
      · replace hC := hide hC
        go_enter Tryf.func3, Tryf.ntmps3
        go_wp2_with fail
        refine (bytes7_any m s _ hm' hs').mono ?_
        rintro e w' ⟨rfl, rfl⟩
        rw [decide_eq_true hT]
        go_wp2_with fail
        refine (contains8_any m 44 _ (by omega)).mono ?_
        rintro e w' ⟨rfl, rfl⟩
        rw [show (44 : UInt8).toNat = 44 from rfl, hC.out]
        go_wp2
        go_ret
        exact ⟨rfl, Below.refl _ _⟩
      · have hC : hasB m.data.toList 44 = false := by simpa using hC
        replace hC := hide hC
        go_enter Tryf.func3, Tryf.ntmps3
        go_wp2_with fail
        refine (bytes7_any m s _ hm' hs').mono ?_
        rintro e w' ⟨rfl, rfl⟩
        rw [decide_eq_true hT]
        go_wp2_with fail
        refine (contains8_any m 44 _ (by omega)).mono ?_
        rintro e w' ⟨rfl, rfl⟩
        rw [show (44 : UInt8).toNat = 44 from rfl, hC.out]
        go_wp2_with fail
        refine (base64_any s _ (by omega)).mono ?_
        rintro e w1 ⟨rfl, hb1⟩
        have hXs : X.size ≤ 400000 := by
          rw [hX, ofBytes_size, BM.enc_length, ba_len]
          omega
        rw [← hX]
        have hXl : Hid (X.data.toList = BM.enc s.data.toList) := hide (by rw [hX, ofBytes_data])
        clear hX
        go_wp2_with fail
        refine (parse_any _ m.data.toList X.data.toList w1 (by simp) hC.out (by rw [ByteArray.size_append, ByteArray.size_append, ByteArray.size_append, show (⟨#[100, 97, 116, 97, 58]⟩ : ByteArray).size = 5 from rfl, show (⟨#[59, 98, 97, 115, 101, 54, 52, 44]⟩ : ByteArray).size = 8 from rfl]; omega)).mono ?_
        rintro e w2 ⟨rfl, hb2⟩
        replace hb2 := hide (hb1.trans (hb2.mono hb1.size))
        rw [ofBytes_self, ofBytes_self]
        clear hb1
        go_wp2_with fail
        refine (decodeData_any m X s.data.toList _ hXl.out (by rw [ba_len]; omega)).mono ?_
        rintro e w3 ⟨rfl, hb3⟩
        replace hb3 := hide (hb2.out.trans ((((Below.refl w2.heap.size w2).alloc (Nat.le_refl _) _).trans (hb3.mono (by simp))).mono hb2.out.size))
        rw [ofBytes_self]
        go_wp2
        go_ret
        exact ⟨rfl, hb3.out⟩
    · go_enter Tryf.func3, Tryf.ntmps3
      go_wp2_with fail
      refine (bytes7_any m s _ hm' hs').mono ?_
      rintro e w' ⟨rfl, rfl⟩
      rw [decide_eq_true hT]
      by_cases hL1 : m.size ≤ 262144
      · have hL2 : 262144 < s.size := by omega
        go_wp2
        go_ret
        exact ⟨rfl, Below.refl _ _⟩
      · go_wp2
        go_ret
        exact ⟨rfl, Below.refl _ _⟩
  · go_enter Tryf.func3, Tryf.ntmps3
    go_wp2_with fail
    refine (bytes7_any m s _ hm' hs').mono ?_
    rintro e w' ⟨rfl, rfl⟩
    rw [decide_eq_false hT]
    go_wp2
    go_ret
    exact ⟨rfl, Below.refl _ _⟩
end Go.Proofs.YtfimnjdfchdldaaFmt
