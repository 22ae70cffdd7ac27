/-
  The walk of ParseDataURL at a base64 URL. Conditions: sizes.
-/
import Derived.Test.YtfimnjdfchdldaaFmtHelp
import Derived.Test.YtfimnjdfchdldaaFmtShelf
import Derived.Outline
namespace Go.Proofs.YtfimnjdfchdldaaFmt
open Go.RowKit

theorem ofBytes_eq {s : ByteArray} {l : List UInt8} (h : s.data.toList = l) : s = ofBytes l := by rw [← h, ofBytes_self]

/-- the first comma -/
theorem idx_skip (l r : List UInt8) (c : UInt8) (h : ∀ x ∈ l, x ≠ c) : Lib.indexByte (l ++ c :: r) c = (l.length : Int) := by
  induction l with
  | nil => simp [Lib.indexByte]
  | cons x l ih =>
    have hx : (x == c) = false := by simpa using h x (by simp)
    have ih' := ih fun y hy => h y (by simp [hy])
    show (if (x == c) = true then (0 : Int) else if (Lib.indexByte (l ++ c :: r) c == -1) = true then -1 else Lib.indexByte (l ++ c :: r) c + 1) = _
    rw [hx, ih', if_neg (by simp), if_neg (by simp)]
    simp

set_option maxHeartbeats 800000 in
theorem parse_any (u : ByteArray) (m b : List UInt8) (w : World) (hu : u.data.toList = [100, 97, 116, 97, 58] ++ (m ++ [59, 98, 97, 115, 101, 54, 52]) ++ 44 :: b) (hm : hasB m 44 = false) (hs : u.size ≤ 16777216) :
    Calls Tryf.prog 9 #[.string u] w fun e w' => e = .returned (.tuple #[.agg #[.string (ofBytes m), .string (ofBytes b), .bool true], .bool true]) ∧ Below w.heap.size w w' := by
  obtain ⟨k, hk⟩ : ∃ k, k = m.length := ⟨_, rfl⟩
  obtain ⟨P, hP⟩ : ∃ P, P = ofBytes (m ++ [59, 98, 97, 115, 101, 54, 52]) := ⟨_, rfl⟩
  have hsz : u.size = k + 12 + 1 + b.length := by
    rw [← ba_len, hu]
    simp
    omega
  have hPs : P.size = k + 7 := by rw [hP, ofBytes_size, List.length_append, ← hk]; rfl
  have hpre : Lib.hasPrefix u.data.toList [100, 97, 116, 97, 58] = true := by
    rw [hu]
    unfold Lib.hasPrefix
    simp
  have hidx : Lib.indexByte u.data.toList 44 = ((k + 12 : Nat) : Int) := by
    rw [hu, idx_skip _ _ _ (by
      intro x hx
      simp only [List.mem_append, List.mem_cons, List.not_mem_nil, or_false] at hx
      rcases hx with (rfl | rfl | rfl | rfl | rfl) | hx | rfl | rfl | rfl | rfl | rfl | rfl | rfl
      all_goals first
        | decide
        | exact fun e => hasB_no hm hx (by rw [e]; rfl))]
    simp
    omega
  have e1 : u.extract 5 (k + 12) = P := by
    rw [ofBytes_eq hu, ofBytes_extract, hP]
    congr 1
    rw [List.take_append_of_le_length (by simp; omega), List.take_of_length_le (by simp; omega)]
    rfl
  have e2 : u.extract (k + 12 + 1) (k + 12 + 1 + b.length) = ofBytes b := by
    rw [ofBytes_eq hu, ofBytes_extract]
    congr 1
    rw [List.take_of_length_le (by simp; omega)]
    rw [show ([100, 97, 116, 97, 58] ++ (m ++ [59, 98, 97, 115, 101, 54, 52]) ++ 44 :: b : List UInt8) = ([100, 97, 116, 97, 58] ++ (m ++ [59, 98, 97, 115, 101, 54, 52]) ++ [44]) ++ b by simp]
    rw [List.drop_append_of_le_length (by simp; omega), List.drop_eq_nil_of_le (by simp; omega)]
    rfl
  have e3 : P.extract 0 k = ofBytes m := by
    rw [hP, ofBytes_extract, hk]
    simp
  have hsuf : Lib.hasSuffix P.data.toList [59, 98, 97, 115, 101, 54, 52] = true := by
    rw [hP, ofBytes_data]
    unfold Lib.hasSuffix
    simp
  replace hk := hide hk
  replace hP := hide hP
  replace e1 := hide e1
  replace e2 := hide e2
  replace e3 := hide e3
  replace hsuf := hide hsuf
  replace hidx := hide hidx
  replace hpre := hide hpre
  replace hu := hide hu
  go_enter Tryf.func9, Tryf.ntmps9
  go_wp2_with fail
  refine (Tryf.strings_HasPrefix _ _ _).mono ?_
  rintro e w' ⟨rfl, rfl⟩
  rw [hpre.out]
  go_wp2_with fail
  refine (Tryf.strings_IndexByte _ _ _).mono ?_
  rintro e w' ⟨rfl, rfl⟩
  rw [show (Int.toNat 44).toUInt8 = (44 : UInt8) from rfl, hidx.out]
  have hne : ((k : Int) + 12 == -1) = false := by simp; omega
  have hne2 : ((k : Int) + 12 != -1) = true := by simp; omega
  have e1 := e1.out
  have e2 := e2.out
  have e3 := e3.out
  go_wp2_with fail
  refine (Tryf.strings_HasSuffix _ _ _ (by omega)).mono ?_
  rintro e w' ⟨rfl, rfl⟩
  rw [hsuf.out]
  have hk7 : (k : Int) + 7 - 7 = k := by omega
  go_wp2_with fail
  exact bodyPost_ret (v := .tuple #[.agg #[.string (ofBytes m), .string (ofBytes b), .bool true], .bool true]) (by simp [results, Tryf.results9, go_sem]) rfl ⟨rfl, (Below.refl _ _).alloc (Nat.le_refl _) _⟩
end Go.Proofs.YtfimnjdfchdldaaFmt
