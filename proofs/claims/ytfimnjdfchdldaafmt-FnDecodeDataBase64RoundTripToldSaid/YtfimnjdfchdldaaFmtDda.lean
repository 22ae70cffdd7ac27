/-
  The walk of DecodeData at base64 data. Conditions: sizes.
-/
import Derived.Test.YtfimnjdfchdldaaFmtDst
import Derived.Deep.RegionWith
import Derived.OwnWalk
namespace Go.Proofs.YtfimnjdfchdldaaFmt
open Go.RowKit

theorem after28 {w w1 : World} {m s b : Value} (h : Below (w.alloc (.cells #[m, s, b] 25)).drew.heap.size (w.alloc (.cells #[m, s, b] 25)).drew w1) : w1.cell? ⟨w.heap.size, 1, none⟩ = some s ∧ Below w.heap.size w w1 := by
  have hs : (w.alloc (.cells #[m, s, b] 25)).drew.heap.size = w.heap.size + 1 := by simp
  refine ⟨(h.cell (p := ⟨w.heap.size, 1, none⟩) (by rw [hs]; exact Nat.lt_succ_self _)).trans ?_, (((Below.refl _ _).alloc (Nat.le_refl _) _).drew).trans (h.mono (by rw [hs]; omega))⟩
  show (w.alloc (.cells #[m, s, b] 25)).cell? ⟨w.heap.size, 1, none⟩ = some s
  rw [World.cell?_alloc_at _ _ _ _ rfl]
  rfl

set_option maxHeartbeats 1600000 in
set_option maxRecDepth 100000 in
theorem decodeData_any (m s : ByteArray) (zs : List UInt8) (w : World) (hs : s.data.toList = BM.enc zs) (hz : zs.length ≤ 1048576) :
    Calls Tryf.prog 11 #[.agg #[.string m, .string s, .bool true]] w fun e w' => e = .returned (.tuple #[.string (ofBytes zs), .nilIface]) ∧ Below w.heap.size w w' := by
  have C28 : ∀ wb : World, Calls Tryf.prog 28 #[] wb (Made wb) := fun wb => std_any wb
  have C29 : ∀ (E : Nat) (wb : World), StdAt wb E → Calls Tryf.prog 29 #[.pointer (some ⟨E, 0, none⟩), .string s] wb (StrTo wb zs) := fun E wb hE => decodeString_any E s zs wb hE hs hz
  replace hs := hide hs
  replace C28 := hide C28
  replace C29 := hide C29
  go_enter Tryf.func11, Tryf.ntmps11
  go_upto_region 2 with (fail)
  go_cut [4, 5] (fun s4 s5 wx => ∃ A cap, s4 = .slice A zs.length cap ∧ s5 = .nilIface ∧ Hid (Rd wx wx.heap.size A zs.length zs) ∧ Hid (Below w.heap.size w wx))
  case first =>
    go_region_with (first
      | (go_at_call 28; (with_reducible refine (C28.out _).mono ?_); rintro e w1 ⟨E, rfl, hE, hb⟩; obtain ⟨hc1, hb⟩ := after28 hb; replace hb := hide hb; replace hE := hide hE)
      | (go_at_call 29; (with_reducible refine (C29.out _ _ ?_).mono ?_); exact hE.out; rintro e w2 ⟨A, cap, rfl, hr, hb2⟩; replace hr := hide hr; replace hb2 := hide (hb.out.trans (hb2.mono hb.out.size))))
    all_goals go_wp2
    all_goals go_meet
    all_goals exact ⟨A, cap, rfl, rfl, hr, hb2⟩
  case rest =>
    obtain ⟨A, cap, rfl, rfl, hr, hb⟩ := hcut
    have hst := hr.out.string 39 5 9 cap Tryf.underlying39 Tryf.underlying5 Tryf.underlying9
    go_wp2
    go_ret2
    exact ⟨rfl, hb.out⟩
end Go.Proofs.YtfimnjdfchdldaaFmt
