/-
  The walk of msgString: an error or a warning without a place, a number or a plugin, no colour; fmt's text told. Conditions: sizes.
-/
import Derived.Test.YtcmajdimggdkoaaFmtIdn
import Derived.Stop.CallBack
import Derived.Stop.IfaceNil
import Derived.Stop.FmtTextKit
import Derived.Stop.FmtTextVerbs
import Derived.Stop.JoinedTold
import Derived.Stop.Texts
import Derived.Stop.JoinedAt
import Derived.WalkSpells
import Derived.StillTailTactics
import GoSem.ClaimData
namespace Go.Proofs.YtcmajdimggdkoaaFmt
open Go.RowKit Go.Extern.Stop Go.Stop Go.Extern Go.Kit

theorem call26 (args : Array Value) (w : World) : (callFunc 26 args).run Tryf.prog w = ((FmtStop.sprintf #[9, 147] #[9] args).run Tryf.prog w).andThen fun v w' => .ok (.value v) w' :=
  run_callFunc_extern Tryf.func26 (by kernel_rfl) (by kernel_rfl) (by kernel_rfl) (by kernel_rfl) args w
theorem fmtGuard (name : String) (w : World) : (FmtStop.guard name).run Tryf.prog w = .ok () w := by kernel_rfl
def fmtM : List UInt8 := [37,115,37,115,32,37,115,91,37,115,37,115,37,115,93,37,115,32,37,115,37,115,37,115,37,115,37,115,10,37,115]
theorem fmtMP (w : World) : (FmtDoors.printed ⟨#[37,115,37,115,32,37,115,91,37,115,37,115,37,115,93,37,115,32,37,115,37,115,37,115,37,115,37,115,10,37,115]⟩ 13).run Tryf.prog w = .ok [(0, 115, false), (1, 115, false), (2, 115, false), (3, 115, false), (4, 115, false), (5, 115, false), (6, 115, false), (7, 115, false), (8, 115, false), (9, 115, false), (10, 115, false), (11, 115, false), (12, 115, false)] w := by kernel_rfl
theorem fmtMP0 : FmtStop.printed? ⟨#[37,115,37,115,32,37,115,91,37,115,37,115,37,115,93,37,115,32,37,115,37,115,37,115,37,115,37,115,10,37,115]⟩ 13 = some [(0, 115, false), (1, 115, false), (2, 115, false), (3, 115, false), (4, 115, false), (5, 115, false), (6, 115, false), (7, 115, false), (8, 115, false), (9, 115, false), (10, 115, false), (11, 115, false), (12, 115, false)] := by kernel_rfl
def shape9 : List UInt8 := [12, 6, 0, 0, 0, 0, 0, 0, 0, 115, 116, 114, 105, 110, 103]
theorem op9 (name : String) (x : ByteArray) (w : World) : (FmtStop.operand name false 115 false (.iface 9 (.string x))).run Tryf.prog w = .ok (shape9, FmtStop.pack x.data.toList) w := by kernel_rfl

/-- what fmt is asked -/
def reading (a b c : List UInt8) : List (List UInt8) := [fmtM, shape9, FmtStop.pack [], shape9, FmtStop.pack a, shape9, FmtStop.pack [], shape9, FmtStop.pack [], shape9, FmtStop.pack b, shape9, FmtStop.pack [], shape9, FmtStop.pack [], shape9, FmtStop.pack [], shape9, FmtStop.pack c, shape9, FmtStop.pack [], shape9, FmtStop.pack [], shape9, FmtStop.pack [], shape9, FmtStop.pack []]
theorem fmtParse : (FmtText.parse fmtM).map FmtText.glue = some [.verb {} 115, .verb {} 115, .lit [32], .verb {} 115, .lit [91], .verb {} 115, .verb {} 115, .verb {} 115, .lit [93], .verb {} 115, .lit [32], .verb {} 115, .verb {} 115, .verb {} 115, .verb {} 115, .verb {} 115, .lit [10], .verb {} 115] := by rfl
/-- the line of a message -/
def lineOf (a b c : List UInt8) : List UInt8 := a ++ ([32, 91] ++ (b ++ ([93, 32] ++ (c ++ [10]))))
theorem text_line (a b c : List UInt8) (ha : a.length < 2 ^ 64) (hb : b.length < 2 ^ 64) (hc : c.length < 2 ^ 64) : FmtText.text "fmt.Sprintf" (reading a b c) = some (lineOf a b c) := by
  have h0 := FmtText.operand_str_at (sh := shape9) rfl rfl [] (by decide)
  have h1 := FmtText.operand_str_at (sh := shape9) rfl rfl a ha
  have h2 := FmtText.operand_str_at (sh := shape9) rfl rfl b hb
  have h3 := FmtText.operand_str_at (sh := shape9) rfl rfl c hc
  rw [reading, FmtText.text_sprintf_glued fmtParse (FmtText.operands_cons h0 (FmtText.operands_cons h1 (FmtText.operands_cons h0 (FmtText.operands_cons h0 (FmtText.operands_cons h2 (FmtText.operands_cons h0 (FmtText.operands_cons h0 (FmtText.operands_cons h0 (FmtText.operands_cons h3 (FmtText.operands_cons h0 (FmtText.operands_cons h0 (FmtText.operands_cons h0 (FmtText.operands_cons h0 FmtText.operands_nil)))))))))))))]
  simp [FmtText.render, FmtText.printArg_s_str, lineOf]

theorem told_line (F : Interp) (a b c : List UInt8) (ha : a.length ≤ 1048576) (hb : b.length ≤ 1048576) (hc : c.length ≤ 1048576) : FmtStop.textOf (F.told "fmt.Sprintf" (reading a b c) 0) = ofBytes (lineOf a b c) := by
  have ht := told_string F (text_line a b c (by omega) (by omega) (by omega)) (by simp [lineOf]; omega)
  apply ofBytes_eq
  rw [textOf_list, ht]

set_option maxHeartbeats 3200000 in
set_option maxRecDepth 100000 in
theorem msg39_err (F : Interp) (A K t : ByteArray) (w : World) (hF : F.told.answers w.tape) (ht : t.size ≤ 1048576)
    (hA : A.size ≤ 16) (hK : K.size ≤ 16)
    (hI : ∀ w, Calls Tryf.prog 49 #[.int .u8 0] w fun e w' => e = .returned (.string A) ∧ w = w')
    (hS : ∀ w, Calls Tryf.prog 42 #[.int .u8 0] w fun e w' => e = .returned (.string K) ∧ w = w') :
    Calls Tryf.prog 39 #[.bool true, .int .u8 0, .agg #[.bool false, .bool false, .int .i64 0, .int .i64 0], .int .u8 0, .int .u8 0, .agg #[.nilIface, .pointer none, .string t, .bool false], .string ⟨#[]⟩] w
      fun e w' => e = .returned (.string (ofBytes (lineOf A.data.toList K.data.toList t.data.toList))) ∧ Below w.heap.size w w' := by
  replace hF := hide hF
  replace hI := hide hI
  replace hS := hide hS
  go_enter Tryf.func39, Tryf.ntmps39
  go_wp2_with fail
  obtain ⟨z, hz⟩ : ∃ z : ByteArray, z = ⟨#[]⟩ := ⟨_, rfl⟩
  refine (id48_zero _).mono ?_
  rintro e w1 ⟨rfl, hb⟩
  have c0 : w1.cell? ⟨w.heap.size + 1 + 1, 0, none⟩ = some (.string ⟨#[]⟩) := (hb.cell (p := ⟨w.heap.size + 1 + 1, 0, none⟩) (by simp)).trans (by rw [World.cell?_alloc_at _ _ _ _ (by simp)]; rfl)
  have c1 : w1.cell? ⟨w.heap.size + 1 + 1, 1, none⟩ = some (.string ⟨#[]⟩) := (hb.cell (p := ⟨w.heap.size + 1 + 1, 1, none⟩) (by simp)).trans (by rw [World.cell?_alloc_at _ _ _ _ (by simp)]; rfl)
  have c2 : w1.cell? ⟨w.heap.size + 1, 2, none⟩ = some (.string t) := (hb.cell (p := ⟨w.heap.size + 1, 2, none⟩) (by simp)).trans (by rw [World.cell?_alloc_past _ _ _ (by simp), World.cell?_alloc_at _ _ _ _ (by simp)]; rfl)
  have hb1 : Below w.heap.size w w1 := ((((Below.refl _ _).alloc (Nat.le_refl _) _).alloc (by simp) _).alloc (by simp; omega) _).trans (hb.mono (by simp; omega))
  replace hb1 := hide hb1
  clear hb
  have hIw := hI.out w1.drew
  have hSw := hS.out w1.drew
  replace hIw := hide hIw
  replace hSw := hide hSw
  go_wp2_with fail
  go_still_tail 32, (by kernel_rfl)
  still_call (hIw.out.mono fun _ _ h => ⟨h.1, h.2.symm⟩)
  repeat still_step
  still_call (hSw.out.mono fun _ _ h => ⟨h.1, h.2.symm⟩)
  repeat still_step
  refine wpStill_nil ?_
  change wpList _ _ _ _ _ w1.drew
  have hb2 : Below w.heap.size w w1.drew := hb1.out.drew
  replace hb2 := hide hb2
  clear hb1 hIw hSw c0 c1 c2 hI hS
  generalize w1.drew = w2 at *
  have hF2 : F.told.answers w2.tape := by rw [hb2.out.tape]; exact hF.out
  have hF' := answers_open hF2
  have k26 := call26
  have kg := fmtGuard
  have kp := fmtMP
  have kp0 := fmtMP0
  have ko := op9
  have htold : FmtStop.textOf (F.told "fmt.Sprintf" [[37,115,37,115,32,37,115,91,37,115,37,115,37,115,93,37,115,32,37,115,37,115,37,115,37,115,37,115,10,37,115], shape9, FmtStop.pack [], shape9, FmtStop.pack A.data.toList, shape9, FmtStop.pack [], shape9, FmtStop.pack [], shape9, FmtStop.pack K.data.toList, shape9, FmtStop.pack [], shape9, FmtStop.pack [], shape9, FmtStop.pack [], shape9, FmtStop.pack t.data.toList, shape9, FmtStop.pack [], shape9, FmtStop.pack [], shape9, FmtStop.pack [], shape9, FmtStop.pack []] 0) = ofBytes (lineOf A.data.toList K.data.toList t.data.toList) :=
    told_line F _ _ _ (by rw [ba_len]; omega) (by rw [ba_len]; omega) (by rw [ba_len]; omega)
  replace htold := hide htold
  go_wp2_with fail
  rw [htold.out]
  go_ret
  exact ⟨rfl, (hb2.out.alloc hb2.out.size _).drew⟩

set_option maxHeartbeats 3200000 in
set_option maxRecDepth 100000 in
theorem msg39_warn (F : Interp) (A K t : ByteArray) (w : World) (hF : F.told.answers w.tape) (ht : t.size ≤ 1048576)
    (hA : A.size ≤ 16) (hK : K.size ≤ 16)
    (hI : ∀ w, Calls Tryf.prog 49 #[.int .u8 1] w fun e w' => e = .returned (.string A) ∧ w = w')
    (hS : ∀ w, Calls Tryf.prog 42 #[.int .u8 1] w fun e w' => e = .returned (.string K) ∧ w = w') :
    Calls Tryf.prog 39 #[.bool true, .int .u8 0, .agg #[.bool false, .bool false, .int .i64 0, .int .i64 0], .int .u8 0, .int .u8 1, .agg #[.nilIface, .pointer none, .string t, .bool false], .string ⟨#[]⟩] w
      fun e w' => e = .returned (.string (ofBytes (lineOf A.data.toList K.data.toList t.data.toList))) ∧ Below w.heap.size w w' := by
  replace hF := hide hF
  replace hI := hide hI
  replace hS := hide hS
  go_enter Tryf.func39, Tryf.ntmps39
  go_wp2_with fail
  obtain ⟨z, hz⟩ : ∃ z : ByteArray, z = ⟨#[]⟩ := ⟨_, rfl⟩
  refine (id48_zero _).mono ?_
  rintro e w1 ⟨rfl, hb⟩
  have c0 : w1.cell? ⟨w.heap.size + 1 + 1, 0, none⟩ = some (.string ⟨#[]⟩) := (hb.cell (p := ⟨w.heap.size + 1 + 1, 0, none⟩) (by simp)).trans (by rw [World.cell?_alloc_at _ _ _ _ (by simp)]; rfl)
  have c1 : w1.cell? ⟨w.heap.size + 1 + 1, 1, none⟩ = some (.string ⟨#[]⟩) := (hb.cell (p := ⟨w.heap.size + 1 + 1, 1, none⟩) (by simp)).trans (by rw [World.cell?_alloc_at _ _ _ _ (by simp)]; rfl)
  have c2 : w1.cell? ⟨w.heap.size + 1, 2, none⟩ = some (.string t) := (hb.cell (p := ⟨w.heap.size + 1, 2, none⟩) (by simp)).trans (by rw [World.cell?_alloc_past _ _ _ (by simp), World.cell?_alloc_at _ _ _ _ (by simp)]; rfl)
  have hb1 : Below w.heap.size w w1 := ((((Below.refl _ _).alloc (Nat.le_refl _) _).alloc (by simp) _).alloc (by simp; omega) _).trans (hb.mono (by simp; omega))
  replace hb1 := hide hb1
  clear hb
  have hIw := hI.out w1.drew
  have hSw := hS.out w1.drew
  replace hIw := hide hIw
  replace hSw := hide hSw
  go_wp2_with fail
  go_still_tail 32, (by kernel_rfl)
  still_call (hIw.out.mono fun _ _ h => ⟨h.1, h.2.symm⟩)
  repeat still_step
  still_call (hSw.out.mono fun _ _ h => ⟨h.1, h.2.symm⟩)
  repeat still_step
  refine wpStill_nil ?_
  change wpList _ _ _ _ _ w1.drew
  have hb2 : Below w.heap.size w w1.drew := hb1.out.drew
  replace hb2 := hide hb2
  clear hb1 hIw hSw c0 c1 c2 hI hS
  generalize w1.drew = w2 at *
  have hF2 : F.told.answers w2.tape := by rw [hb2.out.tape]; exact hF.out
  have hF' := answers_open hF2
  have k26 := call26
  have kg := fmtGuard
  have kp := fmtMP
  have kp0 := fmtMP0
  have ko := op9
  have htold : FmtStop.textOf (F.told "fmt.Sprintf" [[37,115,37,115,32,37,115,91,37,115,37,115,37,115,93,37,115,32,37,115,37,115,37,115,37,115,37,115,10,37,115], shape9, FmtStop.pack [], shape9, FmtStop.pack A.data.toList, shape9, FmtStop.pack [], shape9, FmtStop.pack [], shape9, FmtStop.pack K.data.toList, shape9, FmtStop.pack [], shape9, FmtStop.pack [], shape9, FmtStop.pack [], shape9, FmtStop.pack t.data.toList, shape9, FmtStop.pack [], shape9, FmtStop.pack [], shape9, FmtStop.pack [], shape9, FmtStop.pack []] 0) = ofBytes (lineOf A.data.toList K.data.toList t.data.toList) :=
    told_line F _ _ _ (by rw [ba_len]; omega) (by rw [ba_len]; omega) (by rw [ba_len]; omega)
  replace htold := hide htold
  go_wp2_with fail
  rw [htold.out]
  go_ret
  exact ⟨rfl, (hb2.out.alloc hb2.out.size _).drew⟩
end Go.Proofs.YtcmajdimggdkoaaFmt
