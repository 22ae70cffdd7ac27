/-
  The walk of EncodeStringAsShortestDataURL, fmt's text told. Conditions: sizes; the tables of unicode/utf8.
-/
import Derived.Test.YtfimnjdfchdldaaFmtPes
import Derived.Test.YtfimnjdfchdldaaFmtEnw
import Derived.Test.YtfimnjdfchdldaaFmtDst
import Derived.Test.YtfimnjdfchdldaaFmtPdu
import Derived.Stop.CallBack
import Derived.Stop.IfaceNil
import Derived.Stop.FmtTextKit
import Derived.Stop.FmtTextVerbs
import Derived.Stop.JoinedTold
import Derived.Stop.Texts
import Derived.Stop.JoinedAt
import Derived.WalkSpells
import GoSem.ClaimData
namespace Go.Proofs.YtfimnjdfchdldaaFmt
open Go.RowKit Go.Extern.Stop Go.Stop Go.Extern Go.Kit

theorem call33 (args : Array Value) (w : World) : (callFunc 33 args).run Tryf.prog w = ((FmtStop.sprintf #[9, 65] #[9] args).run Tryf.prog w).andThen fun v w' => .ok (.value v) w' :=
  run_callFunc_extern Tryf.func33 (by kernel_rfl) (by kernel_rfl) (by kernel_rfl) (by kernel_rfl) args w
theorem fmtGuard (name : String) (w : World) : (FmtStop.guard name).run Tryf.prog w = .ok () w := by kernel_rfl
/-- "data:%s;base64,%s" -/
def fmtB : List UInt8 := [100, 97, 116, 97, 58, 37, 115, 59, 98, 97, 115, 101, 54, 52, 44, 37, 115]
theorem fmtP (w : World) : (FmtDoors.printed ⟨#[100, 97, 116, 97, 58, 37, 115, 59, 98, 97, 115, 101, 54, 52, 44, 37, 115]⟩ 2).run Tryf.prog w = .ok [(0, 115, false), (1, 115, false)] w := by kernel_rfl
theorem fmtP0 : FmtStop.printed? ⟨#[100, 97, 116, 97, 58, 37, 115, 59, 98, 97, 115, 101, 54, 52, 44, 37, 115]⟩ 2 = some [(0, 115, false), (1, 115, false)] := by kernel_rfl
def shape9 : List UInt8 := [12, 6, 0, 0, 0, 0, 0, 0, 0, 115, 116, 114, 105, 110, 103]
theorem op9 (name : String) (x : ByteArray) (w : World) : (FmtStop.operand name false 115 false (.iface 9 (.string x))).run Tryf.prog w = .ok (shape9, FmtStop.pack x.data.toList) w := by kernel_rfl

/-- what fmt is asked -/
def reading (m e : List UInt8) : List (List UInt8) := [fmtB, shape9, FmtStop.pack m, shape9, FmtStop.pack e]
theorem fmtParse : (FmtText.parse fmtB).map FmtText.glue = some [.lit [100, 97, 116, 97, 58], .verb {} 115, .lit [59, 98, 97, 115, 101, 54, 52, 44], .verb {} 115] := by rfl
/-- the base64 URL -/
def b64URL (m zs : List UInt8) : List UInt8 := [100, 97, 116, 97, 58] ++ (m ++ ([59, 98, 97, 115, 101, 54, 52, 44] ++ BM.enc zs))
theorem text_b64 (m e : List UInt8) (hm : m.length < 2 ^ 64) (he : e.length < 2 ^ 64) : FmtText.text "fmt.Sprintf" (reading m e) = some ([100, 97, 116, 97, 58] ++ (m ++ ([59, 98, 97, 115, 101, 54, 52, 44] ++ e))) := by
  have h1 := FmtText.operand_str_at (sh := shape9) rfl rfl m hm
  have h2 := FmtText.operand_str_at (sh := shape9) rfl rfl e he
  rw [reading, FmtText.text_sprintf_glued fmtParse (FmtText.operands_cons h1 (FmtText.operands_cons h2 FmtText.operands_nil))]
  simp [FmtText.render, FmtText.printArg_s_str]

/-- the answer -/
def shortURL (m zs : List UInt8) : List UInt8 := if U8.validU zs = true ∧ (pctURL m zs).length < (b64URL m zs).length then pctURL m zs else b64URL m zs

theorem told_b64 (F : Interp) (m zs : List UInt8) (hm : m.length ≤ 1048576) (hz : zs.length ≤ 1048576) : FmtStop.textOf (F.told "fmt.Sprintf" (reading m (BM.enc zs)) 0) = ofBytes (b64URL m zs) := by
  have hl := BM.enc_length zs
  have ht := told_string F (text_b64 m (BM.enc zs) (by omega) (by omega)) (by simp; omega)
  apply ofBytes_eq
  rw [textOf_list, ht]
  rfl

set_option maxHeartbeats 1600000 in
set_option maxRecDepth 100000 in
theorem shortest_any (F : Interp) (m s : ByteArray) (w : World) (hF : F.told.answers w.tape) (hT : Lib.Utf8Tabs 0 1 w) (hm : m.size ≤ 524288) (hs : s.size ≤ 524288) :
    Calls Tryf.prog 13 #[.string m, .string s] w fun e w' => e = .returned (.string (ofBytes (shortURL m.data.toList s.data.toList))) ∧ Below w.heap.size w w' := by
  replace hF := hide hF
  replace hT := hide hT
  go_enter Tryf.func13, Tryf.ntmps13
  go_wp2_with fail
  refine (std_any w).mono ?_
  rintro e w1 ⟨E, rfl, hE, hb1⟩
  replace hE := hide hE
  replace hb1 := hide hb1
  go_wp2_with (with_reducible refine wpList_bytes rfl (.tmp 10) 9 39 rfl s rfl Tryf.underlying9 Tryf.underlying39 Tryf.underlying5 ?_; intro c w2 hc hr hb2 hsz2)
  have hE2 : StdAt w2 E := Blk.below hE.out hb2 hE.out.lt
  have hr2 := hr.rd
  replace hb2 := hide (hb1.out.trans (hb2.mono hb1.out.size))
  have hC := encodeToString_any E s.size c _ s.data.toList w2 hE2 hr2 hc (by omega)
  replace hC := hide hC
  clear hE hr hE2 hr2 hb1
  go_wp2_with fail
  refine hC.out.mono ?_
  rintro e w3 ⟨rfl, hb3⟩
  replace hb3 := hide (hb2.out.trans (hb3.mono hb2.out.size))
  have hF3 : F.told.answers w3.tape := by rw [hb3.out.tape]; exact hF.out
  have hF' := answers_open hF3
  have k33 := call33
  have kg := fmtGuard
  have kp := fmtP
  have kp0 := fmtP0
  have ko := op9
  obtain ⟨X, hX⟩ : ∃ X, X = ofBytes (BM.enc s.data.toList) := ⟨_, rfl⟩
  rw [← hX]
  replace hX := hide hX
  clear hC hb2
  have htold : FmtStop.textOf (F.told "fmt.Sprintf" [[100, 97, 116, 97, 58, 37, 115, 59, 98, 97, 115, 101, 54, 52, 44, 37, 115], shape9, FmtStop.pack m.data.toList, shape9, FmtStop.pack X.data.toList] 0) = ofBytes (b64URL m.data.toList s.data.toList) := by
    rw [hX.out, ofBytes_data]
    exact told_b64 F _ _ (by rw [ba_len]; omega) (by rw [ba_len]; omega)
  obtain ⟨U, hU⟩ : ∃ U, U = ofBytes (b64URL m.data.toList s.data.toList) := ⟨_, rfl⟩
  have hUl : U.size = (b64URL m.data.toList s.data.toList).length := by rw [hU, ofBytes_size]
  rw [← hU] at htold
  replace htold := hide htold
  replace hU := hide hU
  replace hUl := hide hUl
  go_upto_region 3 with (fail)
  rw [htold.out]
  have hb4 : ∀ o, Below w.heap.size w (w3.alloc o).drew := fun o => (hb3.out.alloc hb3.out.size o).drew
  replace hb4 := hide hb4
  clear hF3 hF' k33 kg kp kp0 ko htold
  go_wp2_with fail
  have hT4 := tabs_below hT.out (hb4.out (.cells #[.iface 9 (.string m), .iface 9 (.string X)] 20))
  refine (percent_any m s _ hT4 (by omega) (by omega)).mono ?_
  rintro e w5 ⟨hy, hn, hb5⟩
  replace hb5 := hide ((hb4.out _).trans (hb5.mono (hb4.out _).size))
  clear hb4 hT4 hb3
  cases hv : U8.validU s.data.toList
  · rw [hn hv]
    have hsh : Hid (U = ofBytes (shortURL m.data.toList s.data.toList)) := hide (by unfold shortURL; rw [if_neg (by rw [hv]; simp)]; exact hU.out)
    clear hy hn hv
    go_wp2
    go_ret
    exact ⟨by rw [hsh.out]; rfl, hb5.out⟩
  · rw [hy hv]
    obtain ⟨Y, hY⟩ : ∃ Y, Y = ofBytes (pctURL m.data.toList s.data.toList) := ⟨_, rfl⟩
    have hYl : Y.size = (pctURL m.data.toList s.data.toList).length := by rw [hY, ofBytes_size]
    rw [← hY]
    by_cases hlt : Y.size < U.size
    · have hsh : Hid (Y = ofBytes (shortURL m.data.toList s.data.toList)) := hide (by unfold shortURL; rw [if_pos ⟨hv, by rw [← hYl, ← hUl.out]; exact hlt⟩]; exact hY)
      clear hy hn hv hY hYl
      go_wp2
      go_ret
      exact ⟨by rw [hsh.out]; rfl, hb5.out⟩
    · have hsh : Hid (U = ofBytes (shortURL m.data.toList s.data.toList)) := hide (by unfold shortURL; rw [if_neg (by rw [← hYl, ← hUl.out]; exact fun e => hlt e.2)]; exact hU.out)
      clear hy hn hv hY hYl
      go_wp2
      go_ret
      exact ⟨by rw [hsh.out]; rfl, hb5.out⟩
end Go.Proofs.YtfimnjdfchdldaaFmt
