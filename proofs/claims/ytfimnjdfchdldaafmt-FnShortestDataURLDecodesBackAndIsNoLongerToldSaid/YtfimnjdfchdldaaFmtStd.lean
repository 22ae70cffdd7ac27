/-
  The walk of StdEncoding: the tables that it leaves. Conditions: none.
-/
import Derived.Test.YtfimnjdfchdldaaFmtEnc
import Derived.Lib.BufferWrite
namespace Go.Proofs.YtfimnjdfchdldaaFmt
open Go.RowKit

/-- an encoding's cells: the letters, the map, the padding, not strict -/
def cellsOf (E D : List UInt8) (pad : Int) : Array Value := (E.map bv ++ D.map bv ++ [Value.int .i32 pad, Value.bool false]).toArray
/-- the map behind k letters -/
def dmRow (k : Nat) : List UInt8 := (List.range 256).map fun c => if BM.dm c < k then UInt8.ofNat (BM.dm c) else 255
def A64 : List UInt8 := alphaB.data.toList

theorem A64_length : A64.length = 64 := rfl
theorem dmRow_length (k : Nat) : (dmRow k).length = 256 := by simp [dmRow]
theorem dmRow_get (k : Nat) {c : Nat} (hc : c < 256) : (dmRow k)[c]? = some (if BM.dm c < k then UInt8.ofNat (BM.dm c) else 255) := by
  unfold dmRow
  rw [List.getElem?_map, List.getElem?_range hc]
  rfl
theorem al_dm {c : Nat} (hc : c < 256) (h : BM.dm c < 64) : (BM.al (BM.dm c)).toNat = c := by
  rw [BM.al_toNat h]
  unfold BM.dm at *
  repeat' split
  all_goals (repeat' split at h) <;> omega
theorem dmRow_set {k : Nat} (hk : k < 64) : (dmRow k).set (BM.al k).toNat (UInt8.ofNat k) = dmRow (k + 1) := by
  have hal := (BM.al k).toNat_lt
  have hda := BM.dm_al hk
  apply List.ext_getElem?
  intro c
  rw [List.getElem?_set]
  by_cases hc : c < 256
  · rw [dmRow_get _ hc, dmRow_get _ hc, dmRow_length]
    by_cases e : (BM.al k).toNat = c
    · rw [if_pos e, if_pos (by omega), ← e, hda, if_pos (by omega)]
    · rw [if_neg e]
      have : BM.dm c ≠ k := fun h => e (by rw [← h]; exact al_dm hc (by omega))
      by_cases h1 : BM.dm c < k
      · rw [if_pos h1, if_pos (by omega)]
      · rw [if_neg h1, if_neg (by omega)]
  · rw [List.getElem?_eq_none (by rw [dmRow_length]; omega), List.getElem?_eq_none (by rw [dmRow_length]; omega), dmRow_length]
    split
    · omega
    · rfl
theorem dmRow_zero : dmRow 0 = List.replicate 256 255 := by
  apply List.ext_getElem?
  intro c
  by_cases hc : c < 256
  · rw [dmRow_get _ hc, if_neg (by omega), List.getElem?_replicate, if_pos hc]
  · rw [List.getElem?_eq_none (by rw [dmRow_length]; omega), List.getElem?_eq_none (by rw [List.length_replicate]; omega)]

theorem cellsOf_size (E D : List UInt8) (pad : Int) : (cellsOf E D pad).size = E.length + D.length + 2 := by simp [cellsOf]; omega
theorem cellsOf_map (E D : List UInt8) (pad : Int) {c : Nat} {x : UInt8} (h : D[c]? = some x) : (cellsOf E D pad)[E.length + c]? = some (.int .u8 (x.toNat : Int)) := by
  have hc := (List.getElem?_eq_some_iff.1 h).1
  unfold cellsOf
  rw [List.getElem?_toArray, List.append_assoc, List.getElem?_append_right (by simp), List.length_map, Nat.add_sub_cancel_left, List.getElem?_append_left (by simpa using hc), List.getElem?_map, h]
  rfl
theorem cellsOf_pad (E D : List UInt8) (pad : Int) : (cellsOf E D pad)[E.length + D.length]? = some (.int .i32 pad) := by
  unfold cellsOf
  rw [List.getElem?_toArray, List.getElem?_append_right (by simp)]
  simp
theorem cellsOf_setPad (E D : List UInt8) (pad q : Int) : (cellsOf E D pad).setIfInBounds (E.length + D.length) (.int .i32 q) = cellsOf E D q := by
  unfold cellsOf
  rw [List.setIfInBounds_toArray, List.set_append_right _ _ (by simp)]
  simp
theorem cellsOf_setMap (E D : List UInt8) (pad : Int) (c : Nat) (x : UInt8) (hc : c < D.length) : (cellsOf E D pad).setIfInBounds (E.length + c) (.int .u8 (x.toNat : Int)) = cellsOf E (D.set c x) pad := by
  unfold cellsOf
  rw [List.setIfInBounds_toArray, List.append_assoc, List.set_append_right _ _ (by simp), List.length_map, Nat.add_sub_cancel_left, List.set_append_left _ _ (by simpa using hc), List.map_set, List.append_assoc]
  rfl
theorem byteCells_bv (l : List UInt8) : Lib.byteCells l = l.map bv := rfl
theorem cellsOf_copyE (E D : List UInt8) (pad : Int) (T : ByteArray) (h : T.size = E.length) : ((cellsOf E D pad).toList.take 0 ++ Lib.byteCells T.data.toList ++ (cellsOf E D pad).toList.drop (0 + T.size)).toArray = cellsOf T.data.toList D pad := by
  unfold cellsOf
  rw [byteCells_bv, h]
  simp
theorem cellsOf_copyD (E D : List UInt8) (pad : Int) (T : ByteArray) (h : T.size = D.length) : ((cellsOf E D pad).toList.take E.length ++ Lib.byteCells T.data.toList ++ (cellsOf E D pad).toList.drop (E.length + T.size)).toArray = cellsOf E T.data.toList pad := by
  unfold cellsOf
  rw [byteCells_bv, h]
  simp [List.drop_append]

theorem zero75 : Tryf.zeroCells75 = cellsOf (List.replicate 64 0) (List.replicate 256 0) 0 := by kernel_rfl

theorem Blk.put_eq {w : World} {g : Nat} {t : TypeId} {cs cs' : Array Value} (h : Blk w g t cs) (i : Nat) (u : Value) (e : cs.setIfInBounds i u = cs') : Blk (w.setCell ⟨g, i, none⟩ u) g t cs' := by
  subst e
  exact h.put i u
section
variable {P : Program} {ops : Array Oper} {rest : List Oper} {o : Oper} {a : Act} {Q : Exit → Act → World → Prop} {w : World}
/-- 'copy(dst, s)' of a string into a block of known cells -/
theorem wpList_copyBlk (hgd : o.guard = none) (d x : Operand) (ho : o.op = .call { callee := .builtin .copy, args := #[d, x], argTypes := #[39, 9] }) (h39 : P.underlying 39 = some (.slice 5)) (h5 : (P.info? 5).map (·.size) = some 1)
    (g off n c : Nat) (hd : a.eval d = .slice (some ⟨g, off, none⟩) n c) {T0 : ByteArray} (T : ByteArray) (hx : a.eval x = .string T0) (hT : T0 = T) (t : TypeId) (cs : Array Value) (hg : Blk w g t cs) (hle : T.size ≤ n) (hfit : off + T.size ≤ cs.size)
    (h : ∀ w', Blk w' g t (cs.toList.take off ++ Lib.byteCells T.data.toList ++ cs.toList.drop (off + T.size)).toArray → w.grownBy w' (some g) → wpList P ops Q rest (a.put o.dst (goInt T.size)) w') : wpList P ops Q (o :: rest) a w := by
  rw [hT] at hx
  have hrun := Lib.run_copy_row_string (P := P) w 39 9 o.type 5 g off n c T cs t h39 h5 hg hle hfit
  refine wpList_plain hgd fun K hK => ?_
  unfold Oper.wp
  simp [execOp, ho, resolve, invoke, builtin, hd, hx, hrun, Result.andThen]
  refine hK _ _ (h _ (by rw [← List.append_assoc]; exact setRow_heap w g cs _ t (0, 0) hg) ⟨rfl, rfl, rfl, by simp, fun k _ hk => setRow_other w g k _ (fun e => hk (by rw [e]))⟩)
end

/-- an encoding at block E: the standard one -/
def StdAt (w : World) (E : Nat) : Prop := Blk w E 75 (cellsOf A64 (dmRow 64) 61)

theorem size5' : (Tryf.prog.info? 5).map (·.size) = some 1 := by kernel_rfl

def D255 : ByteArray := ⟨(List.replicate 256 255).toArray⟩
theorem D255_size : D255.size = 256 := by
  show (List.replicate 256 (255 : UInt8)).toArray.size = 256
  rw [List.size_toArray, List.length_replicate]
theorem D255_list : D255.data.toList = List.replicate 256 255 := rfl

/-- what NewEncoding leaves at the standard alphabet -/
def Made (w : World) (e : Ending) (w' : World) : Prop := ∃ E, e = .returned (.pointer (some ⟨E, 0, none⟩)) ∧ StdAt w' E ∧ Below w.heap.size w w'

set_option maxHeartbeats 1600000 in
set_option maxRecDepth 100000 in
theorem newEnc_gen (S : ByteArray) (hsz : S.size = 64) (hAl : ∀ k (h : k < S.size), (S[k]'h) = BM.al k) (hlist : S.data.toList = A64) (w : World) : Calls Tryf.prog 49 #[.string S] w (Made w) := by
  replace hAl := hide hAl
  replace hlist := hide hlist
  have hz0 : Tryf.zeroCells75.setIfInBounds 320 (.int .i32 61) = cellsOf (List.replicate 64 0) (List.replicate 256 0) 61 := by rw [zero75]; exact cellsOf_setPad _ _ _ _
  obtain ⟨Z, hZl, D0, hDl, hz⟩ : ∃ Z : List UInt8, Z.length = 64 ∧ ∃ D0 : List UInt8, D0.length = 256 ∧ Tryf.zeroCells75.setIfInBounds 320 (.int .i32 61) = cellsOf Z D0 61 := ⟨_, List.length_replicate, _, List.length_replicate, hz0⟩
  clear hz0
  replace hz := hide hz
  go_enter Tryf.func49, Tryf.ntmps49
  have hB := Blk.new w 75 (Tryf.zeroCells75.setIfInBounds 320 (.int .i32 61))
  have hb : Below w.heap.size w (w.alloc (.cells (Tryf.zeroCells75.setIfInBounds 320 (.int .i32 61)) 75)) := (Below.refl _ _).alloc (Nat.le_refl _) _
  have hs : (w.alloc (.cells (Tryf.zeroCells75.setIfInBounds 320 (.int .i32 61)) 75)).heap.size = w.heap.size + 1 := by simp
  go_upto_region 5 with (fail)
  generalize w.alloc (.cells (Tryf.zeroCells75.setIfInBounds 320 (.int .i32 61)) 75) = w2 at *
  rw [hz.out] at hB
  clear hz
  go_upto_region 6 with (with_reducible refine wpList_copyBlk rfl (.tmp 16) (.tmp 17) rfl Tryf.underlying39 size5' w.heap.size 0 64 64 rfl S rfl rfl 75 _ hB (by omega) (by rw [cellsOf_size]; omega) ?_; intro w3 hB3 hg3)
  rw [cellsOf_copyE _ _ _ _ (by rw [hsz, hZl]), hlist.out] at hB3
  replace hb := hb.grown hg3 (by omega) (by intro g hg; cases hg; exact Nat.le_refl _)
  have hs3 : w.heap.size < w3.heap.size := hB3.lt
  clear hB hg3 hs
  go_upto_region 7 with (with_reducible refine wpList_copyBlk rfl (.tmp 22) _ rfl Tryf.underlying39 size5' w.heap.size 64 256 256 rfl D255 rfl (by kernel_rfl) 75 _ hB3 (Nat.le_of_eq D255_size) (by rw [cellsOf_size, A64_length, hDl, D255_size]; decide) ?_; intro w4 hB4 hg4)
  rw [show (64 : Nat) = A64.length from rfl, cellsOf_copyD _ _ _ _ (by rw [hDl, D255_size]), D255_list, ← dmRow_zero] at hB4
  replace hb := hb.grown hg4 (by omega) (by intro g hg; cases hg; exact Nat.le_refl _)
  clear hB3 hg4 hs3 hDl hZl
  go_wp2
  go_loopw [4] (fun i wr => ∃ k : Nat, k ≤ 64 ∧ i = .int .i64 k ∧ Blk wr w.heap.size 75 (cellsOf A64 (dmRow k) 61) ∧ Below w.heap.size w wr) (fun i _ => 64 - (intOf i).toNat)
  case atStart => exact ⟨0, by omega, rfl, hB4, hb⟩
  case round =>
    clear hB4 hb
    obtain ⟨k, hk, rfl, hB, hb⟩ := hrel
    by_cases hkl : k < 64
    · have hx := hAl.out k (by omega)
      have hal1 := (BM.al k).toNat_lt
      have hdm := BM.dm_al hkl
      have hat := BM.al_toNat hkl
      have hset := dmRow_set hkl
      have hbnd : 43 ≤ (BM.al k).toNat ∧ (BM.al k).toNat ≤ 122 := by
        rw [hat]
        repeat' split
        all_goals omega
      obtain ⟨c, hc⟩ : ∃ c, (BM.al k).toNat = c := ⟨_, rfl⟩
      rw [hc] at hbnd hdm hset hal1
      obtain ⟨hc43, hc122⟩ := hbnd
      have hcell : wr.cell? ⟨w.heap.size, 64 + c, none⟩ = some (.int .u8 255) := by
        rw [hB.cell (64 + c)]
        have h := cellsOf_map A64 (dmRow k) 61 (dmRow_get k (show c < 256 by omega))
        rw [hdm, if_neg (by omega)] at h
        exact h
      have hfr := hB.frozen (64 + c)
      have hB2 : Blk (wr.setCell ⟨w.heap.size, 64 + c, none⟩ (.int .u8 (k : Int))) w.heap.size 75 (cellsOf A64 (dmRow (k + 1)) 61) := Blk.put_eq hB (64 + c) _ (by
        have h := cellsOf_setMap A64 (dmRow k) 61 c (UInt8.ofNat k) (by rw [dmRow_length]; omega)
        rw [hset] at h
        rw [← h]
        congr 2
        rw [UInt8.toNat_ofNat', Nat.mod_eq_of_lt (by omega)])
      have hb2 := hb.setCell (Nat.le_refl _) (p := ⟨w.heap.size, 64 + c, none⟩) (.int .u8 (k : Int))
      have hi : ∀ wx, (Instr.index 9 (.string S) (.int .i64 (k : Int))).run Tryf.prog wx = .ok (.int .u8 (c : Int)) wx := fun wx => by
        rw [idx_at S k k rfl (by omega) wx, hx, hc]
      have hw8 : IntKind.u8.wrap (k : Int) = (k : Int) := by unfold IntKind.wrap; simp [IntKind.bits, IntKind.signed]; omega
      have b10 : ((c : Int) == 10) = false := by simp; omega
      have b13 : ((c : Int) == 13) = false := by simp; omega
      replace hB2 := hide hB2
      clear hB hb hx hdm hat hset hc hal1
      go_upto_region 12 with (fail)
      go_quiet (fail)
      go_upto_region 14 with (fail)
      go_region
      all_goals
        go_wp2
        go_roundw
        case rel => exact ⟨k + 1, by omega, by go_num, hB2.out, ⟨hb2.os, hb2.tape, hb2.output, hb2.size, hb2.block⟩⟩
        case measure => simp [intOf]; omega
    · obtain rfl : k = 64 := by omega
      go_wp2
      go_ret
      exact ⟨w.heap.size, rfl, hB, hb⟩

theorem newEnc_any (w : World) : Calls Tryf.prog 49 #[.string alphaB] w (Made w) :=
  newEnc_gen alphaB rfl (fun k h => alpha_all ⟨k, h⟩) rfl w

set_option maxRecDepth 100000 in
theorem std_any (w : World) : Calls Tryf.prog 28 #[] w (Made w) := by
  go_enter Tryf.func28, Tryf.ntmps28
  go_wp2_with fail
  refine (newEnc_any w).mono ?_
  rintro e w' ⟨E, rfl, hE, hb⟩
  go_wp2
  go_ret
  exact ⟨E, rfl, hE, hb⟩
end Go.Proofs.YtfimnjdfchdldaaFmt
