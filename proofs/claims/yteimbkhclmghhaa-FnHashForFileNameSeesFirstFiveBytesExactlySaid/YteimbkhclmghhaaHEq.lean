/-
  The comparison of two arrays of five bytes. Conditions: none.
-/
import Derived.Test.YteimbkhclmghhaaHFive
import Derived.Laws.StructEq
import Derived.ChangeKeysEq
namespace Go.Proofs.Yteimbkhclmghhaa
open Go.RowKit

theorem run_eqLoop {P : Program} (g : Nat → Option Bool × Unit → Sem (ForInStep (Option Bool × Unit))) (bs : Nat → Bool) :
    ∀ (l : List Nat) (w : World), (∀ i ∈ l, ∀ w, (g i (none, ())).run P w = .ok (if bs i then .yield (none, ()) else .done (some false, ())) w) →
      (forIn l (none, ()) g).run P w = .ok (if l.all bs then (none, ()) else (some false, ())) w := by
  intro l
  induction l with
  | nil => intro w _; simp
  | cons i l ih =>
    intro w h
    rw [List.forIn_cons, Sem.run_bind, h i (by simp)]
    cases hb : bs i
    · simp [Result.andThen, hb]
    · simp only [Result.andThen, List.all_cons, hb, Bool.true_and, if_true]
      exact ih w fun j hj => h j (by simp [hj])

theorem run_eq5 (xs ys : Nat → Int) (w : World) :
    (Op.equalIn 10000 39 (.agg #[.int .u8 (xs 0), .int .u8 (xs 1), .int .u8 (xs 2), .int .u8 (xs 3), .int .u8 (xs 4)]) (.agg #[.int .u8 (ys 0), .int .u8 (ys 1), .int .u8 (ys 2), .int .u8 (ys 3), .int .u8 (ys 4)])).run Try.prog w =
      .ok ([0, 1, 2, 3, 4].all fun i => xs i == ys i) w := by
  have e0 : ∀ (a b : Int) (w : World), (Op.equalIn 9999 5 (.int .u8 a) (.int .u8 b)).run Try.prog w = .ok (a == b) w := fun a b w => run_equalIn_int w 9998 5 .u8 .u8 a b Try.underlying5
  obtain ⟨i0, hi, hz0, hz1, hz2⟩ := info_parts E22.info
  have hag : ∀ w : World, (isAgg 5).run Try.prog w = .ok false w := fun w => by kernel_rfl
  obtain ⟨B, hB⟩ : ∃ B, B = ([0, 1, 2, 3, 4].all fun i => xs i == ys i) := ⟨_, rfl⟩
  rw [← hB]
  unfold Op.equalIn
  simp [Sem.run_bind, run_underlying Try.underlying39, Result.andThen, sizeOf, typeInfo, hi, hz1]
  have hr : List.range' 0 5 = [0, 1, 2, 3, 4] := rfl
  rw [hr, run_eqLoop _ (fun i => xs i == ys i)]
  · rw [← hB]
    clear hB
    cases B <;> simp
  · intro i hmem w
    simp only [List.mem_cons, List.mem_nil_iff, or_false] at hmem
    rcases hmem with rfl | rfl | rfl | rfl | rfl <;>
    · simp only [Sem.run_bind, part, hag, Result.andThen, Bool.false_eq_true, if_false]
      simp [e0]
      split <;> simp_all

def pick5 (x0 x1 x2 x3 x4 : UInt8) : Nat → Int
  | 0 => x0.toNat
  | 1 => x1.toNat
  | 2 => x2.toNat
  | 3 => x3.toNat
  | _ => x4.toNat

theorem run_eq5b (x0 x1 x2 x3 x4 y0 y1 y2 y3 y4 : UInt8) (w : World) :
    (Op.equalIn 10000 39 (.agg #[.int .u8 (x0.toNat : Int), .int .u8 (x1.toNat : Int), .int .u8 (x2.toNat : Int), .int .u8 (x3.toNat : Int), .int .u8 (x4.toNat : Int)])
      (.agg #[.int .u8 (y0.toNat : Int), .int .u8 (y1.toNat : Int), .int .u8 (y2.toNat : Int), .int .u8 (y3.toNat : Int), .int .u8 (y4.toNat : Int)])).run Try.prog w =
      .ok (decide ([x0, x1, x2, x3, x4] = [y0, y1, y2, y3, y4])) w := by
  have h := run_eq5 (pick5 x0 x1 x2 x3 x4) (pick5 y0 y1 y2 y3 y4) w
  have e : ([0, 1, 2, 3, 4].all fun i => pick5 x0 x1 x2 x3 x4 i == pick5 y0 y1 y2 y3 y4 i) = decide ([x0, x1, x2, x3, x4] = [y0, y1, y2, y3, y4]) := by
    have k : ∀ a b : UInt8, ((a.toNat : Int) == (b.toNat : Int)) = decide (a = b) := by
      intro a b
      rw [Bool.eq_iff_iff]
      simp only [beq_iff_eq, decide_eq_true_eq]
      exact ⟨fun h => UInt8.toNat.inj (by omega), fun h => by rw [h]⟩
    rw [Bool.eq_iff_iff]
    simp [pick5, k]
  rw [e] at h
  exact h

theorem toList_ofBytes (zs : List UInt8) : (ofBytes zs).toList = zs := by rw [ByteArray.toList_eq]; rfl

theorem five_key (x0 x1 x2 x3 x4 y0 y1 y2 y3 y4 : UInt8) : ∃ b : Bool, Hid (decide ([x0, x1, x2, x3, x4] = [y0, y1, y2, y3, y4]) = b) ∧
    ((ofBytes (HM.head8 [x0, x1, x2, x3, x4])).toList == (ofBytes (HM.head8 [y0, y1, y2, y3, y4])).toList) = b := by
  refine ⟨_, rfl, ?_⟩
  rw [toList_ofBytes, toList_ofBytes, Bool.eq_iff_iff, beq_iff_eq, decide_eq_true_eq]
  exact ⟨fun h => HM.head8_inj rfl rfl h, fun h => by rw [h]⟩

theorem five_none (x0 x1 x2 x3 x4 : UInt8) : hasB (ofBytes (HM.head8 [x0, x1, x2, x3, x4])) 61 = false := by
  unfold hasB
  rw [ofBytes_data, List.any_eq_false]
  intro c hc
  have := HM.head8_ne (zs := [x0, x1, x2, x3, x4]) (by simp) hc
  simpa using this

theorem five_more (x0 x1 x2 x3 x4 : UInt8) (zs : List UInt8) : HM.head8 ([x0, x1, x2, x3, x4] ++ zs) = HM.head8 [x0, x1, x2, x3, x4] := by
  apply HM.head8_congr
  · simp
  · intro j hj
    show ([x0, x1, x2, x3, x4] ++ zs)[j]?.getD 0 = [x0, x1, x2, x3, x4][j]?.getD 0
    rw [List.getElem?_append_left (show j < [x0, x1, x2, x3, x4].length from hj)]
end Go.Proofs.Yteimbkhclmghhaa
