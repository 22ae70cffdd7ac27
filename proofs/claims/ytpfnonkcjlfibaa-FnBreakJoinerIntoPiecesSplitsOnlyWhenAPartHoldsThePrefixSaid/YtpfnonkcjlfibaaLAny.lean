/-
  A first place of a text in another, as hasSub says it; the parts' hits. Conditions: none.
-/
import Derived.Test.YtpfnonkcjlfibaaLOf
namespace Go.Proofs.Ytpfnonkcjlfibaa
open Go.RowKit

theorem LM.first_of {pre zs : List UInt8} : ∀ (i : Nat), i + pre.length ≤ zs.length → JM.occ zs pre i = true → ∃ b, LM.First pre zs b := by
  intro i
  induction i using Nat.strongRecOn with
  | ind i ih =>
    intro hi ho
    by_cases h : ∃ j, j < i ∧ JM.occ zs pre j = true
    · obtain ⟨j, hj, ho'⟩ := h
      exact ih j hj (by omega) ho'
    · refine ⟨i, hi, ho, fun j hj => ?_⟩
      cases hc : JM.occ zs pre j with
      | false => rfl
      | true => exact absurd ⟨j, hj, hc⟩ h
theorem LM.first_yes {pre zs : List UInt8} {b : Nat} (h : LM.First pre zs b) : JM.hasSub zs pre = true := JM.hasSub_yes h.1 h.2.1
theorem LM.first_no {pre zs : List UInt8} (h : ∀ b, ¬ LM.First pre zs b) : JM.hasSub zs pre = false := by
  refine JM.hasSub_no fun i hi => ?_
  cases hc : JM.occ zs pre i with
  | false => rfl
  | true =>
    obtain ⟨b, hb⟩ := LM.first_of i hi hc
    exact absurd hb (h b)

/-- do the first k parts hold the text? -/
def anyP (qs : List Part) (bs : List UInt8) : Bool := qs.any fun q => JM.hasSub q.zs bs
theorem anyP_succ {qs : List Part} {k : Nat} {q : Part} (h : qs[k]? = some q) (bs : List UInt8) : anyP (qs.take (k + 1)) bs = (anyP (qs.take k) bs || JM.hasSub q.zs bs) :=
  any_take_succ qs (fun q => JM.hasSub q.zs bs) h
theorem Items.any {qs : List Part} {k : Nat} {TS : List BItem} (h : Items qs k TS) (bs : List UInt8) : anyT TS bs = anyP (qs.take k) bs := by
  have h1 : ∀ l : List BItem, anyT l bs = (l.map (·.zs)).any fun z => JM.hasSub z bs := fun l => by unfold anyT; rw [List.any_map]; rfl
  have h2 : ∀ l : List Part, anyP l bs = (l.map (·.zs)).any fun z => JM.hasSub z bs := fun l => by unfold anyP; rw [List.any_map]; rfl
  rw [h1, h2, h.same]
end Go.Proofs.Ytpfnonkcjlfibaa
