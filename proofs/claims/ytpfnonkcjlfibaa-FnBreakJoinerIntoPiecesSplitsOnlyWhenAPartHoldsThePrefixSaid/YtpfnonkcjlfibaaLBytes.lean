/-
  '[]byte(s)' in a walk, and the rendering of pieces step by step. Conditions: none.
-/
import Derived.Test.YtpfnonkcjlfibaaLBrk
namespace Go.Proofs.Ytpfnonkcjlfibaa
open Go.RowKit

section
variable {P : Program} {ops : Array Oper} {rest : List Oper} {o : Oper} {a : Act} {Q : Exit → Act → World → Prop} {w : World}
/-- '[]byte(s)' -/
theorem wpList_bytes (hgd : o.guard = none) (x : Operand) (src dst : TypeId) (ho : o.op = Op.convert src dst x) (s : ByteArray) (hs : a.eval x = .string s)
    (h1 : P.underlying src = some .string) (h2 : P.underlying dst = some (.slice 5)) (h3 : P.underlying 5 = some (.int .u8))
    (h : ∀ c w', s.size ≤ c → RdT w' (some ⟨w.heap.size, 0, none⟩) s.size s.data.toList → Below w.heap.size w w' → w'.heap.size = w.heap.size + 1 → wpList P ops Q rest (a.put o.dst (.slice (some ⟨w.heap.size, 0, none⟩) s.size c)) w') : wpList P ops Q (o :: rest) a w := by
  refine wpList_plain hgd fun K hK => ?_
  have hrun := Lib.run_convert_string_bytes (P := P) w src dst 5 s h1 h2 h3
  unfold Oper.wp
  simp [execOp, ho, hs, hrun, Result.andThen]
  refine hK _ _ (h _ _ (grownCap_ge w s.size 0 5) ⟨len_data s, fun _ => ⟨w.heap.size, 0, _, _, rfl, Lib.bytesWorld_at_new w 5 s, fun j x hx => ?_⟩⟩ ?_ (Lib.bytesWorld_size w 5 s))
  · have hj : j < s.size := by rw [← len_data]; exact (List.getElem?_eq_some_iff.1 hx).1
    unfold Lib.bytesCells
    rw [Nat.zero_add, Array.getElem?_append_left (by rw [Array.size_map]; exact hj), Array.getElem?_map]
    have : s.data[j]? = some x := by rw [← hx, Array.getElem?_toList]
    rw [this]
    rfl
  · exact ⟨by simp [Lib.bytesWorld, World.freeze]; rfl, by simp [Lib.bytesWorld, World.freeze], by simp [Lib.bytesWorld, World.freeze]; rfl, by rw [Lib.bytesWorld_size]; omega, fun k hk => Lib.bytesWorld_at_old w 5 s k hk⟩
end

namespace LM
theorem drop_here {ps : List PK} {i : Nat} {p : PK} (hi : ps[i]? = some p) : ps.drop i = p :: ps.drop (i + 1) := by
  have hlt := (List.getElem?_eq_some_iff.1 hi).1
  rw [List.drop_eq_getElem_cons hlt]
  congr 1
  exact (List.getElem?_eq_some_iff.1 hi).2
theorem render_last {pre : List UInt8} {ps : List PK} {i : Nat} {p : PK} (hi : ps[i]? = some p) (he : i + 1 = ps.length) : render pre (ps.drop i) = p.1 := by
  rw [drop_here hi, List.drop_eq_nil_of_le (by omega)]
  rfl
theorem render_step {pre : List UInt8} {ps : List PK} {i : Nat} {p : PK} (hi : ps[i]? = some p) (he : i + 1 < ps.length) : render pre (ps.drop i) = p.1 ++ (keyBytes pre p.2.1 p.2.2 ++ render pre (ps.drop (i + 1))) := by
  obtain ⟨q, hq⟩ : ∃ q, ps[i + 1]? = some q := ⟨_, List.getElem?_eq_getElem he⟩
  rw [drop_here hi, drop_here hq]
  rfl
end LM
theorem own_nil (w : World) (base : Nat) : w.ownsRow base 5 1 (.slice none 0 0) ([] : List UInt8).length (([] : List UInt8).map bv) := ⟨rfl, .inl ⟨rfl, rfl⟩⟩
end Go.Proofs.Ytpfnonkcjlfibaa
