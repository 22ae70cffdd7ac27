/-
  The walk of DecodeString over the encoder's text. Conditions: sizes.
-/
import Derived.Test.YtfimnjdfchdldaaFmtDco
import Derived.Outline
namespace Go.Proofs.YtfimnjdfchdldaaFmt
open Go.RowKit

section
variable {P : Program} {ops : Array Oper} {rest : List Oper} {o : Oper} {a : Act} {Q : Exit → Act → World → Prop} {w : World}
/-- '[]byte(s)' -/
theorem wpList_bytes (hgd : o.guard = none) (x : Operand) (src dst : TypeId) (ho : o.op = Op.convert src dst x) (s : ByteArray) (hs : a.eval x = .string s)
    (h1 : P.underlying src = some .string) (h2 : P.underlying dst = some (.slice 5)) (h3 : P.underlying 5 = some (.int .u8))
    (h : ∀ c w', s.size ≤ c → RdT w' (some ⟨w.heap.size, 0, none⟩) s.size s.data.toList → Below w.heap.size w w' → w'.heap.size = w.heap.size + 1 → wpList P ops Q rest (a.put o.dst (.slice (some ⟨w.heap.size, 0, none⟩) s.size c)) w') : wpList P ops Q (o :: rest) a w := by
  refine wpList_plain hgd fun K hK => ?_
  have hrun := Lib.run_convert_string_bytes (P := P) w src dst 5 s h1 h2 h3
  unfold Oper.wp
  simp [execOp, ho, hs, hrun, Result.andThen]
  refine hK _ _ (h _ _ (grownCap_ge w s.size 0 5) ⟨ba_len s, fun _ => ⟨w.heap.size, 0, _, _, rfl, Lib.bytesWorld_at_new w 5 s, fun j x hx => ?_⟩⟩ ?_ (Lib.bytesWorld_size w 5 s))
  · have hj : j < s.size := by rw [← ba_len]; exact (List.getElem?_eq_some_iff.1 hx).1
    unfold Lib.bytesCells
    rw [Nat.zero_add, Array.getElem?_append_left (by rw [Array.size_map]; exact hj), Array.getElem?_map]
    have : s.data[j]? = some x := by rw [← hx, Array.getElem?_toList]
    rw [this]
    rfl
  · exact ⟨by simp [Lib.bytesWorld, World.freeze]; rfl, by simp [Lib.bytesWorld, World.freeze], by simp [Lib.bytesWorld, World.freeze]; rfl, by rw [Lib.bytesWorld_size]; omega, fun k hk => Lib.bytesWorld_at_old w 5 s k hk⟩
end

/-- what DecodeString leaves -/
def StrTo (w : World) (zs : List UInt8) (e : Ending) (w' : World) : Prop :=
  ∃ A cap, e = .returned (.tuple #[.slice A zs.length cap, .nilIface]) ∧ Rd w' w'.heap.size A zs.length zs ∧ Below w.heap.size w w'

set_option maxRecDepth 100000 in
theorem decode_none (E g c b cs : Nat) (w : World) (n : Nat) :
    Calls Tryf.prog 51 #[.pointer (some ⟨E, 0, none⟩), .slice (some ⟨g, 0, none⟩) n c, .slice (some ⟨b, 0, none⟩) 0 cs] w fun e w' => e = .returned (.tuple #[.int .i64 0, .nilIface]) ∧ w = w' := by
  go_enter Tryf.func51, Tryf.ntmps51
  go_wp2
  go_ret2
  exact ⟨rfl, rfl⟩

set_option maxHeartbeats 1600000 in
set_option maxRecDepth 100000 in
theorem decodeString_any (E : Nat) (s : ByteArray) (zs : List UInt8) (w : World) (hE : StdAt w E) (hs : s.data.toList = BM.enc zs) (hz : zs.length ≤ 1048576) :
    Calls Tryf.prog 29 #[.pointer (some ⟨E, 0, none⟩), .string s] w (StrTo w zs) := by
  obtain ⟨Q, hQ⟩ : ∃ Q, Q = (zs.length + 2) / 3 := ⟨_, rfl⟩
  obtain ⟨n, hn⟩ : ∃ n, n = s.size := ⟨_, rfl⟩
  have hn4 : n = 4 * Q := by rw [hn, ← ba_len, hs, BM.enc_length, hQ]
  obtain ⟨N, hN⟩ : ∃ N, N = 3 * Q := ⟨_, rfl⟩
  have hN3 : n / 4 * 3 = N := by omega
  have hNb : N ≤ 1048578 := by omega
  have hzN : zs.length ≤ N := by omega
  have hnb : s.size ≤ 16777216 := by omega
  have hEl := hE.lt
  replace hn := hide hn
  replace hn4 := hide hn4
  replace hN := hide hN
  replace hQ := hide hQ
  replace hN3 := hide hN3
  replace hs := hide hs
  replace hE := hide hE
  go_enter Tryf.func29, Tryf.ntmps29
  go_wp2_with fail
  refine (decodedLenOf_any E s.size w hE.out hnb).mono ?_
  rintro e w' ⟨rfl, rfl⟩
  rw [← hn.out, hN3.out]
  go_wp2_with (first
    | (at_make; refine wpList_mk (c := N) E39 rfl _ rfl w.heap.size N rfl rfl (by omega) (by decide) (Nat.le_refl _) ?_; intro w1 hown hg hsz)
    | (with_reducible refine wpList_bytes rfl (.tmp 17) 9 39 rfl s rfl Tryf.underlying9 Tryf.underlying39 Tryf.underlying5 ?_; intro c w2 hc hr hb hsz2))
  rw [made_bytes] at hown
  have hE1 : StdAt w1 E := Blk.grown hE.out hg (by simp)
  have hE2 : StdAt w2 E := Blk.below hE1 hb hE1.lt
  have hown2 : w2.ownsRow w.heap.size 5 1 (.slice (some ⟨w.heap.size, 0, none⟩) N N) N ((List.replicate N (0 : UInt8)).map bv) := hown.kept (below_grownBy hb) (.inr (by simp [Value.ownBlock]))
  have hbw : Below w.heap.size w w2 := ((Below.refl _ _).grown hg (Nat.le_refl _) (by intro k hk; cases hk)).trans (hb.mono (by omega))
  have hr2 := hr.rd
  rw [hs.out] at hr2
  rw [← hn.out] at hc hr2
  have hz2 : w2.heap.size = w.heap.size + 2 := by omega
  clear hown hg hr hb hE1
  rcases Nat.eq_zero_or_pos zs.length with h0 | h0
  · have hz0 : zs = [] := List.eq_nil_of_length_eq_zero h0
    have hs0 : s.size = 0 := by have := hn.out; have := hn4.out; have := hQ.out; omega
    rw [hs0]
    refine (decode_none E w.heap.size N (w.heap.size + 1) c w2 N).mono ?_
    rintro e w' ⟨rfl, rfl⟩
    clear hs0 h0
    go_wp2
    go_ret2
    exact ⟨_, N, by rw [hz0]; rfl, by rw [hz0]; exact Rd.nil _ _ _, hbw⟩
  · have hd := decode_any E w.heap.size N N w1.heap.size n c zs _ w2 hE2 hown2 hr2 hc (by omega) h0 hz (by have := hN.out; have := hQ.out; omega) (Nat.le_refl _)
    rw [hsz, hn.out] at hd
    refine hd.mono ?_
    rintro e w3 ⟨L, rfl, hown3, hF, hg3⟩
    have hb3 : Below w.heap.size w w3 := hbw.grown hg3 (by omega) (by intro k hk; cases hk; omega)
    replace hb3 := hide hb3
    have hr3 := (Rd.of_own hown3).upto hzN
    rw [hF.take] at hr3
    replace hr3 := hide hr3
    clear hown3 hF hg3 hd hr2 hown2 hE2 hbw
    go_wp2
    go_ret2
    exact ⟨_, N, rfl, hr3.out, hb3.out⟩
end Go.Proofs.YtfimnjdfchdldaaFmt
