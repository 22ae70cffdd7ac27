/-
  The walk of zzBuild: the joiner that it leaves holds the pieces. Conditions: what zzTooBig has let through.
-/
import Derived.Test.YteimbkhclmghhaaJRoom
namespace Go.Proofs.Yteimbkhclmghhaa
open Go.RowKit

section
variable {P : Program} {ops : Array Oper} {rest : List Oper} {o : Oper} {a : Act} {Q : Exit → Act → World → Prop} {w : World}
/-- '[]byte(s)' -/
theorem wpList_bytes (hgd : o.guard = none) (x : Operand) (src dst : TypeId) (ho : o.op = Op.convert src dst x) (s : ByteArray) (hs : a.eval x = .string s)
    (h1 : P.underlying src = some .string) (h2 : P.underlying dst = some (.slice 5)) (h3 : P.underlying 5 = some (.int .u8))
    (h : ∀ c w', s.size ≤ c → RdT w' (some ⟨w.heap.size, 0, none⟩) s.size s.data.toList → Below w.heap.size w w' → w'.heap.size = w.heap.size + 1 → wpList P ops Q rest (a.put o.dst (.slice (some ⟨w.heap.size, 0, none⟩) s.size c)) w') : wpList P ops Q (o :: rest) a w := by
  refine wpList_plain hgd fun K hK => ?_
  have hrun := Lib.run_convert_string_bytes (P := P) w src dst 5 s h1 h2 h3
  unfold Oper.wp
  simp [execOp, ho, hs, hrun, Result.andThen]
  refine hK _ _ (h _ _ (grownCap_ge w s.size 0 5) ⟨len_data s, fun _ => ⟨w.heap.size, 0, _, _, rfl, Lib.bytesWorld_at_new w 5 s, fun j x hx => ?_⟩⟩ ?_ (Lib.bytesWorld_size w 5 s))
  · have hj : j < s.size := by rw [← len_data]; exact (List.getElem?_eq_some_iff.1 hx).1
    unfold Lib.bytesCells
    rw [Nat.zero_add, Array.getElem?_append_left (by rw [Array.size_map]; exact hj), Array.getElem?_map]
    have : s.data[j]? = some x := by rw [← hx, Array.getElem?_toList]
    rw [this]
    rfl
  · exact ⟨by simp [Lib.bytesWorld, World.freeze]; rfl, by simp [Lib.bytesWorld, World.freeze], by simp [Lib.bytesWorld, World.freeze]; rfl, by rw [Lib.bytesWorld_size]; omega, fun k hk => Lib.bytesWorld_at_old w 5 s k hk⟩
end

def cat (ss : List ByteArray) : List UInt8 := ss.flatMap (·.data.toList)
theorem cat_length (ss : List ByteArray) : (cat ss).length = tot ss := by
  unfold cat tot
  rw [List.length_flatMap]
  congr 1
theorem cat_succ (ss : List ByteArray) {k : Nat} {s : ByteArray} (h : ss[k]? = some s) : cat (ss.take (k + 1)) = cat (ss.take k) ++ s.data.toList := by
  unfold cat
  rw [List.take_add_one, h]
  simp

def kindAt (ks : List Bool) (i : Nat) : Bool := ks.getD i false
/-- does piece i hold its needle? -/
def hit (ss : List ByteArray) (ks : List Bool) (s : ByteArray) (bs : List UInt8) (i : Nat) : Bool :=
  if kindAt ks i then JM.hasSub (ss.getD i ByteArray.empty).data.toList bs else JM.hasSub (ss.getD i ByteArray.empty).data.toList s.data.toList
def hits (ss : List ByteArray) (ks : List Bool) (s : ByteArray) (bs : List UInt8) (k : Nat) : Bool := (List.range k).any (hit ss ks s bs)
theorem hits_succ (ss : List ByteArray) (ks : List Bool) (s : ByteArray) (bs : List UInt8) (k : Nat) : hits ss ks s bs (k + 1) = (hits ss ks s bs k || hit ss ks s bs k) := by
  unfold hits
  rw [List.range_succ, List.any_append]
  simp

structure Built (ss : List ByteArray) (ks : List Bool) (k : Nat) (SS : List (ByteArray × Nat)) (TS : List BItem) : Prop where
  tile : JM.Tile (cat (ss.take k)) (piecesS SS ++ piecesT TS)
  any : ∀ s bs, (anyS SS s || anyT TS bs) = hits ss ks s bs k
  nS : SS.length ≤ k
  nT : TS.length ≤ k
  mS : ∀ p ∈ SS, p.1 ∈ ss
  mT : ∀ t ∈ TS, ∃ s ∈ ss, t.n = s.size

theorem Built.zero (ss : List ByteArray) (ks : List Bool) : Built ss ks 0 [] [] := ⟨JM.Tile.nil, fun _ _ => rfl, Nat.le_refl _, Nat.le_refl _, by simp, by simp⟩
theorem Built.addS {ss : List ByteArray} {ks : List Bool} {k : Nat} {SS : List (ByteArray × Nat)} {TS : List BItem} {s : ByteArray} (h : Built ss ks k SS TS) (hs : ss[k]? = some s) (hk : kindAt ks k = false) :
    Built ss ks (k + 1) (SS ++ [(s, tot (ss.take k))]) TS := by
  have hg : ss.getD k ByteArray.empty = s := by simp [List.getD, hs]
  refine ⟨?_, fun s' bs => ?_, by simp; exact h.nS, by have := h.nT; omega, fun p hp => ?_, h.mT⟩
  · rw [cat_succ ss hs]
    refine h.tile.add fun p => ?_
    rw [cat_length]
    simp [piecesS]
    constructor
    · rintro (h | h | h)
      · exact .inl (.inl h)
      · exact .inr h
      · exact .inl (.inr h)
    · rintro ((h | h) | h)
      · exact .inl h
      · exact .inr (.inr h)
      · exact .inr (.inl h)
  · rw [hits_succ, ← h.any s' bs]
    unfold hit
    rw [hk, hg]
    simp [anyS, List.any_append]
    cases (SS.any fun p => JM.hasSub p.1.data.toList s'.data.toList) <;> cases JM.hasSub s.data.toList s'.data.toList <;> cases anyT TS bs <;> rfl
  · rw [List.mem_append, List.mem_singleton] at hp
    rcases hp with hp | rfl
    · exact h.mS p hp
    · exact List.mem_of_getElem? hs
theorem Built.addT {ss : List ByteArray} {ks : List Bool} {k : Nat} {SS : List (ByteArray × Nat)} {TS : List BItem} {s : ByteArray} {A : Option Addr} {c : Nat} (h : Built ss ks k SS TS) (hs : ss[k]? = some s) (hk : kindAt ks k = true) :
    Built ss ks (k + 1) SS (TS ++ [⟨A, s.size, c, s.data.toList, tot (ss.take k)⟩]) := by
  have hg : ss.getD k ByteArray.empty = s := by simp [List.getD, hs]
  refine ⟨?_, fun s' bs => ?_, by have := h.nS; omega, by simp; exact h.nT, h.mS, fun t ht => ?_⟩
  · rw [cat_succ ss hs]
    refine h.tile.add fun p => ?_
    rw [cat_length]
    simp [piecesT]
    constructor
    · rintro (h | h | h)
      · exact .inl (.inl h)
      · exact .inl (.inr h)
      · exact .inr h
    · rintro ((h | h) | h)
      · exact .inl h
      · exact .inr (.inl h)
      · exact .inr (.inr h)
  · rw [hits_succ, ← h.any s' bs]
    unfold hit
    rw [hk, hg]
    simp [anyT, List.any_append]
    cases (TS.any fun t => JM.hasSub t.zs bs) <;> cases JM.hasSub s.data.toList bs <;> cases anyS SS s' <;> rfl
  · rw [List.mem_append, List.mem_singleton] at ht
    rcases ht with ht | rfl
    · exact h.mT t ht
    · exact ⟨s, List.mem_of_getElem? hs, rfl⟩

theorem tot_le (ss : List ByteArray) {k : Nat} {s : ByteArray} (h : ss[k]? = some s) : tot (ss.take k) + s.size ≤ tot ss := by
  rw [← tot_succ ss h]
  unfold tot
  rw [List.map_take]
  conv => rhs; rw [← List.take_append_drop (k + 1) (ss.map (·.size))]
  rw [List.sum_append]
  omega

theorem JS.low_le {w : World} {B0 J : Nat} {SS : List (ByteArray × Nat)} {TS : List BItem} {len : Nat} (h : JS w B0 J SS TS len) : B0 ≤ w.heap.size := by
  obtain ⟨⟨sv, tv, lb, h1, _, _⟩, h4, _⟩ := h
  exact Nat.le_trans h4 (Nat.le_of_lt h1.lt)

def Joined (w0 : World) (B0 J : Nat) (ss : List ByteArray) (ks : List Bool) (k : Nat) (w : World) : Prop :=
  Below B0 w0 w ∧ ∃ SS TS, JS w B0 J SS TS (tot (ss.take k)) ∧ Built ss ks k SS TS

set_option maxHeartbeats 3200000 in
theorem build_any (J : Nat) (A D : Option Addr) (n c m d : Nat) (ss : List ByteArray) (ks : List Bool) (w : World) {B0 : Nat} (h : JS w B0 J [] [] 0) (hA : RdV w B0 A n (ss.map Value.string)) (hD : RdV w B0 D m (ks.map Value.bool))
    (hn : n ≤ 65536) (ht : tot ss ≤ 65536) :
    Calls Try.prog 12 #[.pointer (some ⟨J, 0, none⟩), .slice A n c, .slice D m d] w fun e w' => e = .returned (.tuple #[]) ∧ Joined w B0 J ss ks n w' := by
  have hlen := hide (show ss.length = n by simpa using hA.1)
  have hkl := hide (show ks.length = m by simpa using hD.1)
  go_enter Try.func12, Try.ntmps12
  go_wp2
  go_loopw [6] (fun i wr => ∃ k : Nat, k ≤ n ∧ i = .int .i64 k ∧ Joined w B0 J ss ks k wr) (fun i _ => n - (intOf i).toNat)
  case atStart => exact ⟨0, by omega, rfl, Below.refl _ _, [], [], h, Built.zero _ _⟩
  case round =>
    obtain ⟨k, hk, rfl, hj⟩ := hrel
    by_cases hlt : k < n
    · obtain ⟨hbw, SS, TS, hjs, hbl⟩ := hj
      obtain ⟨b, off, s, rfl, hb, hs, hc⟩ := (hA.below hbw).str hlt
      have htl := tot_le ss hs
      have hts := hide (tot_succ ss hs)
      have hnS := hbl.nS
      have hnT := hbl.nT
      have hB0 := hjs.low_le
      have hs' := hide hs
      clear hs
      by_cases hkm : k < m
      · obtain ⟨b2, off2, x, rfl, hb2, hx, hc2⟩ := (hD.below hbw).boo hkm
        have hkx : Hid (kindAt ks k = x) := hide (by simp [kindAt, List.getD, hx])
        clear hx
        cases x with
        | true =>
          go_wp2_with (first
            | (with_reducible refine wpList_bytes rfl (.tmp 27) 9 22 rfl s rfl Try.underlying9 Try.underlying22 Try.underlying5 ?_; intro cp w1 hcp hrt hb1 hsz1; have hjs1 := hjs.below hb1)
            | (go_at_call 20; refine (addBytes_any J _ s.size cp s.data.toList _ hjs1 hrt hcp (by omega) (by omega)).mono ?_; rintro e w2 ⟨rfl, hadd⟩))
          go_roundw
          case rel =>
            have q := hadd.1
            rw [← hts.out] at q
            exact ⟨k + 1, by omega, by go_num, (hbw.trans (hb1.mono hB0)).trans hadd.2.1, SS, _, q, hbl.addT hs'.out hkx.out⟩
          case measure => simp [intOf]; omega
        | false =>
          go_wp2_with (go_at_call 21; refine (addString_any J s _ hjs (by omega) (by omega)).mono ?_; rintro e w2 ⟨rfl, hadd⟩)
          go_roundw
          case rel =>
            refine ⟨k + 1, by omega, by go_num, hbw.trans hadd.2.1, _, TS, ?_, hbl.addS hs'.out hkx.out⟩
            rw [hts.out]
            exact hadd.1
          case measure => simp [intOf]; omega
      · have hkx : Hid (kindAt ks k = false) := hide (by
          unfold kindAt
          rw [List.getD_eq_getElem?_getD, List.getElem?_eq_none (by rw [hkl.out]; omega)]
          rfl)
        go_wp2_with (go_at_call 21; refine (addString_any J s _ hjs (by omega) (by omega)).mono ?_; rintro e w2 ⟨rfl, hadd⟩)
        go_roundw
        case rel =>
          refine ⟨k + 1, by omega, by go_num, hbw.trans hadd.2.1, _, TS, ?_, hbl.addS hs'.out hkx.out⟩
          rw [hts.out]
          exact hadd.1
        case measure => simp [intOf]; omega
    · obtain rfl : k = n := by omega
      have hj' := hide hj
      clear hj
      go_wp2
      go_end0
      exact ⟨rfl, hj'.out⟩
end Go.Proofs.Yteimbkhclmghhaa
