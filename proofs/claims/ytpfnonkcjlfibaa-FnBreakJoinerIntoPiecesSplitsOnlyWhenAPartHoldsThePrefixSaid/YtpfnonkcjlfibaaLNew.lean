import Derived.Test.YtpfnonkcjlfibaaJDone
import Derived.Laws.Tables
import Derived.Deep.RegionWith
namespace Go.Proofs.Ytpfnonkcjlfibaa
open Go.RowKit



/-- a linker at block K, all below block B: its prefix p, its numbers of files and of chunks -/
structure Lk (w : World) (B K : Nat) (p : ByteArray) (nf nc : Nat) : Prop where
  blk : ∃ cs a5 a6 a10 c10, Blk w K 141 cs ∧ (cs[10]? = some (.slice a5 nf nf) ∧ cs[17]? = some (.slice a6 nc nc) ∧ cs[20]? = some (.string p) ∧ cs[21]? = some (.slice a10 p.size c10)) ∧ p.size ≤ c10 ∧ Rd w B a10 p.size p.data.toList
  lt : K < B

theorem Lk.below {w w' : World} {B K : Nat} {p : ByteArray} {nf nc : Nat} (h : Lk w B K p nf nc) (hb : Below B w w') : Lk w' B K p nf nc := by
  obtain ⟨⟨cs, a5, a6, a10, c10, h1, h2, h3, h4⟩, h5⟩ := h
  exact ⟨⟨cs, a5, a6, a10, c10, h1.below hb h5, h2, h3, h4.below hb⟩, h5⟩
theorem Lk.more {w : World} {B B' K : Nat} {p : ByteArray} {nf nc : Nat} (h : Lk w B K p nf nc) (hb : B ≤ B') : Lk w B' K p nf nc := by
  obtain ⟨⟨cs, a5, a6, a10, c10, h1, h2, h3, h4⟩, h5⟩ := h
  exact ⟨⟨cs, a5, a6, a10, c10, h1, h2, h3, h4.more hb⟩, by omega⟩

/-- the three structs that ZZnewLinker builds, behind names -/
theorem newFacts : ∃ (X111 : ByteArray → Sem Value) (F111 : ByteArray → Array Value) (X121 : Option Addr → Nat → Nat → Sem Value) (F121 : Option Addr → Nat → Nat → Array Value)
      (X141 : Option Addr → Array Value → Option Addr → Nat → Nat → ByteArray → Option Addr → Nat → Nat → Sem Value) (F141 : Option Addr → Option Addr → Nat → Nat → Option Addr → Nat → Nat → ByteArray → Option Addr → Nat → Nat → Array Value),
    (∀ q, Instr.build 111 #[(25, .string q)] = X111 q) ∧ (∀ q w, (X111 q).run Try.prog w = .ok (.agg (F111 q)) w) ∧
    (∀ a n c, Instr.build 121 #[(0, .slice a n c)] = X121 a n c) ∧ (∀ a n c w, (X121 a n c).run Try.prog w = .ok (.agg (F121 a n c)) w) ∧
    (∀ v0 g a6 n6 c6 p a10 n10 c10, (Instr.build 141 #[(0, .pointer v0), (5, .agg g), (6, .slice a6 n6 c6), (9, .string p), (10, .slice a10 n10 c10)]) = X141 v0 g a6 n6 c6 p a10 n10 c10) ∧
    (∀ v0 a5 n5 c5 a6 n6 c6 p a10 n10 c10 w, (X141 v0 (F121 a5 n5 c5) a6 n6 c6 p a10 n10 c10).run Try.prog w = .ok (.agg (F141 v0 a5 n5 c5 a6 n6 c6 p a10 n10 c10)) w) ∧
    (∀ v0 a5 n5 c5 a6 n6 c6 p a10 n10 c10, (F141 v0 a5 n5 c5 a6 n6 c6 p a10 n10 c10).size = 29 ∧ (F141 v0 a5 n5 c5 a6 n6 c6 p a10 n10 c10)[10]? = some (.slice a5 n5 c5) ∧ (F141 v0 a5 n5 c5 a6 n6 c6 p a10 n10 c10)[17]? = some (.slice a6 n6 c6) ∧ (F141 v0 a5 n5 c5 a6 n6 c6 p a10 n10 c10)[20]? = some (.string p) ∧ (F141 v0 a5 n5 c5 a6 n6 c6 p a10 n10 c10)[21]? = some (.slice a10 n10 c10)) := by
  refine ⟨fun q => Instr.build 111 #[(25, .string q)], fun q => (Try.prog.built 111 [(25, .string q)]).getD #[], fun a n c => Instr.build 121 #[(0, .slice a n c)], fun a n c => (Try.prog.built 121 [(0, .slice a n c)]).getD #[],
    fun v0 g a6 n6 c6 p a10 n10 c10 => Instr.build 141 #[(0, .pointer v0), (5, .agg g), (6, .slice a6 n6 c6), (9, .string p), (10, .slice a10 n10 c10)],
    fun v0 a5 n5 c5 a6 n6 c6 p a10 n10 c10 => (Try.prog.built 141 [(0, .pointer v0), (5, .agg ((Try.prog.built 121 [(0, .slice a5 n5 c5)]).getD #[])), (6, .slice a6 n6 c6), (9, .string p), (10, .slice a10 n10 c10)]).getD #[], fun _ => rfl, ?_, fun _ _ _ => rfl, ?_, fun _ _ _ _ _ _ _ _ _ => rfl, ?_, ?_⟩
  · intro q w
    exact run_build w 111 #[(25, .string q)] _ (by kernel_rfl)
  · intro a n c w
    exact run_build w 121 #[(0, .slice a n c)] _ (by kernel_rfl)
  · intro v0 a5 n5 c5 a6 n6 c6 p a10 n10 c10 w
    exact run_build w 141 _ _ (by kernel_rfl)
  · intro v0 a5 n5 c5 a6 n6 c6 p a10 n10 c10
    refine ⟨by kernel_rfl, by kernel_rfl, by kernel_rfl, by kernel_rfl, by kernel_rfl⟩

theorem mkFacts {P : Program} {t e : TypeId} (ht : P.underlying t = some (.slice e)) (hi : (P.info? e).map (fun i => (i.zero.isSome, Nat.ble i.bytes 65536)) = some (true, true)) (n : Nat) (hn : n ≤ 65536) :
    ∃ zs : Array Value, ∀ w : World, (Instr.makeSlice t (.int .i64 n) (.int .i64 n)).run P w = .ok (.slice (some ⟨w.heap.size, 0, none⟩) n n) (w.alloc (.cells zs e)) := by
  obtain ⟨i0, hi0, hi1⟩ := Option.map_eq_some_iff.1 hi
  obtain ⟨z, hz⟩ := Option.isSome_iff_exists.1 (congrArg Prod.fst hi1)
  have hb : i0.bytes ≤ 65536 := Nat.le_of_ble_eq_true (congrArg Prod.snd hi1)
  refine ⟨madeCells z.cells (n * i0.size), fun w => ?_⟩
  have h2 : i0.bytes * n ≤ 65536 * 65536 := Nat.mul_le_mul hb hn
  have h := run_make (P := P) w t e i0 z ht hi0 hz .i64 .i64 n n (by omega) (by omega) (by rw [← Int.natCast_mul]; omega) (by omega)
  simp only [Int.toNat_natCast] at h
  exact h

/-- '[]byte(p)', behind names -/
theorem convFacts (p : ByteArray) : ∃ (BW : World → World) (GC : World → Nat),
    (∀ w : World, (convert 9 42 (.string p)).run Try.prog w = .ok (.slice (some ⟨w.heap.size, 0, none⟩) p.size (GC w)) (BW w)) ∧ (∀ w, (BW w).heap.size = w.heap.size + 1) ∧
    (∀ w, Below w.heap.size w (BW w) ∧ RdT (BW w) (some ⟨w.heap.size, 0, none⟩) p.size p.data.toList ∧ p.size ≤ GC w) := by
  refine ⟨fun w => Lib.bytesWorld w 5 p, fun w => grownCap w p.size 0 5, fun w => Lib.run_convert_string_bytes w 9 42 5 p Try.underlying9 Try.underlying42 Try.underlying5, fun w => Lib.bytesWorld_size w 5 p, fun w => ⟨?_, ⟨len_data p, fun _ => ⟨w.heap.size, 0, _, _, rfl, Lib.bytesWorld_at_new w 5 p, fun j x hx => ?_⟩⟩, grownCap_ge w p.size 0 5⟩⟩
  · exact ⟨by simp [Lib.bytesWorld, World.freeze]; rfl, by simp [Lib.bytesWorld, World.freeze], by simp [Lib.bytesWorld, World.freeze]; rfl, by rw [Lib.bytesWorld_size]; omega, fun k hk => Lib.bytesWorld_at_old w 5 p k hk⟩
  · have hj : j < p.size := by rw [← len_data]; exact (List.getElem?_eq_some_iff.1 hx).1
    unfold Lib.bytesCells
    rw [Nat.zero_add, Array.getElem?_append_left (by rw [Array.size_map]; exact hj), Array.getElem?_map]
    have : p.data[j]? = some x := by rw [← hx, Array.getElem?_toList]
    rw [this]
    rfl

/-- the linker that is boxed last -/
theorem lkNew {w0 w1 w2 : World} {BW : World → World} {GC : World → Nat} {p : ByteArray} {nf nc : Nat} {a5 a6 : Option Addr} {cs : Array Value} {g : Nat}
    (h : cs.size = 29 ∧ cs[10]? = some (.slice a5 nf nf) ∧ cs[17]? = some (.slice a6 nc nc) ∧ cs[20]? = some (.string p) ∧ cs[21]? = some (.slice (some ⟨g, 0, none⟩) p.size (GC w1)))
    (hbw : ∀ w, Below w.heap.size w (BW w) ∧ RdT (BW w) (some ⟨w.heap.size, 0, none⟩) p.size p.data.toList ∧ p.size ≤ GC w)
    (h1 : Below (BW w1).heap.size (BW w1) w2) (h0 : Below w0.heap.size w0 w2) {K : Nat} (hK : K = w2.heap.size) (hg : g = w1.heap.size) :
    Lk (w2.alloc (.cells cs 141)) (w2.alloc (.cells cs 141)).heap.size K p nf nc ∧ Below w0.heap.size w0 (w2.alloc (.cells cs 141)) := by
  subst hK hg
  have hs := h1.size
  have hr2 : Rd w2 w2.heap.size _ _ _ := ((hbw w1).2.1.rd.below h1).more hs
  refine ⟨⟨⟨cs, a5, a6, _, _, Blk.new _ _ _, h.2, (hbw w1).2.2, (hr2.alloc (Nat.le_refl _) _).more (by simp)⟩, by simp⟩, h0.alloc h0.size _⟩

attribute [local irreducible] Instr.build Instr.makeSlice convert

theorem newLinker_any (p q : ByteArray) (nf nc : Nat) (w : World) (hnf : nf ≤ 65536) (hnc : nc ≤ 65536) :
    Calls Try.prog 10 #[.string p, .string q, .int .i64 nf, .int .i64 nc] w fun e w' => ∃ K, e = .returned (.pointer (some ⟨K, 0, none⟩)) ∧ Lk w' w'.heap.size K p nf nc ∧ Below w.heap.size w w' := by
  obtain ⟨X111, F111, X121, F121, X141, F141, h1, h2, h3, h4, h5, h6, h7⟩ := newFacts
  obtain ⟨z112, hz112⟩ := mkFacts (P := Try.prog) Try.underlying112 (by kernel_rfl) nf hnf
  obtain ⟨z122, hz122⟩ := mkFacts (P := Try.prog) Try.underlying122 (by kernel_rfl) nc hnc
  obtain ⟨BW, GC, hcv, hsz, hbw⟩ := convFacts p
  replace h7 := hide h7
  replace hbw := hide hbw
  go_enter Try.func10, Try.ntmps10
  go_wp2
  go_region
  all_goals
    go_wp2
    go_ret
    refine ⟨_, rfl, lkNew (h7.out _ _ _ _ _ _ _ _ _ _ _) hbw.out ?_ ?_ ?_ ?_⟩
    all_goals first
      | (simp [hsz]; done)
      | (repeat' first
          | exact Below.refl _ _
          | refine Below.drew ?_
          | refine Below.alloc ?_ (by simp [hsz] <;> omega) _
          | refine Below.trans ?_ ((hbw.out _).1.mono (by simp <;> omega)))
end Go.Proofs.Ytpfnonkcjlfibaa
