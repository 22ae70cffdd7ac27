/-
  The walk of breakOutputIntoPieces. Conditions: sizes below 4294967296, at most 65536 files and chunks.
-/
import Derived.Test.YtpfnonkcjlfibaaLIdx
import Derived.Test.YtpfnonkcjlfibaaLNew
namespace Go.Proofs.Ytpfnonkcjlfibaa
open Go.RowKit

/-- a piece in memory -/
structure Piece where
  A : Option Addr
  n : Nat
  c : Nat
  zs : List UInt8
  idx : Nat
  kind : Nat

def pCells (ps : List Piece) : List Value := ps.flatMap fun p => [.slice p.A p.n p.c, .int .u32 (p.idx : Int), .int .u8 (p.kind : Int)]
theorem pCells_add (ps : List Piece) (p : Piece) : pCells (ps ++ [p]) = pCells ps ++ [.slice p.A p.n p.c, .int .u32 (p.idx : Int), .int .u8 (p.kind : Int)] := by simp [pCells]
def pks (ps : List Piece) : List LM.PK := ps.map fun p => (p.zs, p.idx, p.kind)
theorem E28 : ElemT Try.prog 28 146 (.agg #[.slice none 0 0, .int .u32 0, .int .u8 0]) 3 32 := ⟨Try.underlying28, by kernel_rfl, rfl, by decide⟩

/-- what the parse of a boundary leaves -/
def Parsed (pre zs : List UInt8) (nf nc : Nat) (r : Int) (kd idx : Nat) : Prop :=
  kd ≤ 2 ∧ ((r = -1 ∧ LM.NoKey pre nf nc zs) ∨ (∃ b : Nat, r = b ∧ LM.First pre zs b ∧ b + pre.length + 9 ≤ zs.length ∧ kd = LM.letter (zs.drop (b + pre.length))[0]? ∧ LM.dig (LM.eight (zs.drop (b + pre.length))) = true ∧ idx = LM.num (LM.eight (zs.drop (b + pre.length)))))
/-- what the validation leaves -/
def Judged (pre zs : List UInt8) (nf nc : Nat) (r : Int) (kd idx : Nat) : Prop :=
  (r = -1 ∧ LM.NoKey pre nf nc zs) ∨ (∃ b : Nat, r = b ∧ LM.First pre zs b ∧ LM.keyB nf nc (zs.drop (b + pre.length)) = true ∧ kd = LM.letter (zs.drop (b + pre.length))[0]? ∧ idx = LM.num (LM.eight (zs.drop (b + pre.length))))

theorem nokey_of {pre zs : List UInt8} {nf nc b : Nat} (hf : LM.First pre zs b) (hk : LM.keyB nf nc (zs.drop (b + pre.length)) = false) : LM.NoKey pre nf nc zs := fun b' hb' => by
  rw [hb'.one hf]
  exact hk
theorem keyB_short {nf nc : Nat} {t : List UInt8} (h : t.length < 9) : LM.keyB nf nc t = false := by
  unfold LM.keyB
  have : ¬ 9 ≤ t.length := by omega
  simp [this]
theorem keyB_nodig {nf nc : Nat} {t : List UInt8} (h : LM.dig (LM.eight t) = false) : LM.keyB nf nc t = false := by
  unfold LM.keyB
  simp [h]
theorem keyB_is {nf nc : Nat} {t : List UInt8} (h9 : 9 ≤ t.length) (hd : LM.dig (LM.eight t) = true) {kd idx : Nat} (hk : kd = LM.letter t[0]?) (hi : idx = LM.num (LM.eight t)) :
    LM.keyB nf nc t = (decide (kd = 1 ∧ idx < nf) || decide (kd = 2 ∧ idx < nc)) := by
  subst hk hi
  unfold LM.keyB
  simp only [h9, hd, decide_true, Bool.true_and]

theorem dig_take_false {ds : List UInt8} {k : Nat} {x : UInt8} (hx : ds[k]? = some x) (h : LM.isDig x = false) : LM.dig ds = false := by
  unfold LM.dig
  rw [List.all_eq_false]
  exact ⟨x, List.mem_of_getElem? hx, by simp [h]⟩
theorem take_next {ds : List UInt8} {k : Nat} {x : UInt8} (hx : ds[k]? = some x) : LM.num (ds.take (k + 1)) = LM.num (ds.take k) * 10 + (x.toNat - 48) ∧ LM.dig (ds.take (k + 1)) = (LM.dig (ds.take k) && LM.isDig x) := by
  have : ds.take (k + 1) = ds.take k ++ [x] := by rw [List.take_add_one, hx]; rfl
  rw [this]
  exact ⟨LM.num_add _ _, LM.dig_add _ _⟩
theorem eight_at {t : List UInt8} {k : Nat} (hk : k < 8) : (LM.eight t)[k]? = t[k + 1]? := by
  unfold LM.eight
  rw [List.getElem?_take, if_pos hk, List.getElem?_drop, Nat.add_comm]
theorem eight_length {t : List UInt8} (h : 9 ≤ t.length) : (LM.eight t).length = 8 := by simp [LM.eight]; omega

theorem out_cells {w : World} {g : Nat} {v : Value} (h : Blk w g 35 #[v, .slice none 0 0, .slice none 0 0, .int .u32 0, .int .u8 0]) :
    (w.cell? ⟨g, 0, none⟩ = some v ∧ w.cell? ⟨g, 1, none⟩ = some (.slice none 0 0) ∧ w.cell? ⟨g, 2, none⟩ = some (.slice none 0 0) ∧ w.cell? ⟨g, 3, none⟩ = some (.int .u32 0) ∧ w.cell? ⟨g, 4, none⟩ = some (.int .u8 0)) ∧
    (w.frozen? ⟨g, 0, none⟩ = false ∧ w.frozen? ⟨g, 1, none⟩ = false ∧ w.frozen? ⟨g, 2, none⟩ = false ∧ w.frozen? ⟨g, 3, none⟩ = false ∧ w.frozen? ⟨g, 4, none⟩ = false) :=
  ⟨⟨h.cell 0, h.cell 1, h.cell 2, h.cell 3, h.cell 4⟩, h.frozen 0, h.frozen 1, h.frozen 2, h.frozen 3, h.frozen 4⟩

theorem Blk.put_eq {w : World} {g : Nat} {t : TypeId} {cs cs' : Array Value} (h : Blk w g t cs) (i : Nat) (u : Value) (e : cs.setIfInBounds i u = cs') : Blk (w.setCell ⟨g, i, none⟩ u) g t cs' := by
  subst e
  exact h.put i u

theorem grown_same (w : World) (r : Option Nat) : w.grownBy w r := ⟨rfl, rfl, rfl, Nat.le_refl _, fun _ _ _ => rfl⟩
theorem grown_put {a w : World} {g : Nat} (h : a.grownBy w (some g)) (i : Nat) (u : Value) : a.grownBy (w.setCell ⟨g, i, none⟩ u) (some g) :=
  ⟨h.os, h.tape, h.output, by simp only [World.setCell, Array.size_modify]; exact h.size, fun k hk hr => (Below.heap_setCell _ _ _ _ (fun e => hr (by rw [e]))).trans (h.block k hk hr)⟩

/-- the result's five cells are laid -/
theorem out_laid {w w' : World} {B g : Nat} {cs0 cs1 cs2 cs3 cs4 : Value} {V : Value} (h : Blk w' g 35 #[cs0, cs1, cs2, cs3, cs4]) (hb : Below B w w') (hg : B ≤ g) {w3 : World}
    (he : (((((w'.setCell ⟨g, 0, none⟩ V).setCell ⟨g, 1, none⟩ (.slice none 0 0)).setCell ⟨g, 2, none⟩ (.slice none 0 0)).setCell ⟨g, 3, none⟩ (.int .u32 0)).setCell ⟨g, 4, none⟩ (.int .u8 0)) = w3) :
    Blk w3 g 35 #[V, .slice none 0 0, .slice none 0 0, .int .u32 0, .int .u8 0] ∧ Below B w w3 ∧ w'.grownBy w3 (some g) := by
  subst he
  have h1 := Blk.put_eq h 0 V (cs' := #[V, cs1, cs2, cs3, cs4]) rfl
  have h2 := Blk.put_eq h1 1 (.slice none 0 0) (cs' := #[V, .slice none 0 0, cs2, cs3, cs4]) rfl
  have h3 := Blk.put_eq h2 2 (.slice none 0 0) (cs' := #[V, .slice none 0 0, .slice none 0 0, cs3, cs4]) rfl
  have h4 := Blk.put_eq h3 3 (.int .u32 0) (cs' := #[V, .slice none 0 0, .slice none 0 0, .int .u32 0, cs4]) rfl
  have h5 := Blk.put_eq h4 4 (.int .u8 0) (cs' := #[V, .slice none 0 0, .slice none 0 0, .int .u32 0, .int .u8 0]) rfl
  refine ⟨h5, ((((hb.setCell hg _).setCell hg _).setCell hg _).setCell hg _).setCell hg _, ?_⟩
  exact grown_put (grown_put (grown_put (grown_put (grown_put (grown_same _ _) 0 _) 1 _) 2 _) 3 _) 4 _

theorem own_less {w : World} {base base' : Nat} {e : TypeId} {size n : Nat} {v : Value} {xs : List Value} (h : w.ownsRow base e size v n xs) (hb : base' ≤ base) : w.ownsRow base' e size v n xs := by
  refine ⟨h.1, ?_⟩
  rcases h.2 with h | ⟨g, cap, cur, hv, hg, r⟩
  · exact .inl h
  · exact .inr ⟨g, cap, cur, hv, by omega, r⟩

theorem judge_ok {pre zs : List UInt8} {nf nc : Nat} {r : Int} {kd idx : Nat} (h : Parsed pre zs nf nc r kd idx) (hk : (kd = 1 ∧ idx < nf) ∨ (kd = 2 ∧ idx < nc)) : Judged pre zs nf nc r kd idx := by
  rcases h.2 with h | ⟨b, e, hf, h9, h1, h2, h3⟩
  · exact .inl h
  · refine .inr ⟨b, e, hf, ?_, h1, h3⟩
    rw [keyB_is (by rw [List.length_drop]; omega) h2 h1 h3]
    simpa using hk
theorem judge_no {pre zs : List UInt8} {nf nc : Nat} {r : Int} {kd idx : Nat} (h : Parsed pre zs nf nc r kd idx) (hk : ¬ ((kd = 1 ∧ idx < nf) ∨ (kd = 2 ∧ idx < nc))) : Judged pre zs nf nc (-1) kd idx := by
  refine .inl ⟨rfl, ?_⟩
  rcases h.2 with h | ⟨b, e, hf, h9, h1, h2, h3⟩
  · exact h.2
  · refine nokey_of hf ?_
    rw [keyB_is (by rw [List.length_drop]; omega) h2 h1 h3]
    have ha : ¬ (kd = 1 ∧ idx < nf) := fun h => hk (.inl h)
    have hb : ¬ (kd = 2 ∧ idx < nc) := fun h => hk (.inr h)
    simp [ha, hb]

/-- what breakOutputIntoPieces leaves -/
def Broken (w : World) (B : Nat) (pre : List UInt8) (nf nc : Nat) (zs : List UInt8) (e : Ending) (w' : World) : Prop :=
  ∃ (v : Value) (ps : List Piece), e = .returned (.agg #[v, .slice none 0 0, .slice none 0 0, .int .u32 0, .int .u8 0]) ∧ w'.ownsRow w.heap.size 146 3 v ps.length (pCells ps) ∧
    (∀ q ∈ ps, Rd w' B q.A q.n q.zs ∧ q.n ≤ q.c) ∧ ps.length ≤ zs.length + 1 ∧ LM.Brk pre nf nc zs (pks ps) ∧ Below w.heap.size w w'

set_option maxHeartbeats 1600000 in
set_option maxRecDepth 100000 in
theorem break_any (K : Nat) (A : Option Addr) (n c : Nat) (zs : List UInt8) (p : ByteArray) (nf nc : Nat) (w : World) (hL : Lk w w.heap.size K p nf nc) {B : Nat} (hB : B ≤ w.heap.size) (hr : Rd w B A n zs) (hc : n ≤ c) (hn : n ≤ 16777216) (hp : p.size ≤ 16777216) (hnf : nf ≤ 65536) (hnc : nc ≤ 65536) :
    Calls Try.prog 35 #[.pointer (some ⟨K, 0, none⟩), .slice A n c] w (Broken w B p.data.toList nf nc zs) := by
  obtain ⟨⟨cs, a5, a6, a10, c10, hk, ⟨k10, k17, k20, k21⟩, hpc, hpr⟩, hK⟩ := hL
  have x10 := (hk.cell 10).trans k10
  have x17 := (hk.cell 17).trans k17
  have x21 := (hk.cell 21).trans k21
  go_enter Try.func35, Try.ntmps35
  go_wp2
  have hw1 := Blk.new w 35 #[.slice none 0 0, .slice none 0 0, .slice none 0 0, .int .u32 0, .int .u8 0]
  have hb1 : Below w.heap.size w (w.alloc (.cells #[.slice none 0 0, .slice none 0 0, .slice none 0 0, .int .u32 0, .int .u8 0] 35)) := (Below.refl _ _).alloc (Nat.le_refl _) _
  have hs1 : (w.alloc (.cells #[.slice none 0 0, .slice none 0 0, .slice none 0 0, .int .u32 0, .int .u8 0] 35)).heap.size = w.heap.size + 1 := by simp
  generalize hw1e : w.alloc (.cells #[.slice none 0 0, .slice none 0 0, .slice none 0 0, .int .u32 0, .int .u8 0] 35) = w1 at *
  go_loopw [1, 5] (fun o v wr => ∃ (A' : Option Addr) (n' c' : Nat) (zs' : List UInt8) (ps : List Piece), o = .slice A' n' c' ∧ n' ≤ c' ∧ n' ≤ n ∧ Rd wr B A' n' zs' ∧
      wr.ownsRow (w.heap.size + 1) 146 3 v ps.length (pCells ps) ∧ (∀ q ∈ ps, Rd wr B q.A q.n q.zs ∧ q.n ≤ q.c) ∧ Below (w.heap.size + 1) w1 wr ∧ ps.length + n' ≤ n ∧
      Hid (∀ qs, LM.Brk p.data.toList nf nc zs' qs → LM.Brk p.data.toList nf nc zs (pks ps ++ qs)))
    (fun o _ _ => match o with | .slice _ k _ => k | _ => 0)
  case atStart => exact ⟨A, n, c, zs, [], rfl, hc, Nat.le_refl _, hr.below (hb1.mono hB), World.ownsRow_nil _ _ _ _, by simp, Below.refl _ _, by simp, hide (fun _ h => h)⟩
  case round =>
    obtain ⟨A', n', c', zs', ps, rfl, hc', hnn, hr', hown, hit, hb, hsz, hcont⟩ := hrel
    have hbs := hb.size
    have hpr' : Rd wr wr.heap.size a10 p.size p.data.toList := ((hpr.below hb1).below (hb.mono (by omega))).more (by omega)
    have y10 := (hb.cell (p := ⟨K, 10, none⟩) (Nat.lt_succ_of_lt hK)).trans ((hb1.cell hK).trans x10)
    have y17 := (hb.cell (p := ⟨K, 17, none⟩) (Nat.lt_succ_of_lt hK)).trans ((hb1.cell hK).trans x17)
    go_upto_if 21 with (first | (go_at_call 37; refine (indexBytes_any _ _ _ _ _ _ zs' p.data.toList _ (hr'.more (by omega)) hc' hpr' (by omega) (by omega)).mono ?_; rintro e w' ⟨r, q, rfl, hF, rfl⟩))
    go_cut [7, 8, 9] (fun s7 s8 s9 wx => ∃ (r' : Int) (kd idx : Nat), s7 = .int .i64 r' ∧ s8 = .int .u8 kd ∧ s9 = .int .u32 idx ∧ Hid (Parsed p.data.toList zs' nf nc r' kd idx) ∧ wr.drewN q = wx)
    case first =>
      rcases hF with ⟨b, rfl, hf⟩ | ⟨rfl, hno⟩
      · have hf' := hide hf
        have hfl := hf.1
        rw [len_data, hr'.len] at hfl
        clear hf
        by_cases h9 : b + p.size + 9 ≤ n'
        · obtain ⟨ba, off, x, rfl, hbl, hx, hcx⟩ := hr'.at (show b + p.size < n' by omega)
          have hx' := hide hx
          clear hx
          by_cases e1 : x.toNat = 65
          · have e3 : LM.letter (some x) = 1 := by rw [UInt8.toNat_inj.1 (show x.toNat = (65 : UInt8).toNat from e1)]; rfl
            have b1 : ((x.toNat : Int) == 65) = true := by simp; omega
            clear e1
            go_wp2
            go_loop [7, 9, 11] (fun s7 s9 s11 => ∃ k : Nat, k ≤ 8 ∧ s7 = .int .i64 b ∧ s9 = .int .u32 (LM.num ((LM.eight (zs'.drop (b + p.size))).take k) : Nat) ∧ s11 = .int .i64 (k + 1 : Nat) ∧ Hid (LM.dig ((LM.eight (zs'.drop (b + p.size))).take k) = true)) (fun _ _ i => 9 - (intOf i).toNat)
            case atStart => exact ⟨0, by omega, rfl, rfl, rfl, hide rfl⟩
            case round =>
              obtain ⟨k, hk8, rfl, rfl, rfl, hdg⟩ := hrel
              by_cases hlt : k < 8
              · obtain ⟨b0, o0, y, he0, _, hy, hcy⟩ := hr'.at (show b + p.size + (k + 1) < n' by omega)
                cases he0
                have hy8 : (LM.eight (zs'.drop (b + p.size)))[k]? = some y := by rw [eight_at hlt, List.getElem?_drop]; exact hy
                have hvl := LM.num_lt k _ (by rw [List.length_take, eight_length (by rw [List.length_drop, hr'.len]; omega)]; omega) hdg.out
                have hvl8 : LM.num ((LM.eight (zs'.drop (b + p.size))).take k) < 10000000 := Nat.lt_of_lt_of_le hvl (Nat.pow_le_pow_right (by decide) (show k ≤ 7 by omega))
                obtain ⟨hn1, hd1⟩ := take_next hy8
                have HN := hide hn1
                have HD := hide hd1
                have HY := hide hy8
                have ek : ((b : Int) + p.size + ((k : Int) + 1)).toNat = b + p.size + (k + 1) := by omega
                clear hn1 hd1 hy8 hy hvl
                by_cases hdig : 48 ≤ y.toNat ∧ y.toNat ≤ 57
                · obtain ⟨hd48, hd57⟩ := hdig
                  generalize LM.num ((LM.eight (zs'.drop (b + p.size))).take k) = v at *
                  go_wp2
                  go_round
                  case rel =>
                    refine ⟨_, _, _, ⟨k + 1, by omega, rfl, ?_, rfl, hide ?_⟩, rfl, rfl, rfl⟩
                    · rw [HN.out]; go_num
                    · rw [HD.out, hdg.out, LM.isDig_iff.2 ⟨hd48, hd57⟩]; rfl
                  case measure => simp [intOf]; omega
                · have hnd : LM.isDig y = false := by
                    cases hq : LM.isDig y with
                    | false => rfl
                    | true => exact absurd (LM.isDig_iff.1 hq) hdig
                  have HX := hide (nokey_of (nf := nf) (nc := nc) hf'.out (keyB_nodig (dig_take_false (by rw [len_data]; exact HY.out) hnd)))
                  by_cases hd48 : y.toNat < 48
                  · go_wp2
                    go_meet
                    exact ⟨-1, 1, _, rfl, rfl, rfl, hide ⟨by omega, .inl ⟨rfl, HX.out⟩⟩, rfl⟩
                  · have hd57 : 57 < y.toNat := by omega
                    go_wp2
                    go_meet
                    exact ⟨-1, 1, _, rfl, rfl, rfl, hide ⟨by omega, .inl ⟨rfl, HX.out⟩⟩, rfl⟩
              · obtain rfl : k = 8 := by omega
                have h8l : (LM.eight (zs'.drop (b + p.size))).take 8 = LM.eight (zs'.drop (b + p.size)) := List.take_of_length_le (by rw [eight_length (by rw [List.length_drop, hr'.len]; omega)]; omega)
                rw [h8l] at hdg ⊢
                have hzl := hide hr'.len
                have hkd := hide (show 1 = LM.letter (zs'.drop (b + p.size))[0]? by rw [List.getElem?_drop, Nat.add_zero, hx'.out]; exact e3.symm)
                go_wp2
                go_meet
                exact ⟨b, 1, _, rfl, rfl, rfl, hide ⟨by omega, .inr ⟨b, rfl, hf'.out, by rw [hzl.out, len_data]; omega, by rw [len_data]; exact hkd.out, by rw [len_data]; exact hdg.out, by rw [len_data]⟩⟩, rfl⟩
          · by_cases e2 : x.toNat = 67
            · have e3 : LM.letter (some x) = 2 := by rw [UInt8.toNat_inj.1 (show x.toNat = (67 : UInt8).toNat from e2)]; rfl
              have b1 : ((x.toNat : Int) == 65) = false := by simp; omega
              have b2 : ((x.toNat : Int) == 67) = true := by simp; omega
              clear e1 e2
              go_wp2
              go_loop [7, 9, 11] (fun s7 s9 s11 => ∃ k : Nat, k ≤ 8 ∧ s7 = .int .i64 b ∧ s9 = .int .u32 (LM.num ((LM.eight (zs'.drop (b + p.size))).take k) : Nat) ∧ s11 = .int .i64 (k + 1 : Nat) ∧ Hid (LM.dig ((LM.eight (zs'.drop (b + p.size))).take k) = true)) (fun _ _ i => 9 - (intOf i).toNat)
              case atStart => exact ⟨0, by omega, rfl, rfl, rfl, hide rfl⟩
              case round =>
                obtain ⟨k, hk8, rfl, rfl, rfl, hdg⟩ := hrel
                by_cases hlt : k < 8
                · obtain ⟨b0, o0, y, he0, _, hy, hcy⟩ := hr'.at (show b + p.size + (k + 1) < n' by omega)
                  cases he0
                  have hy8 : (LM.eight (zs'.drop (b + p.size)))[k]? = some y := by rw [eight_at hlt, List.getElem?_drop]; exact hy
                  have hvl := LM.num_lt k _ (by rw [List.length_take, eight_length (by rw [List.length_drop, hr'.len]; omega)]; omega) hdg.out
                  have hvl8 : LM.num ((LM.eight (zs'.drop (b + p.size))).take k) < 10000000 := Nat.lt_of_lt_of_le hvl (Nat.pow_le_pow_right (by decide) (show k ≤ 7 by omega))
                  obtain ⟨hn1, hd1⟩ := take_next hy8
                  have HN := hide hn1
                  have HD := hide hd1
                  have HY := hide hy8
                  have ek : ((b : Int) + p.size + ((k : Int) + 1)).toNat = b + p.size + (k + 1) := by omega
                  clear hn1 hd1 hy8 hy hvl
                  by_cases hdig : 48 ≤ y.toNat ∧ y.toNat ≤ 57
                  · obtain ⟨hd48, hd57⟩ := hdig
                    generalize LM.num ((LM.eight (zs'.drop (b + p.size))).take k) = v at *
                    go_wp2
                    go_round
                    case rel =>
                      refine ⟨_, _, _, ⟨k + 1, by omega, rfl, ?_, rfl, hide ?_⟩, rfl, rfl, rfl⟩
                      · rw [HN.out]; go_num
                      · rw [HD.out, hdg.out, LM.isDig_iff.2 ⟨hd48, hd57⟩]; rfl
                    case measure => simp [intOf]; omega
                  · have hnd : LM.isDig y = false := by
                      cases hq : LM.isDig y with
                      | false => rfl
                      | true => exact absurd (LM.isDig_iff.1 hq) hdig
                    have HX := hide (nokey_of (nf := nf) (nc := nc) hf'.out (keyB_nodig (dig_take_false (by rw [len_data]; exact HY.out) hnd)))
                    by_cases hd48 : y.toNat < 48
                    · go_wp2
                      go_meet
                      exact ⟨-1, 2, _, rfl, rfl, rfl, hide ⟨by omega, .inl ⟨rfl, HX.out⟩⟩, rfl⟩
                    · have hd57 : 57 < y.toNat := by omega
                      go_wp2
                      go_meet
                      exact ⟨-1, 2, _, rfl, rfl, rfl, hide ⟨by omega, .inl ⟨rfl, HX.out⟩⟩, rfl⟩
                · obtain rfl : k = 8 := by omega
                  have h8l : (LM.eight (zs'.drop (b + p.size))).take 8 = LM.eight (zs'.drop (b + p.size)) := List.take_of_length_le (by rw [eight_length (by rw [List.length_drop, hr'.len]; omega)]; omega)
                  rw [h8l] at hdg ⊢
                  have hzl := hide hr'.len
                  have hkd := hide (show 2 = LM.letter (zs'.drop (b + p.size))[0]? by rw [List.getElem?_drop, Nat.add_zero, hx'.out]; exact e3.symm)
                  go_wp2
                  go_meet
                  exact ⟨b, 2, _, rfl, rfl, rfl, hide ⟨by omega, .inr ⟨b, rfl, hf'.out, by rw [hzl.out, len_data]; omega, by rw [len_data]; exact hkd.out, by rw [len_data]; exact hdg.out, by rw [len_data]⟩⟩, rfl⟩
            · have b1 : ((x.toNat : Int) == 65) = false := by simp; omega
              have b2 : ((x.toNat : Int) == 67) = false := by simp; omega
              have e3 : LM.letter (some x) = 0 := by
                unfold LM.letter
                rw [if_neg (fun e => e1 (by rw [Option.some.inj e]; rfl)), if_neg (fun e => e2 (by rw [Option.some.inj e]; rfl))]
              clear e1 e2
              go_wp2
              go_loop [7, 9, 11] (fun s7 s9 s11 => ∃ k : Nat, k ≤ 8 ∧ s7 = .int .i64 b ∧ s9 = .int .u32 (LM.num ((LM.eight (zs'.drop (b + p.size))).take k) : Nat) ∧ s11 = .int .i64 (k + 1 : Nat) ∧ Hid (LM.dig ((LM.eight (zs'.drop (b + p.size))).take k) = true)) (fun _ _ i => 9 - (intOf i).toNat)
              case atStart => exact ⟨0, by omega, rfl, rfl, rfl, hide rfl⟩
              case round =>
                obtain ⟨k, hk8, rfl, rfl, rfl, hdg⟩ := hrel
                by_cases hlt : k < 8
                · obtain ⟨b0, o0, y, he0, _, hy, hcy⟩ := hr'.at (show b + p.size + (k + 1) < n' by omega)
                  cases he0
                  have hy8 : (LM.eight (zs'.drop (b + p.size)))[k]? = some y := by rw [eight_at hlt, List.getElem?_drop]; exact hy
                  have hvl := LM.num_lt k _ (by rw [List.length_take, eight_length (by rw [List.length_drop, hr'.len]; omega)]; omega) hdg.out
                  have hvl8 : LM.num ((LM.eight (zs'.drop (b + p.size))).take k) < 10000000 := Nat.lt_of_lt_of_le hvl (Nat.pow_le_pow_right (by decide) (show k ≤ 7 by omega))
                  obtain ⟨hn1, hd1⟩ := take_next hy8
                  have HN := hide hn1
                  have HD := hide hd1
                  have HY := hide hy8
                  have ek : ((b : Int) + p.size + ((k : Int) + 1)).toNat = b + p.size + (k + 1) := by omega
                  clear hn1 hd1 hy8 hy hvl
                  by_cases hdig : 48 ≤ y.toNat ∧ y.toNat ≤ 57
                  · obtain ⟨hd48, hd57⟩ := hdig
                    generalize LM.num ((LM.eight (zs'.drop (b + p.size))).take k) = v at *
                    go_wp2
                    go_round
                    case rel =>
                      refine ⟨_, _, _, ⟨k + 1, by omega, rfl, ?_, rfl, hide ?_⟩, rfl, rfl, rfl⟩
                      · rw [HN.out]; go_num
                      · rw [HD.out, hdg.out, LM.isDig_iff.2 ⟨hd48, hd57⟩]; rfl
                    case measure => simp [intOf]; omega
                  · have hnd : LM.isDig y = false := by
                      cases hq : LM.isDig y with
                      | false => rfl
                      | true => exact absurd (LM.isDig_iff.1 hq) hdig
                    have HX := hide (nokey_of (nf := nf) (nc := nc) hf'.out (keyB_nodig (dig_take_false (by rw [len_data]; exact HY.out) hnd)))
                    by_cases hd48 : y.toNat < 48
                    · go_wp2
                      go_meet
                      exact ⟨-1, 0, _, rfl, rfl, rfl, hide ⟨by omega, .inl ⟨rfl, HX.out⟩⟩, rfl⟩
                    · have hd57 : 57 < y.toNat := by omega
                      go_wp2
                      go_meet
                      exact ⟨-1, 0, _, rfl, rfl, rfl, hide ⟨by omega, .inl ⟨rfl, HX.out⟩⟩, rfl⟩
                · obtain rfl : k = 8 := by omega
                  have h8l : (LM.eight (zs'.drop (b + p.size))).take 8 = LM.eight (zs'.drop (b + p.size)) := List.take_of_length_le (by rw [eight_length (by rw [List.length_drop, hr'.len]; omega)]; omega)
                  rw [h8l] at hdg ⊢
                  have hzl := hide hr'.len
                  have hkd := hide (show 0 = LM.letter (zs'.drop (b + p.size))[0]? by rw [List.getElem?_drop, Nat.add_zero, hx'.out]; exact e3.symm)
                  go_wp2
                  go_meet
                  exact ⟨b, 0, _, rfl, rfl, rfl, hide ⟨by omega, .inr ⟨b, rfl, hf'.out, by rw [hzl.out, len_data]; omega, by rw [len_data]; exact hkd.out, by rw [len_data]; exact hdg.out, by rw [len_data]⟩⟩, rfl⟩
        · go_wp2
          go_meet
          refine ⟨-1, 0, 0, rfl, rfl, rfl, hide ⟨by omega, .inl ⟨rfl, nokey_of hf'.out (keyB_short ?_)⟩⟩, rfl⟩
          rw [List.length_drop, hr'.len, len_data]
          omega
      · go_wp2
        go_meet
        exact ⟨-1, 0, 0, rfl, rfl, rfl, hide ⟨by omega, .inl ⟨rfl, fun b hb => absurd hb (hno b)⟩⟩, rfl⟩
    case rest =>
      obtain ⟨r', kd, idx, rfl, rfl, rfl, hP, rfl⟩ := hcut
      clear hF
      go_step
      go_step
      go_cut [7] (fun s7 wx => ∃ r2 : Int, s7 = .int .i64 r2 ∧ Hid (Judged p.data.toList zs' nf nc r2 kd idx) ∧ wr.drewN q = wx)
      case first =>
        obtain rfl | rfl | rfl : kd = 0 ∨ kd = 1 ∨ kd = 2 := by have := hP.out.1; omega
        · go_wp2
          go_meet
          exact ⟨-1, rfl, hide (judge_no hP.out (by omega)), rfl⟩
        · by_cases hlt : idx < nf
          · go_wp2
            go_meet
            exact ⟨r', rfl, hide (judge_ok hP.out (by omega)), rfl⟩
          · go_wp2
            go_meet
            exact ⟨-1, rfl, hide (judge_no hP.out (by omega)), rfl⟩
        · by_cases hlt : idx < nc
          · go_wp2
            go_meet
            exact ⟨r', rfl, hide (judge_ok hP.out (by omega)), rfl⟩
          · go_wp2
            go_meet
            exact ⟨-1, rfl, hide (judge_no hP.out (by omega)), rfl⟩
      case rest =>
        obtain ⟨r2, rfl, hJ, rfl⟩ := hcut
        clear hP y10 y17
        have hblk := hw1.below hb (Nat.lt_succ_self _)
        have hbq : w.heap.size + 1 ≤ (wr.drewN q).heap.size := by show _ ≤ wr.heap.size; omega
        have hown' : (wr.drewN q).ownsRow (w.heap.size + 1) 146 3 u5 ps.length (pCells ps) := hown
        rcases hJ.out with ⟨rfl, hno⟩ | ⟨b, rfl, hf, hk, hkd, hidx⟩
        · clear hJ
          have hno' := hide hno
          clear hno
          go_wp2_with (at_builtin; refine wpList_push E28 rfl _ _ rfl hown' rfl #[.slice A' n' c', .int .u32 0, .int .u8 0] rfl rfl (by intro u hu; simp at hu; rcases hu with rfl | rfl | rfl <;> rfl) (by omega) (by decide) hbq ?_; intro v' w' hown2 hg2; have hblk2 := Blk.grown (w := wr.drewN q) hblk hg2 (fun e => own_blk_ne hown' hblk (by decide) e.symm); obtain ⟨⟨d0, d1, d2, d3, d4⟩, f0, f1, f2, f3, f4⟩ := out_cells hblk2; obtain ⟨A2, c2, rfl, hc2, hs2⟩ := own_shape hown2)
          have hbr : Below (w.heap.size + 1) wr w' := (below_drewN (Below.refl _ wr) q).grown hg2 hbq (fun k hk => (hown'.lt k hk).1)
          generalize hw3 : (((((w'.setCell ⟨w.heap.size, 0, none⟩ (Value.slice A2 (ps.length + 1) c2)).setCell ⟨w.heap.size, 1, none⟩ (Value.slice none 0 0)).setCell ⟨w.heap.size, 2, none⟩ (Value.slice none 0 0)).setCell ⟨w.heap.size, 3, none⟩ (Value.int IntKind.u32 0)).setCell ⟨w.heap.size, 4, none⟩ (Value.int IntKind.u8 0)) = w3
          obtain ⟨hblk3, hbr3, hg3⟩ := out_laid hblk2 (hbr.mono (Nat.le_succ _)) (Nat.le_refl _) hw3
          obtain ⟨⟨g0, g1, g2, g3, g4⟩, _⟩ := out_cells hblk3
          refine bodyPost_ret (by simp [results, Try.results35, go_sem, g0, g1, g2, g3, g4]; try rfl) rfl ?_
          have hown3 := hown2.kept hg3 (.inr (own_blk_ne hown2 hblk2 (by decide)))
          refine ⟨.slice A2 (ps.length + 1) c2, ps ++ [⟨A', n', c', zs', 0, 0⟩], rfl, ?_, ?_, ?_, ?_, hb1.trans ((hb.mono (Nat.le_succ _)).trans hbr3)⟩
          · rw [pCells_add, List.length_append]
            exact own_less hown3 (Nat.le_succ _)
          · intro u hu
            rw [List.mem_append, List.mem_singleton] at hu
            rcases hu with hu | rfl
            · exact ⟨(hit u hu).1.below (hbr3.mono hB), (hit u hu).2⟩
            · exact ⟨hr'.below (hbr3.mono hB), hc'⟩
          · rw [List.length_append, List.length_singleton, hr.len]; omega
          · have := hcont.out _ (LM.Brk.last zs' hno'.out)
            simpa [pks] using this
        · clear hJ
          have hf' := hide hf
          have hfl := hf.1
          have h9 := (LM.keyB_parts hk).1
          rw [List.length_drop, hr'.len] at h9
          rw [len_data] at h9 hfl
          have hk' := hide hk
          have hkd' := hide hkd
          have hidx' := hide hidx
          clear hf hk hkd hidx
          have hup := hide (hr'.upto (show b ≤ n' by omega))
          have hfrom := hide (hr'.from_ (show b + p.size + 9 ≤ n' by omega) hc')
          go_wp2_with (at_builtin; refine wpList_push E28 rfl _ _ rfl hown' rfl #[.slice A' b c', .int .u32 idx, .int .u8 kd] rfl rfl (by intro u hu; simp at hu; rcases hu with rfl | rfl | rfl <;> rfl) (by omega) (by decide) hbq ?_; intro v' w' hown2 hg2)
          have hbr : Below (w.heap.size + 1) wr w' := (below_drewN (Below.refl _ wr) q).grown hg2 hbq (fun k hk => (hown'.lt k hk).1)
          refine ⟨⟨_, _, _, zs'.drop (b + p.size + 9), ps ++ [⟨A', b, c', zs'.take b, idx, kd⟩], rfl, by omega, by omega, hfrom.out.below (hbr.mono (by omega)), ?_, ?_, hb.trans hbr, ?_, hide ?_⟩, ?_⟩
          · rw [pCells_add, List.length_append]
            exact hown2
          · intro u hu
            rw [List.mem_append, List.mem_singleton] at hu
            rcases hu with hu | rfl
            · exact ⟨(hit u hu).1.below (hbr.mono (by omega)), (hit u hu).2⟩
            · exact ⟨hup.out.below (hbr.mono (by omega)), by show b ≤ c'; omega⟩
          · rw [List.length_append, List.length_singleton]; omega
          · intro qs hq
            have := hcont.out _ (LM.Brk.more zs' b qs hf'.out hk'.out (by rw [len_data]; exact hq))
            rw [← hkd'.out, ← hidx'.out] at this
            simpa [pks] using this
          · show n' - (b + p.size + 9) < n'
            omega
end Go.Proofs.Ytpfnonkcjlfibaa
