/-
  The walk of zzAppendKey. Conditions: sizes.
-/
import Derived.Test.YtpfnonkcjlfibaaLBrk
namespace Go.Proofs.Ytpfnonkcjlfibaa
open Go.RowKit

theorem dec_get : ∀ (k x i : Nat), i < k → (LM.dec k x)[i]? = some (UInt8.ofNat (48 + x / 10 ^ (k - 1 - i) % 10)) := by
  intro k
  induction k with
  | zero => intro x i hi; omega
  | succ k ih =>
    intro x i hi
    unfold LM.dec
    by_cases h : i < k
    · rw [List.getElem?_append_left (by rw [LM.dec_length]; exact h), ih (x / 10) i h, Nat.div_div_eq_div_mul]
      have e : 10 * 10 ^ (k - 1 - i) = 10 ^ (k + 1 - 1 - i) := by
        rw [Nat.mul_comm, ← Nat.pow_succ]
        congr 1
        omega
      rw [e]
    · obtain rfl : i = k := by omega
      rw [List.getElem?_append_right (by rw [LM.dec_length]; omega), LM.dec_length]
      simp

/-- the digits from place j on -/
def digits (idx j : Nat) : List UInt8 := List.replicate j 0 ++ (LM.dec 8 idx).drop j
theorem digits_length (idx j : Nat) (hj : j ≤ 8) : (digits idx j).length = 8 := by simp [digits, LM.dec_length]; omega
theorem digits_all (idx : Nat) : digits idx 0 = LM.dec 8 idx := by simp [digits]
theorem digits_none (idx : Nat) : digits idx 8 = List.replicate 8 0 := by
  unfold digits
  rw [List.drop_eq_nil_of_le (by rw [LM.dec_length]; omega), List.append_nil]
theorem digits_set (idx j : Nat) (hj : j < 8) : (digits idx (j + 1)).set j (UInt8.ofNat (48 + idx / 10 ^ (7 - j) % 10)) = digits idx j := by
  have hd := dec_get 8 idx j hj
  apply List.ext_getElem?
  intro i
  rw [List.getElem?_set]
  by_cases e : j = i
  · subst e
    rw [if_pos rfl, if_pos (by rw [digits_length _ _ (by omega)]; exact hj)]
    unfold digits
    rw [List.getElem?_append_right (by simp), List.length_replicate, Nat.sub_self, List.getElem?_drop, Nat.add_zero, hd]
  · rw [if_neg e]
    unfold digits
    by_cases h : i < j
    · rw [List.getElem?_append_left (by simp; omega), List.getElem?_append_left (by simp; omega), List.getElem?_replicate, List.getElem?_replicate, if_pos (by omega), if_pos h]
    · rw [List.getElem?_append_right (by simp; omega), List.getElem?_append_right (by simp; omega), List.length_replicate, List.length_replicate, List.getElem?_drop, List.getElem?_drop]
      congr 1
      omega

theorem put_digit {l l' : List UInt8} {i X : Nat} (h : l.set i (UInt8.ofNat (48 + X % 10)) = l') : ((l.map bv).toArray).setIfInBounds i (.int .u8 (48 + (X : Int) % 10)) = (l'.map bv).toArray := by
  subst h
  have e : bv (UInt8.ofNat (48 + X % 10)) = .int .u8 (48 + (X : Int) % 10) := by
    unfold bv
    rw [UInt8.toNat_ofNat', Nat.mod_eq_of_lt (by omega)]
    simp
  rw [List.setIfInBounds_toArray, List.map_set, e]

theorem blk_rd {w : World} {g : Nat} {t : TypeId} {zs : List UInt8} (h : Blk w g t (zs.map bv).toArray) : Rd w w.heap.size (some ⟨g, 0, none⟩) zs.length zs := by
  refine ⟨rfl, fun _ => ⟨g, 0, rfl, h.lt, fun j x hx => ?_⟩⟩
  rw [Nat.zero_add, h.cell j]
  simp [hx, bv]

set_option maxHeartbeats 1600000 in
set_option maxRecDepth 100000 in
theorem appendKey_any (v : Value) (L : List UInt8) (A : Option Addr) (m c : Nat) (bs : List UInt8) (kd idx : Nat) (w : World) {base B : Nat} (hown : w.ownsRow base 5 1 v L.length (L.map bv)) (hr : Rd w B A m bs) (hbase : base ≤ w.heap.size) (hl : L.length + m ≤ 4000000000) (hkd : kd = 1 ∨ kd = 2) (hidx : idx < 4294967296) :
    Calls Try.prog 29 #[v, .slice A m c, .int .u8 kd, .int .u32 idx] w fun e w' => ∃ v', e = .returned v' ∧ w'.ownsRow base 5 1 v' (L ++ LM.keyBytes bs idx kd).length ((L ++ LM.keyBytes bs idx kd).map bv) ∧ Below base w w' := by
  rcases hkd with rfl | rfl
  · skip
    go_enter Try.func29, Try.ntmps29
    go_wp2_with (first
      | (at_builtin; refine wpList_app E42 rfl (.tmp 12) (.tmp 13) rfl L hown rfl hr rfl (by omega) hbase ?_; intro v1 w1 hown1 hg1; have hs1 := hg1.size)
      | (at_builtin; refine wpList_push E42 rfl (.tmp 17) (.tmp 18) rfl hown1 rfl #[.int .u8 65] rfl rfl (one_byte _) (by omega) (by decide) (by omega) ?_; intro v2 w2 hown2 hg2; have hs2 := hg2.size))
    have hb2 : Below base w w2 := ((Below.refl _ _).grown hg1 hbase (fun k hk => (hown.lt k hk).1)).grown hg2 (by omega) (fun k hk => (hown1.lt k hk).1)
    have hown3 : w2.ownsRow base 5 1 v2 (L ++ bs ++ [65]).length ((L ++ bs ++ [65]).map bv) := by
      have e1 : (L ++ bs ++ [65]).length = L.length + m + 1 := by simp [hr.len]; omega
      have e2 : (L ++ bs ++ [65]).map bv = (L ++ bs).map bv ++ [Value.int IntKind.u8 65] := by simp [bv]
      rw [e1, e2]
      exact hown2
    clear hown hown1 hown2 hg1 hg2
    have hblk := Blk.new w2 150 ((digits idx 8).map bv).toArray
    have hgr : w2.grownBy (w2.alloc (.cells ((digits idx 8).map bv).toArray 150)) (some w2.heap.size) := World.grownBy_alloc w2 _ _
    have hcs : (((digits idx 8).map bv).toArray : Array Value) = #[.int .u8 0, .int .u8 0, .int .u8 0, .int .u8 0, .int .u8 0, .int .u8 0, .int .u8 0, .int .u8 0] := by rw [digits_none]; rfl
    rw [hcs] at hgr
    rw [show Blk (w2.alloc (.cells ((digits idx 8).map bv).toArray 150)) w2.heap.size 150 ((digits idx 8).map bv).toArray = Blk (w2.alloc (.cells #[.int .u8 0, .int .u8 0, .int .u8 0, .int .u8 0, .int .u8 0, .int .u8 0, .int .u8 0, .int .u8 0] 150)) w2.heap.size 150 ((digits idx 8).map bv).toArray by rw [hcs]] at hblk
    clear hcs
    go_loopw [10, 11] (fun x k wr => ∃ j : Nat, j ≤ 8 ∧ k = .int .i64 ((j : Int) - 1) ∧ x = .int .u32 (idx / 10 ^ (8 - j) : Nat) ∧ Blk wr w2.heap.size 150 ((digits idx j).map bv).toArray ∧ w2.grownBy wr (some w2.heap.size)) (fun _ k _ => (intOf k + 1).toNat)
    case atStart => exact ⟨8, by omega, rfl, by simp, hblk, hgr⟩
    case round =>
      clear hblk hgr
      obtain ⟨j, hj8, rfl, rfl, hblk, hgr⟩ := hrel
      by_cases hj : 0 < j
      · obtain ⟨i, rfl⟩ : ∃ i, j = i + 1 := ⟨j - 1, by omega⟩
        have hx7 : 8 - (i + 1) = 7 - i := by omega
        have hXl : idx / 10 ^ (7 - i) < 4294967296 := Nat.lt_of_le_of_lt (Nat.div_le_self _ _) hidx
        have hset := hide (digits_set idx i (by omega))
        have hnext : Hid (idx / 10 ^ (8 - i) = idx / 10 ^ (7 - i) / 10) := hide (by rw [Nat.div_div_eq_div_mul, ← Nat.pow_succ]; congr 2; omega)
        have hcell : wr.cell? ⟨w2.heap.size, i, none⟩ = some (.int .u8 0) := by
          rw [hblk.cell i]
          simp only [digits, List.map_append, List.map_replicate, List.getElem?_toArray]
          rw [List.getElem?_append_left (by simp), List.getElem?_replicate, if_pos (by omega)]
          rfl
        have hfr := hblk.frozen i
        rw [hx7]
        generalize idx / 10 ^ (7 - i) = X at *
        have hi : (((i + 1 : Nat) : Int) - 1) = (i : Int) := by omega
        rw [hi]
        go_wp2
        refine ⟨⟨i, by omega, rfl, by rw [hnext.out]; simp, Blk.put_eq hblk i _ (put_digit hset.out), grown_put hgr i _⟩, by simp [intOf]⟩
      · obtain rfl : j = 0 := by omega
        have hown4 := hown3.kept hgr (.inr (fun e => absurd (hown3.lt _ e).2 (Nat.lt_irrefl _)))
        have hrd : Rd wr wr.heap.size (some ⟨w2.heap.size, 0, none⟩) 8 (LM.dec 8 idx) := by
          have := blk_rd hblk
          rwa [digits_all, LM.dec_length] at this
        have hb3 : Below base w wr := hb2.grown hgr (by omega) (fun k hk => by cases hk; omega)
        have hsz : (L ++ bs ++ [65]).length = L.length + m + 1 := by simp [hr.len]; omega
        have hs3 := hgr.size
        go_wp2_with (at_builtin; refine wpList_app E42 rfl (.tmp 36) (.tmp 37) rfl (L ++ bs ++ [65]) hown4 rfl hrd rfl (by omega) (by omega) ?_; intro v4 w4 hown5 hg4)
        go_ret
        refine ⟨v4, rfl, ?_, hb3.grown hg4 (by omega) (fun k hk => (hown4.lt k hk).1)⟩
        have e1 : L ++ LM.keyBytes bs idx 1 = L ++ bs ++ [65] ++ LM.dec 8 idx := by simp [LM.keyBytes]
        rw [e1, List.length_append, LM.dec_length]
        exact hown5
  · skip
    go_enter Try.func29, Try.ntmps29
    go_wp2_with (first
      | (at_builtin; refine wpList_app E42 rfl (.tmp 12) (.tmp 13) rfl L hown rfl hr rfl (by omega) hbase ?_; intro v1 w1 hown1 hg1; have hs1 := hg1.size)
      | (at_builtin; refine wpList_push E42 rfl (.tmp 20) (.tmp 21) rfl hown1 rfl #[.int .u8 67] rfl rfl (one_byte _) (by omega) (by decide) (by omega) ?_; intro v2 w2 hown2 hg2; have hs2 := hg2.size))
    have hb2 : Below base w w2 := ((Below.refl _ _).grown hg1 hbase (fun k hk => (hown.lt k hk).1)).grown hg2 (by omega) (fun k hk => (hown1.lt k hk).1)
    have hown3 : w2.ownsRow base 5 1 v2 (L ++ bs ++ [67]).length ((L ++ bs ++ [67]).map bv) := by
      have e1 : (L ++ bs ++ [67]).length = L.length + m + 1 := by simp [hr.len]; omega
      have e2 : (L ++ bs ++ [67]).map bv = (L ++ bs).map bv ++ [Value.int IntKind.u8 67] := by simp [bv]
      rw [e1, e2]
      exact hown2
    clear hown hown1 hown2 hg1 hg2
    have hblk := Blk.new w2 150 ((digits idx 8).map bv).toArray
    have hgr : w2.grownBy (w2.alloc (.cells ((digits idx 8).map bv).toArray 150)) (some w2.heap.size) := World.grownBy_alloc w2 _ _
    have hcs : (((digits idx 8).map bv).toArray : Array Value) = #[.int .u8 0, .int .u8 0, .int .u8 0, .int .u8 0, .int .u8 0, .int .u8 0, .int .u8 0, .int .u8 0] := by rw [digits_none]; rfl
    rw [hcs] at hgr
    rw [show Blk (w2.alloc (.cells ((digits idx 8).map bv).toArray 150)) w2.heap.size 150 ((digits idx 8).map bv).toArray = Blk (w2.alloc (.cells #[.int .u8 0, .int .u8 0, .int .u8 0, .int .u8 0, .int .u8 0, .int .u8 0, .int .u8 0, .int .u8 0] 150)) w2.heap.size 150 ((digits idx 8).map bv).toArray by rw [hcs]] at hblk
    clear hcs
    go_loopw [10, 11] (fun x k wr => ∃ j : Nat, j ≤ 8 ∧ k = .int .i64 ((j : Int) - 1) ∧ x = .int .u32 (idx / 10 ^ (8 - j) : Nat) ∧ Blk wr w2.heap.size 150 ((digits idx j).map bv).toArray ∧ w2.grownBy wr (some w2.heap.size)) (fun _ k _ => (intOf k + 1).toNat)
    case atStart => exact ⟨8, by omega, rfl, by simp, hblk, hgr⟩
    case round =>
      clear hblk hgr
      obtain ⟨j, hj8, rfl, rfl, hblk, hgr⟩ := hrel
      by_cases hj : 0 < j
      · obtain ⟨i, rfl⟩ : ∃ i, j = i + 1 := ⟨j - 1, by omega⟩
        have hx7 : 8 - (i + 1) = 7 - i := by omega
        have hXl : idx / 10 ^ (7 - i) < 4294967296 := Nat.lt_of_le_of_lt (Nat.div_le_self _ _) hidx
        have hset := hide (digits_set idx i (by omega))
        have hnext : Hid (idx / 10 ^ (8 - i) = idx / 10 ^ (7 - i) / 10) := hide (by rw [Nat.div_div_eq_div_mul, ← Nat.pow_succ]; congr 2; omega)
        have hcell : wr.cell? ⟨w2.heap.size, i, none⟩ = some (.int .u8 0) := by
          rw [hblk.cell i]
          simp only [digits, List.map_append, List.map_replicate, List.getElem?_toArray]
          rw [List.getElem?_append_left (by simp), List.getElem?_replicate, if_pos (by omega)]
          rfl
        have hfr := hblk.frozen i
        rw [hx7]
        generalize idx / 10 ^ (7 - i) = X at *
        have hi : (((i + 1 : Nat) : Int) - 1) = (i : Int) := by omega
        rw [hi]
        go_wp2
        refine ⟨⟨i, by omega, rfl, by rw [hnext.out]; simp, Blk.put_eq hblk i _ (put_digit hset.out), grown_put hgr i _⟩, by simp [intOf]⟩
      · obtain rfl : j = 0 := by omega
        have hown4 := hown3.kept hgr (.inr (fun e => absurd (hown3.lt _ e).2 (Nat.lt_irrefl _)))
        have hrd : Rd wr wr.heap.size (some ⟨w2.heap.size, 0, none⟩) 8 (LM.dec 8 idx) := by
          have := blk_rd hblk
          rwa [digits_all, LM.dec_length] at this
        have hb3 : Below base w wr := hb2.grown hgr (by omega) (fun k hk => by cases hk; omega)
        have hsz : (L ++ bs ++ [67]).length = L.length + m + 1 := by simp [hr.len]; omega
        have hs3 := hgr.size
        go_wp2_with (at_builtin; refine wpList_app E42 rfl (.tmp 36) (.tmp 37) rfl (L ++ bs ++ [67]) hown4 rfl hrd rfl (by omega) (by omega) ?_; intro v4 w4 hown5 hg4)
        go_ret
        refine ⟨v4, rfl, ?_, hb3.grown hg4 (by omega) (fun k hk => (hown4.lt k hk).1)⟩
        have e1 : L ++ LM.keyBytes bs idx 2 = L ++ bs ++ [67] ++ LM.dec 8 idx := by simp [LM.keyBytes]
        rw [e1, List.length_append, LM.dec_length]
        exact hown5
end Go.Proofs.Ytpfnonkcjlfibaa
