/-
  The decoder at the encoder's last quantum. Conditions: sizes.
-/
import Derived.Test.YtfimnjdfchdldaaFmtDec
namespace Go.Proofs.YtfimnjdfchdldaaFmt
open Go.RowKit

/-- the map's place at a letter -/
theorem idx73 (E c : Nat) (hc : c ≤ 255) (w : World) : (Instr.indexAt 73 (.pointer (some ⟨E, 64, none⟩)) (.int .u8 c)).run Tryf.prog w = .ok (.pointer (some ⟨E, 64 + c, none⟩)) w := by
  have h1 : (0 : Int) ≤ (c : Int) ∧ (c : Int) < 256 := ⟨by omega, by omega⟩
  simp [go_sem, Instr.indexAt, h1]
  intro h
  omega

/-- what Decode leaves -/
def DecTo (w : World) (base g N cap : Nat) (zs : List UInt8) (e : Ending) (w' : World) : Prop :=
  ∃ L, e = .returned (.tuple #[.int .i64 zs.length, .nilIface]) ∧ w'.ownsRow base 5 1 (.slice (some ⟨g, 0, none⟩) N cap) N (L.map bv) ∧ Front zs L zs.length ∧ w.grownBy w' (some g)

theorem Rd.grownAt {w w' : World} {B b g n : Nat} {zs : List UInt8} (h : Rd w B (some ⟨b, 0, none⟩) n zs) (hg : w.grownBy w' (some g)) (hB : B ≤ w.heap.size) (hbg : b ≠ g) : Rd w' B (some ⟨b, 0, none⟩) n zs :=
  ⟨h.1, fun hn => by
    obtain ⟨b', off, e, hb, hc⟩ := h.2 hn
    cases e
    exact ⟨b, 0, rfl, hb, fun j x hj => (World.cell?_of_block (hg.block b (by omega) (fun e => hbg (Option.some.inj e)))).trans (hc j x hj)⟩⟩
theorem grown_drewN {w w' : World} {r : Option Nat} (h : w.grownBy w' r) (q : Nat) : w.grownBy (w'.drewN q) r := ⟨h.os, h.tape, h.output, h.size, h.block⟩
theorem own_drewN {w : World} {base n size : Nat} {e : TypeId} {v : Value} {xs : List Value} (h : w.ownsRow base e size v n xs) (q : Nat) : (w.drewN q).ownsRow base e size v n xs := h

/-- what a store behind the front leaves -/
theorem put_next {w wr w1 : World} {base E g N cap b n q k m : Nat} {zs L ds : List UInt8} {e : Ending} (hE : StdAt wr E) (hown : wr.ownsRow base 5 1 (.slice (some ⟨g, 0, none⟩) N cap) N (L.map bv)) (hr : Rd wr w.heap.size (some ⟨b, 0, none⟩) n (BM.enc zs))
    (hF : Front zs L k) (hg : w.grownBy wr (some g)) (hbg : b ≠ g) (hd : ∀ j, j < m → ds[j]? = zs[k + j]?) (hm : m ≤ ds.length) (hl : k + ds.length ≤ N) (hp : PutTo (wr.drewN q) base g N cap (lay L k ds) e w1) :
    Front zs (lay L k ds) (k + m) ∧ StdAt w1 E ∧ Rd w1 w.heap.size (some ⟨b, 0, none⟩) n (BM.enc zs) ∧ w.grownBy w1 (some g) := by
  obtain ⟨-, -, h1⟩ := hp
  have hll : L.length = N := by simpa using hown.1
  have hne : some g ≠ some E := own_blk_ne (own_drewN hown q) (show StdAt (wr.drewN q) E from hE) (by decide)
  exact ⟨hF.lay (by omega) hm hd, Blk.grown (w := wr.drewN q) hE h1 (fun e => hne e.symm), Rd.grownAt (hr.drewN q) h1 hg.size hbg, (grown_drewN hg q).trans h1⟩

theorem Front.set1 {zs L : List UInt8} {o : Nat} {x : UInt8} (h : Front zs L o) (hl : o < L.length) (h0 : zs[o]? = some x) : Front zs (L.set o x) (o + 1) := fun j hj => by
  rw [List.getElem?_set]
  by_cases e : o = j
  · rw [if_pos e, if_pos hl, ← e, h0]
  · rw [if_neg e, h j (by omega)]
theorem Front.same {zs L M : List UInt8} {o : Nat} (h : Front zs L o) (e : ∀ j, j < o → M[j]? = L[j]?) : Front zs M o := fun j hj => (e j hj).trans (h j hj)

/-- the last quantum, padded or not -/
theorem last_any (E g N cap c b n cs G B : Nat) (zs L : List UInt8) (w : World) {base : Nat} (hE : StdAt w E) (hown : w.ownsRow base 5 1 (.slice (some ⟨g, 0, none⟩) N cap) N (L.map bv)) (hr : Rd w B (some ⟨b, 0, none⟩) n (BM.enc zs)) (hF : Front zs L (3 * G))
    (hN : N = 3 * (G + 1)) (hn : n = 4 * (G + 1)) (hz1 : zs.length ≤ 3 * (G + 1)) (hz2 : 3 * (G + 1) < zs.length + 3) (hn2 : n ≤ 16777216) :
    Calls Tryf.prog 63 #[.pointer (some ⟨E, 0, none⟩), .slice (some ⟨g, 3 * G, none⟩) (N - 3 * G) c, .slice (some ⟨b, 0, none⟩) n cs, .int .i64 (4 * G : Nat)] w fun e w' => e = .returned (.tuple #[.int .i64 n, .int .i64 (zs.length - 3 * G : Nat), .nilIface]) ∧
      ∃ L', w'.ownsRow base 5 1 (.slice (some ⟨g, 0, none⟩) N cap) N (L'.map bv) ∧ Front zs L' zs.length ∧ w.grownBy w' (some g) := by
  have hll : L.length = N := by simpa using hown.1
  obtain ⟨b', off, e, hb, hc⟩ := hr.2 (by omega)
  cases e
  obtain ⟨x, hx⟩ : ∃ x, zs[3 * G]? = some x := ⟨_, List.getElem?_eq_getElem (by omega)⟩
  rcases (by omega : zs.length = 3 * G + 1 ∨ zs.length = 3 * G + 2 ∨ zs.length = 3 * G + 3) with hl | hl | hl
  · obtain ⟨f0, f1, f2, f3⟩ := enc_pad2 hx hl
    have hV := BM.v3_lt x 0 0
    obtain ⟨t0, t1, -⟩ := BM.digits_val hV
    refine (quantum2_any E g N cap (3 * G) c b 0 n cs (4 * G) _ _ _ _ L w hE hown (by omega) (by omega) hn2 t0 t1 (hc _ _ f0) (hc _ _ f1) (hc _ _ f2) (hc _ _ f3) (std_map hE t0) (std_map hE t1) ⟨UInt8.toNat_lt _, UInt8.toNat_lt _⟩).mono ?_
    rintro e w' ⟨he, ho, hg⟩
    refine ⟨by rw [he, hl, show 3 * G + 1 - 3 * G = 1 by omega]; rfl, _, ho, ?_, hg⟩
    rw [hl]
    have hx' := x.toNat_lt
    have e1 : (BM.v3 x 0 0 / 262144 * 64 + BM.v3 x 0 0 / 4096 % 64) * 4096 = x.toNat * 65536 := by
      unfold BM.v3
      simp only [UInt8.toNat_ofNat, Nat.reduceMod, Nat.reducePow]
      omega
    rw [e1]
    have ex : UInt8.ofNat (x.toNat * 65536 / 65536 % 256) = x := by
      apply UInt8.toNat_inj.1
      rw [UInt8.toNat_ofNat']
      simp only [Nat.reducePow]
      omega
    rw [ex]
    exact hF.set1 (by omega) hx
  · obtain ⟨y, hy⟩ : ∃ y, zs[3 * G + 1]? = some y := ⟨_, List.getElem?_eq_getElem (by omega)⟩
    obtain ⟨f0, f1, f2, f3⟩ := enc_pad1 hx hy hl
    have hV := BM.v3_lt x y 0
    obtain ⟨t0, t1, t2, -⟩ := BM.digits_val hV
    refine (quantum3_any E g N cap (3 * G) c b 0 n cs (4 * G) _ _ _ _ _ _ L w hE hown (by omega) (by omega) hn2 t0 t1 t2 (hc _ _ f0) (hc _ _ f1) (hc _ _ f2) (hc _ _ f3) (std_map hE t0) (std_map hE t1) (std_map hE t2) ⟨UInt8.toNat_lt _, UInt8.toNat_lt _, UInt8.toNat_lt _⟩).mono ?_
    rintro e w' ⟨he, ho, hg⟩
    refine ⟨by rw [he, hl, show 3 * G + 2 - 3 * G = 2 by omega]; rfl, _, ho, ?_, hg⟩
    rw [hl]
    have hx' := x.toNat_lt
    have hy' := y.toNat_lt
    have e1 : ((BM.v3 x y 0 / 262144 * 64 + BM.v3 x y 0 / 4096 % 64) * 64 + BM.v3 x y 0 / 64 % 64) * 64 = x.toNat * 65536 + y.toNat * 256 := by
      unfold BM.v3
      simp only [UInt8.toNat_ofNat, Nat.reduceMod, Nat.reducePow]
      omega
    rw [e1]
    have ex : UInt8.ofNat ((x.toNat * 65536 + y.toNat * 256) / 65536 % 256) = x := by
      apply UInt8.toNat_inj.1
      rw [UInt8.toNat_ofNat']
      simp only [Nat.reducePow]
      omega
    have ey : UInt8.ofNat ((x.toNat * 65536 + y.toNat * 256) / 256 % 256) = y := by
      apply UInt8.toNat_inj.1
      rw [UInt8.toNat_ofNat']
      simp only [Nat.reducePow]
      omega
    rw [ex, ey, List.set_comm _ _ (by omega)]
    exact (hF.set1 (by omega) hx).set1 (by rw [List.length_set]; omega) hy
  · obtain ⟨y, hy⟩ : ∃ y, zs[3 * G + 1]? = some y := ⟨_, List.getElem?_eq_getElem (by omega)⟩
    obtain ⟨z, hz⟩ : ∃ z, zs[3 * G + 2]? = some z := ⟨_, List.getElem?_eq_getElem (by omega)⟩
    obtain ⟨f0, f1, f2, f3⟩ := enc_full hx hy hz
    have hV := BM.v3_lt x y z
    obtain ⟨t0, t1, t2, t3, -⟩ := BM.digits_val hV
    refine (quantum4_any E g N cap (3 * G) c b 0 n cs (4 * G) _ _ _ _ _ _ _ _ L w hE hown (by omega) (by omega) hn2 t0 t1 t2 t3 (hc _ _ f0) (hc _ _ f1) (hc _ _ f2) (hc _ _ f3) (std_map hE t0) (std_map hE t1) (std_map hE t2) (std_map hE t3) ⟨UInt8.toNat_lt _, UInt8.toNat_lt _, UInt8.toNat_lt _, UInt8.toNat_lt _⟩).mono ?_
    rintro e w' ⟨he, ho, hg⟩
    refine ⟨by rw [he, hl, show 3 * G + 3 - 3 * G = 3 by omega]; rfl, _, ho, ?_, hg⟩
    rw [digits_back hV, word24, hl]
    refine hF.lay (m := 3) (by simp; omega) (by simp) fun j hj => ?_
    match j, hj with
    | 0, _ => exact hx.symm
    | 1, _ => exact hy.symm
    | 2, _ => exact hz.symm
end Go.Proofs.YtfimnjdfchdldaaFmt
