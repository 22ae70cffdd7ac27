/-
  The walks of bePutUint64, bePutUint32. Conditions: the room.
-/
import Derived.Test.YtfimnjdfchdldaaFmtEnc
namespace Go.Proofs.YtfimnjdfchdldaaFmt
open Go.RowKit

/-- ds laid over L from place o on -/
def lay (L : List UInt8) (o : Nat) (ds : List UInt8) : List UInt8 := L.take o ++ (ds ++ L.drop (o + ds.length))
theorem lay_nil (L : List UInt8) (o : Nat) : lay L o [] = L := by simp [lay]
theorem lay_length {L ds : List UInt8} {o : Nat} (h : o + ds.length ≤ L.length) : (lay L o ds).length = L.length := by simp [lay]; omega
theorem lay_set {L ds : List UInt8} {o k : Nat} {x : UInt8} (hx : ds[k]? = some x) (hl : o + ds.length ≤ L.length) : (lay L o (ds.take k)).set (o + k) x = lay L o (ds.take (k + 1)) := by
  have hk := (List.getElem?_eq_some_iff.1 hx).1
  have h1 : (ds.take k).length = k := by rw [List.length_take]; omega
  have h2 : (ds.take (k + 1)).length = k + 1 := by rw [List.length_take]; omega
  have h3 : (L.take o).length = o := by rw [List.length_take]; omega
  unfold lay
  rw [h1, h2, List.set_append_right _ _ (by omega), h3, Nat.add_sub_cancel_left, List.set_append_right _ _ (by omega), h1, Nat.sub_self, List.take_add_one, hx]
  obtain ⟨y, hy⟩ : ∃ y, L[o + k]? = some y := ⟨_, List.getElem?_eq_getElem (by omega)⟩
  have hd : L.drop (o + k) = y :: L.drop (o + k + 1) := by
    rw [List.drop_eq_getElem_cons (by omega)]
    congr 1
    exact (List.getElem?_eq_some_iff.1 hy).2
  rw [hd, List.set_cons_zero]
  simp [Nat.add_assoc]

/-- a word's bytes, the greatest first -/
def beBytes (n dn : Nat) : List UInt8 := (List.range n).map fun i => UInt8.ofNat (dn / 2 ^ (8 * (n - 1) - 8 * i) % 256)
theorem beBytes_length (n dn : Nat) : (beBytes n dn).length = n := by simp [beBytes]
theorem beBytes_get (n dn : Nat) {i : Nat} (h : i < n) : (beBytes n dn)[i]? = some (UInt8.ofNat (dn / 2 ^ (8 * (n - 1) - 8 * i) % 256)) := by
  unfold beBytes
  rw [List.getElem?_map, List.getElem?_range h]
  rfl

theorem grown_same (w : World) (r : Option Nat) : w.grownBy w r := ⟨rfl, rfl, rfl, Nat.le_refl _, fun _ _ _ => rfl⟩
theorem grown_put {a w : World} {g : Nat} (h : a.grownBy w (some g)) (i : Nat) (u : Value) : a.grownBy (w.setCell ⟨g, i, none⟩ u) (some g) :=
  ⟨h.os, h.tape, h.output, by simp only [World.setCell, Array.size_modify]; exact h.size, fun k hk hr => (Below.heap_setCell _ _ _ _ (fun e => hr (by rw [e]))).trans (h.block k hk hr)⟩

/-- what a store of a word leaves -/
def PutTo (w : World) (base g N cap : Nat) (L : List UInt8) (e : Ending) (w' : World) : Prop :=
  e = .returned (.tuple #[]) ∧ w'.ownsRow base 5 1 (.slice (some ⟨g, 0, none⟩) N cap) N (L.map bv) ∧ w.grownBy w' (some g)

set_option maxHeartbeats 1600000 in
theorem bePut64_any (dn : Nat) (L : List UInt8) (g N cap o c : Nat) (w : World) {base : Nat} (hown : w.ownsRow base 5 1 (.slice (some ⟨g, 0, none⟩) N cap) N (L.map bv)) (ho : o + 8 ≤ N) (hN : N ≤ 16777216) :
    Calls Tryf.prog 62 #[.slice (some ⟨g, o, none⟩) (N - o) c, .int .u64 dn] w (PutTo w base g N cap (lay L o (beBytes 8 dn))) := by
  have hLl : Hid (L.length = N) := hide (by simpa using hown.1)
  go_enter Tryf.func62, Tryf.ntmps62
  go_wp2
  go_loopw [4] (fun i wr => ∃ k : Nat, k ≤ 8 ∧ i = .int .i64 k ∧ wr.ownsRow base 5 1 (.slice (some ⟨g, 0, none⟩) N cap) N ((lay L o ((beBytes 8 dn).take k)).map bv) ∧ w.grownBy wr (some g)) (fun i _ => 8 - (intOf i).toNat)
  case atStart => exact ⟨0, by omega, rfl, by rw [List.take_zero, lay_nil]; exact hown, grown_same _ _⟩
  case round =>
    clear hown
    obtain ⟨k, hk, rfl, hown, hb⟩ := hrel
    by_cases hkl : k < 8
    · have hx := beBytes_get 8 dn hkl
      have hq : dn / 2 ^ (56 - 8 * k) % 256 < 256 := Nat.mod_lt _ (by omega)
      have hbx : IntKind.u8.wrap ((dn : Int) / 2 ^ (56 - 8 * k)) = ((dn / 2 ^ (56 - 8 * k) % 256 : Nat) : Int) := by
        rw [IntKind.wrap_u8]
        simp
      have hl := lay_length (L := L) (o := o) (ds := (beBytes 8 dn).take k) (by rw [List.length_take, beBytes_length, hLl.out]; omega)
      rw [hLl.out] at hl
      have hf := hown.frozenAt (o + k)
      obtain ⟨y, hy⟩ : ∃ y, (lay L o ((beBytes 8 dn).take k))[o + k]? = some y := ⟨_, List.getElem?_eq_getElem (by rw [hl]; omega)⟩
      have hu := (hown.cellAt (o + k) (by omega)).trans (by rw [List.getElem?_map, hy])
      have R := (hown.stored (o + k) (bv (UInt8.ofNat (dn / 2 ^ (56 - 8 * k) % 256)))).1
      rw [← List.map_set, lay_set hx (by rw [beBytes_length, hLl.out]; omega)] at R
      have e : bv (UInt8.ofNat (dn / 2 ^ (56 - 8 * k) % 256)) = .int .u8 ((dn / 2 ^ (56 - 8 * k) % 256 : Nat) : Int) := by
        unfold bv
        rw [UInt8.toNat_ofNat', Nat.mod_eq_of_lt hq]
      rw [e] at R
      obtain ⟨X, hX⟩ : ∃ X, X = dn / 2 ^ (56 - 8 * k) % 256 := ⟨_, rfl⟩
      rw [← hX] at R hbx
      replace R := hide R
      replace hx := hide hx
      replace hy := hide hy
      clear hown e hX hq hl
      go_wp2
      go_roundw
      case rel => exact ⟨k + 1, by omega, by go_num, R.out, grown_put hb _ _⟩
      case measure => simp [intOf]; omega
    · obtain rfl : k = 8 := by omega
      rw [List.take_of_length_le (by rw [beBytes_length]; exact Nat.le_refl _)] at hown
      go_wp2
      go_end0
      exact ⟨rfl, hown, hb⟩

set_option maxHeartbeats 1600000 in
theorem bePut32_any (dn : Nat) (L : List UInt8) (g N cap o c : Nat) (w : World) {base : Nat} (hown : w.ownsRow base 5 1 (.slice (some ⟨g, 0, none⟩) N cap) N (L.map bv)) (ho : o + 4 ≤ N) (hN : N ≤ 16777216) :
    Calls Tryf.prog 65 #[.slice (some ⟨g, o, none⟩) (N - o) c, .int .u32 dn] w (PutTo w base g N cap (lay L o (beBytes 4 dn))) := by
  have hLl : Hid (L.length = N) := hide (by simpa using hown.1)
  go_enter Tryf.func65, Tryf.ntmps65
  go_wp2
  go_loopw [4] (fun i wr => ∃ k : Nat, k ≤ 4 ∧ i = .int .i64 k ∧ wr.ownsRow base 5 1 (.slice (some ⟨g, 0, none⟩) N cap) N ((lay L o ((beBytes 4 dn).take k)).map bv) ∧ w.grownBy wr (some g)) (fun i _ => 4 - (intOf i).toNat)
  case atStart => exact ⟨0, by omega, rfl, by rw [List.take_zero, lay_nil]; exact hown, grown_same _ _⟩
  case round =>
    clear hown
    obtain ⟨k, hk, rfl, hown, hb⟩ := hrel
    by_cases hkl : k < 4
    · have hx := beBytes_get 4 dn hkl
      have hq : dn / 2 ^ (24 - 8 * k) % 256 < 256 := Nat.mod_lt _ (by omega)
      have hbx : IntKind.u8.wrap ((dn : Int) / 2 ^ (24 - 8 * k)) = ((dn / 2 ^ (24 - 8 * k) % 256 : Nat) : Int) := by
        rw [IntKind.wrap_u8]
        simp
      have hl := lay_length (L := L) (o := o) (ds := (beBytes 4 dn).take k) (by rw [List.length_take, beBytes_length, hLl.out]; omega)
      rw [hLl.out] at hl
      have hf := hown.frozenAt (o + k)
      obtain ⟨y, hy⟩ : ∃ y, (lay L o ((beBytes 4 dn).take k))[o + k]? = some y := ⟨_, List.getElem?_eq_getElem (by rw [hl]; omega)⟩
      have hu := (hown.cellAt (o + k) (by omega)).trans (by rw [List.getElem?_map, hy])
      have R := (hown.stored (o + k) (bv (UInt8.ofNat (dn / 2 ^ (24 - 8 * k) % 256)))).1
      rw [← List.map_set, lay_set hx (by rw [beBytes_length, hLl.out]; omega)] at R
      have e : bv (UInt8.ofNat (dn / 2 ^ (24 - 8 * k) % 256)) = .int .u8 ((dn / 2 ^ (24 - 8 * k) % 256 : Nat) : Int) := by
        unfold bv
        rw [UInt8.toNat_ofNat', Nat.mod_eq_of_lt hq]
      rw [e] at R
      obtain ⟨X, hX⟩ : ∃ X, X = dn / 2 ^ (24 - 8 * k) % 256 := ⟨_, rfl⟩
      rw [← hX] at R hbx
      replace R := hide R
      replace hx := hide hx
      replace hy := hide hy
      clear hown e hX hq hl
      go_wp2
      go_roundw
      case rel => exact ⟨k + 1, by omega, by go_num, R.out, grown_put hb _ _⟩
      case measure => simp [intOf]; omega
    · obtain rfl : k = 4 := by omega
      rw [List.take_of_length_le (by rw [beBytes_length]; exact Nat.le_refl _)] at hown
      go_wp2
      go_end0
      exact ⟨rfl, hown, hb⟩
end Go.Proofs.YtfimnjdfchdldaaFmt
