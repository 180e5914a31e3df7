/- Numbers put into bytes, the highest first; what a header and what stands behind it read as. -/
import Derived.Test.YtoljdgfbkebgcaaBuf
namespace Go.Proofs.Ytoljdgfbkebgcaa
open Go.RowKit
theorem put16_any (h o c : Nat) (x : Int) (cs : Array Value) (w : World) (k : Blk w h cs 5) (ho : o + 2 ≤ cs.size) (b : 0 ≤ x ∧ x ≤ 65535) :
    Calls Try.prog 113 #[.agg #[], .slice (some ⟨h, o, none⟩) 2 c, .int .u16 x] w fun e w' => e = .returned (.tuple #[]) ∧ Chg h w w' ∧ Blk w' h ((cs.setIfInBounds o (.int .u8 (x / 256))).setIfInBounds (o + 1) (.int .u8 (x % 256))) 5 := by
  have kc := k.cell
  have kf := k.frozen
  have kz := k.lt
  obtain ⟨u0, e0⟩ : ∃ u, cs[o]? = some u := ⟨_, Array.getElem?_eq_getElem (by omega)⟩
  obtain ⟨u1, e1⟩ : ∃ u, cs[o + 1]? = some u := ⟨_, Array.getElem?_eq_getElem (by omega)⟩
  have c0 : w.cell? ⟨h, o, none⟩ = some u0 := (kc o).trans e0
  have c1 : w.cell? ⟨h, o + 1, none⟩ = some u1 := (kc (o + 1)).trans e1
  have f0 := kf o
  have f1 := kf (o + 1)
  have K := Lib.hid k
  clear kc kf k e0 e1
  go_enter Try.func113, Try.ntmps113
  go_wp2_with fail
  go_end0
  refine ⟨rfl, (((Chg.refl h w).set o _).set (o + 1) _).trans (Chg.of (by go_grown)), ?_⟩
  exact ((K.out.set o _).set (o + 1) _).alloc _
set_option maxHeartbeats 1000000 in
theorem put32_any (h o c : Nat) (x : Int) (cs : Array Value) (w : World) (k : Blk w h cs 5) (ho : o + 4 ≤ cs.size) (b : 0 ≤ x ∧ x ≤ 4294967295) :
    Calls Try.prog 114 #[.agg #[], .slice (some ⟨h, o, none⟩) 4 c, .int .u32 x] w fun e w' => e = .returned (.tuple #[]) ∧ Chg h w w' ∧ Blk w' h ((((cs.setIfInBounds o (.int .u8 (x / 16777216))).setIfInBounds (o + 1) (.int .u8 (x / 65536 % 256))).setIfInBounds (o + 2) (.int .u8 (x / 256 % 256))).setIfInBounds (o + 3) (.int .u8 (x % 256))) 5 := by
  have kc := k.cell
  have kf := k.frozen
  have kz := k.lt
  obtain ⟨u0, e0⟩ : ∃ u, cs[o]? = some u := ⟨_, Array.getElem?_eq_getElem (by omega)⟩
  have c0 : w.cell? ⟨h, o, none⟩ = some u0 := (kc o).trans e0
  have f0 := kf o
  obtain ⟨u1, e1⟩ : ∃ u, cs[o + 1]? = some u := ⟨_, Array.getElem?_eq_getElem (by omega)⟩
  have c1 : w.cell? ⟨h, o + 1, none⟩ = some u1 := (kc (o + 1)).trans e1
  have f1 := kf (o + 1)
  obtain ⟨u2, e2⟩ : ∃ u, cs[o + 2]? = some u := ⟨_, Array.getElem?_eq_getElem (by omega)⟩
  have c2 : w.cell? ⟨h, o + 2, none⟩ = some u2 := (kc (o + 2)).trans e2
  have f2 := kf (o + 2)
  obtain ⟨u3, e3⟩ : ∃ u, cs[o + 3]? = some u := ⟨_, Array.getElem?_eq_getElem (by omega)⟩
  have c3 : w.cell? ⟨h, o + 3, none⟩ = some u3 := (kc (o + 3)).trans e3
  have f3 := kf (o + 3)
  have K := Lib.hid k
  clear kc kf k e0 e1 e2 e3
  go_enter Try.func114, Try.ntmps114
  go_wp2_with fail
  go_end0
  refine ⟨rfl, (((((Chg.refl h w).set o _).set (o + 1) _).set (o + 2) _).set (o + 3) _).trans (Chg.of (by go_grown)), ?_⟩
  exact (((((K.out).set o _).set (o + 1) _).set (o + 2) _).set (o + 3) _).alloc _
set_option maxHeartbeats 1000000 in
theorem putLE_any (h o c : Nat) (x : Int) (cs : Array Value) (w : World) (k : Blk w h cs 5) (ho : o + 4 ≤ cs.size) (b : 0 ≤ x ∧ x ≤ 4294967295) :
    Calls Try.prog 115 #[.agg #[], .slice (some ⟨h, o, none⟩) 4 c, .int .u32 x] w fun e w' => e = .returned (.tuple #[]) ∧ Chg h w w' ∧ Blk w' h ((((cs.setIfInBounds o (.int .u8 (x % 256))).setIfInBounds (o + 1) (.int .u8 (x / 256 % 256))).setIfInBounds (o + 2) (.int .u8 (x / 65536 % 256))).setIfInBounds (o + 3) (.int .u8 (x / 16777216))) 5 := by
  have kc := k.cell
  have kf := k.frozen
  have kz := k.lt
  obtain ⟨u0, e0⟩ : ∃ u, cs[o]? = some u := ⟨_, Array.getElem?_eq_getElem (by omega)⟩
  have c0 : w.cell? ⟨h, o, none⟩ = some u0 := (kc o).trans e0
  have f0 := kf o
  obtain ⟨u1, e1⟩ : ∃ u, cs[o + 1]? = some u := ⟨_, Array.getElem?_eq_getElem (by omega)⟩
  have c1 : w.cell? ⟨h, o + 1, none⟩ = some u1 := (kc (o + 1)).trans e1
  have f1 := kf (o + 1)
  obtain ⟨u2, e2⟩ : ∃ u, cs[o + 2]? = some u := ⟨_, Array.getElem?_eq_getElem (by omega)⟩
  have c2 : w.cell? ⟨h, o + 2, none⟩ = some u2 := (kc (o + 2)).trans e2
  have f2 := kf (o + 2)
  obtain ⟨u3, e3⟩ : ∃ u, cs[o + 3]? = some u := ⟨_, Array.getElem?_eq_getElem (by omega)⟩
  have c3 : w.cell? ⟨h, o + 3, none⟩ = some u3 := (kc (o + 3)).trans e3
  have f3 := kf (o + 3)
  have K := Lib.hid k
  clear kc kf k e0 e1 e2 e3
  go_enter Try.func115, Try.ntmps115
  go_wp2_with fail
  go_end0
  refine ⟨rfl, (((((Chg.refl h w).set o _).set (o + 1) _).set (o + 2) _).set (o + 3) _).trans (Chg.of (by go_grown)), ?_⟩
  exact (((((K.out).set o _).set (o + 1) _).set (o + 2) _).set (o + 3) _).alloc _
/-! ### what lies in a block behind a layer that was written -/
theorem splice_getD (c k n : Nat) (l : List Int) (hl : l.length = n) (hc : n ≤ c) (i : Nat) (hi : i < n) : (splice (zs (c + k)).toList k (l.map (Value.int .u8))).toArray[k + i]? = some (.int .u8 (l.getD i 0)) := by
  simp only [splice, List.getElem?_toArray]
  have h1 : ((zs (c + k)).toList.take k).length = k := by simp [zs]
  rw [List.getElem?_append_right (by omega), h1, Nat.add_sub_cancel_left, List.getElem?_append_left (by simpa [hl] using hi)]
  simp [List.getElem?_eq_getElem (show i < l.length by omega), List.getD_eq_getElem?_getD]
theorem splice_size (c k n : Nat) (l : List Int) (hl : l.length = n) (hc : n ≤ c) : (splice (zs (c + k)).toList k (l.map (Value.int .u8))).toArray.size = c + k := by
  simp only [List.size_toArray]
  rw [length_splice _ _ _ (by simp [zs, hl]; omega)]
  simp [zs]
/-- A header of k bytes, and what stands behind it. -/
theorem ser_rd {w : World} {h c k n : Nat} {cs : Array Value} {l hd : List Int} (K : Blk w h cs 5) (hl : l.length = n) (hc : n ≤ c) (hk : hd.length = k) (h1 : ∀ i, i < k → cs[i]? = some (.int .u8 (hd.getD i 0)))
    (h2 : ∀ i, cs[k + i]? = (splice (zs (c + k)).toList k (l.map (Value.int .u8))).toArray[k + i]?) : Rd .u8 w (some ⟨h, 0, none⟩) (k + n) (c + k) (hd ++ l) :=
  ⟨by simp [hl, hk], by omega, fun i hi => ⟨h, 0, rfl, by
    rw [Nat.zero_add, K.cell]
    by_cases hik : i < k
    · rw [h1 i hik, List.getD_eq_getElem?_getD, List.getD_eq_getElem?_getD, List.getElem?_append_left (by omega)]
    · obtain ⟨j, rfl⟩ : ∃ j, i = k + j := ⟨i - k, by omega⟩
      rw [h2 j, splice_getD c k n l hl hc j (by omega), List.getD_eq_getElem?_getD, List.getD_eq_getElem?_getD, List.getElem?_append_right (by omega), hk, Nat.add_sub_cancel_left]⟩⟩
end Go.Proofs.Ytoljdgfbkebgcaa
