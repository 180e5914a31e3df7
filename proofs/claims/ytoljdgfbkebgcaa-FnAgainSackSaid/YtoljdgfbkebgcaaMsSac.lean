/- sctpsack: made, written. -/
import Derived.Test.YtoljdgfbkebgcaaTake2
import Derived.Test.YtoljdgfbkebgcaaDrw
import Derived.Test.YtoljdgfbkebgcaaGiv
import Derived.Test.YtoljdgfbkebgcaaDecSac
import Derived.Test.YtoljdgfbkebgcaaMsHea
import Derived.LoopTactic
import Derived.Test.YtoljdgfbkebgcaaCopy
import Derived.Test.YtoljdgfbkebgcaaMeth
namespace Go.Proofs.Ytoljdgfbkebgcaa
open Go.RowKit
/-- The first bytes of a row of cells, written one by one; the rest is as it was. -/
structure HdrB (cs dd : Array Value) (hd : List Int) (K : Nat) : Prop where
  size : dd.size = cs.size
  len : hd.length = K
  lo : ∀ i, i < K → dd[i]? = some (.int .u8 (hd.getD i 0))
  hi : ∀ i, dd[K + i]? = cs[K + i]?
theorem HdrB.nil (cs : Array Value) : HdrB cs cs [] 0 := ⟨rfl, rfl, fun i hi => by omega, fun i => rfl⟩
theorem HdrB.one {cs dd : Array Value} {hd : List Int} {K : Nat} (h : HdrB cs dd hd K) (hk : K < cs.size) (a : Int) : HdrB cs (dd.setIfInBounds K (.int .u8 a)) (hd ++ [a]) (K + 1) := by
  have hs := h.size
  have hl := h.len
  refine ⟨by simpa using hs, by simp [hl], fun i hi => ?_, fun i => ?_⟩
  · by_cases hik : i = K
    · subst hik
      rw [Array.getElem?_setIfInBounds_self_of_lt (by omega), List.getD_eq_getElem?_getD, List.getElem?_append_right (by omega), hl, Nat.sub_self]
      rfl
    · rw [Array.getElem?_setIfInBounds_ne (by omega), h.lo i (by omega), List.getD_eq_getElem?_getD, List.getD_eq_getElem?_getD, List.getElem?_append_left (by omega)]
  · rw [Array.getElem?_setIfInBounds_ne (by omega), show K + 1 + i = K + (1 + i) by omega]
    exact h.hi (1 + i)
theorem be4_bytes (l : List Int) (hl : By l) (k : Nat) (hk : k + 4 ≤ l.length) : be (sub l k (k + 4)) / 16777216 = l.getD k 0 ∧ be (sub l k (k + 4)) / 65536 % 256 = l.getD (k + 1) 0 ∧ be (sub l k (k + 4)) / 256 % 256 = l.getD (k + 2) 0 ∧ be (sub l k (k + 4)) % 256 = l.getD (k + 3) 0 := by
  have h := be4 (sub l k (k + 4)) (by rw [sub_length _ _ _ hk]; omega)
  rw [sub_getD _ _ _ _ (by omega), sub_getD _ _ _ _ (by omega), sub_getD _ _ _ _ (by omega), sub_getD _ _ _ _ (by omega)] at h
  have h : be (sub l k (k + 4)) = ((l.getD k 0 * 256 + l.getD (k + 1) 0) * 256 + l.getD (k + 2) 0) * 256 + l.getD (k + 3) 0 := h
  have b0 := hl.getD k
  have b1 := hl.getD (k + 1)
  have b2 := hl.getD (k + 2)
  have b3 := hl.getD (k + 3)
  omega
theorem be2_bytes (l : List Int) (hl : By l) (k : Nat) (hk : k + 2 ≤ l.length) : be (sub l k (k + 2)) / 256 = l.getD k 0 ∧ be (sub l k (k + 2)) % 256 = l.getD (k + 1) 0 := by
  have h := be2 (sub l k (k + 2)) (by rw [sub_length _ _ _ hk]; omega)
  rw [sub_getD _ _ _ _ (by omega), sub_getD _ _ _ _ (by omega)] at h
  have h : be (sub l k (k + 2)) = l.getD k 0 * 256 + l.getD (k + 1) 0 := h
  have b0 := hl.getD k
  have b1 := hl.getD (k + 1)
  omega
def MadSac (gx g9 gn on : Nat) (A6 : Option Addr) (j c6 : Nat) (Aa : Option Addr) (ca : Nat) (y : Int) (V : World) : Prop := V.cell? ⟨gx, 11, none⟩ = some (.slice A6 j c6) ∧ V.cell? ⟨g9, 0, none⟩ = some (.slice Aa 2 ca) ∧ V.cell? ⟨gn, on + 1, none⟩ = some (.int .u64 y)
set_option maxHeartbeats 4000000 in
set_option maxRecDepth 100000 in
theorem maSac_any (F : Nat → Prop) (A0 A1 A2 A3 : Option Addr) (c0 c1 q c2 n3 c3 : Nat) (x0 x1 L U Y0 Y1 : Int) (ys : List Int) (w : World) (h : Rd .u64 w A0 8 c0 [x0, x1, L, U, Y0, Y1, 0, (q : Int)]) (b0 : 0 ≤ x0 ∧ x0 ≤ 255) (b1 : 0 ≤ x1 ∧ x1 ≤ 255) (b2 : 0 ≤ L ∧ L ≤ 65535) (b3 : 0 ≤ U ∧ U ≤ 4294967295) (y0 : 0 ≤ Y0 ∧ Y0 ≤ 4294967295) (y1 : 0 ≤ Y1 ∧ Y1 ≤ 4294967295)
    (hP : PartsV F w (.slice A2 q c2) (ys.map fun y => ⟨[1, y], []⟩)) (hnp : ys.length = q) (hn1 : q ≤ 100) (hE : ∀ i, i < q → 0 ≤ ys.getD i 0 ∧ ys.getD i 0 ≤ 4294967295) :
    Calls Try.prog 40 #[.string ⟨#[115, 99, 116, 112, 115, 97, 99, 107]⟩, .agg #[.slice A0 8 c0, .slice A1 0 c1, .slice A2 q c2, .slice A3 n3 c3]] w fun e w' =>
      ∃ gx v B, e = .returned (.iface 115 (.pointer (some ⟨gx, 0, none⟩))) ∧ Bl w w' ∧ Blk w' gx #[.slice none 0 0, .slice none 0 0, .int .u8 x0, .int .u8 x1, .int .u16 L, .int .i64 U, .int .u32 Y0, .int .u32 Y1, .int .u16 0, .int .u16 (q : Nat), .slice none 0 0, v] 119 ∧ gx < B ∧ w.heap.size ≤ B ∧ w'.ownsRow B 23 1 v q (ys.map (Value.int .u32)) := by
  have HP := Lib.hid hP
  have HE := Lib.hid hE
  have HNP := Lib.hid hnp
  have y2 : (0 : Int) ≤ 0 ∧ (0 : Int) ≤ 65535 := by omega
  have y3 : (0 : Int) ≤ (q : Int) ∧ (q : Int) ≤ 65535 := by omega
  clear hP hE hnp
  have H := Lib.hid h
  have HA0 := h.inF
  clear h
  go_enter Try.func40, Try.ntmps40
  go_wp2_with fail
  have B0 : Bl w (((w.alloc (.cells #[.slice A0 8 c0, .slice A1 0 c1, .slice A2 q c2, .slice A3 n3 c3] 35)).alloc (.cells #[.slice A0 8 c0, .slice A1 0 c1, .slice A2 q c2, .slice A3 n3 c3, .int .i64 0, .int .i64 0, .bool false, .bool false] 89)).alloc (.cells #[.slice none 0 0, .slice none 0 0, .int .u8 0, .int .u8 0, .int .u16 0, .int .i64 0, .int .u32 0, .int .u32 0, .int .u16 0, .int .u16 0, .slice none 0 0, .slice none 0 0] 119)) := by go_grown
  have kt0 : Blk (((w.alloc (.cells #[.slice A0 8 c0, .slice A1 0 c1, .slice A2 q c2, .slice A3 n3 c3] 35)).alloc (.cells #[.slice A0 8 c0, .slice A1 0 c1, .slice A2 q c2, .slice A3 n3 c3, .int .i64 0, .int .i64 0, .bool false, .bool false] 89)).alloc (.cells #[.slice none 0 0, .slice none 0 0, .int .u8 0, .int .u8 0, .int .u16 0, .int .i64 0, .int .u32 0, .int .u32 0, .int .u16 0, .int .u16 0, .slice none 0 0, .slice none 0 0] 119)) (w.heap.size + 1) (tkC A0 8 c0 (.slice A1 0 c1) (.slice A2 q c2) (.slice A3 n3 c3) 0 0 false) 89 := (Blk.newAt _ _ _ _ (by simp)).alloc _
  have kx0 : Blk (((w.alloc (.cells #[.slice A0 8 c0, .slice A1 0 c1, .slice A2 q c2, .slice A3 n3 c3] 35)).alloc (.cells #[.slice A0 8 c0, .slice A1 0 c1, .slice A2 q c2, .slice A3 n3 c3, .int .i64 0, .int .i64 0, .bool false, .bool false] 89)).alloc (.cells #[.slice none 0 0, .slice none 0 0, .int .u8 0, .int .u8 0, .int .u16 0, .int .i64 0, .int .u32 0, .int .u32 0, .int .u16 0, .int .u16 0, .slice none 0 0, .slice none 0 0] 119)) (w.heap.size + 1 + 1) #[.slice none 0 0, .slice none 0 0, .int .u8 0, .int .u8 0, .int .u16 0, .int .i64 0, .int .u32 0, .int .u32 0, .int .u16 0, .int .u16 0, .slice none 0 0, .slice none 0 0] 119 := Blk.newAt _ _ _ _ (by simp)
  have HA : Hid (InF (· < w.heap.size + 1) A0 8) := Lib.hid (HA0.mono fun _ h => Nat.lt_of_lt_of_le h (Nat.le_succ _))
  have HN : Hid (InF (· ≠ w.heap.size + 1) A0 8) := Lib.hid (HA0.mono fun _ h => Nat.ne_of_lt (Nat.lt_of_lt_of_le h (Nat.le_succ _)))
  have z0 : w.heap.size ≤ w.heap.size + 1 := Nat.le_succ _
  have zx : w.heap.size + 1 + 1 ≠ w.heap.size + 1 := by omega
  have zxw : w.heap.size ≤ w.heap.size + 1 + 1 := by omega
  have HW := Lib.hid (H.out.below B0)
  clear HA0
  generalize (((w.alloc (.cells #[.slice A0 8 c0, .slice A1 0 c1, .slice A2 q c2, .slice A3 n3 c3] 35)).alloc (.cells #[.slice A0 8 c0, .slice A1 0 c1, .slice A2 q c2, .slice A3 n3 c3, .int .i64 0, .int .i64 0, .bool false, .bool false] 89)).alloc (.cells #[.slice none 0 0, .slice none 0 0, .int .u8 0, .int .u8 0, .int .u16 0, .int .i64 0, .int .u32 0, .int .u32 0, .int .u16 0, .int .u16 0, .slice none 0 0, .slice none 0 0] 119)) = W0 at *
  generalize hgx : w.heap.size + 1 + 1 = gx at *
  generalize hgt : w.heap.size + 1 = gt at *
  (with_reducible refine (chunkT gt A0 8 c0 _ _ _ 0 false _ x0 x1 L U _ kt0 HW.out HA.out (by omega) (by omega) rfl rfl rfl rfl b0 b1 b2 b3).mono ?_)
  rintro e w1 ⟨rfl, ch1, kt1⟩
  have kx1 := kx0.chg ch1 zx
  have X1 := ch1
  have HW1 := Lib.hid (HW.out.chg ch1 HN.out)
  have cx := kx1.cell
  have fx := kx1.frozen
  have zx1 := kx1.lt
  have KT := Lib.hid kt1
  have KX := Lib.hid kx1
  clear kt0 kx0 kt1 kx1 ch1
  go_wp2_with fail
  have S1 : Chg gx w1 ((((((w1.setCell ⟨gx, 0, none⟩ (.slice none 0 0)).setCell ⟨gx, 1, none⟩ (.slice none 0 0)).setCell ⟨gx, 2, none⟩ (.int .u8 x0)).setCell ⟨gx, 3, none⟩ (.int .u8 x1)).setCell ⟨gx, 4, none⟩ (.int .u16 L)).setCell ⟨gx, 5, none⟩ (.int .i64 U)) := ((((((Chg.refl gx _).set 0 (.slice none 0 0)).set 1 (.slice none 0 0)).set 2 (.int .u8 x0)).set 3 (.int .u8 x1)).set 4 (.int .u16 L)).set 5 (.int .i64 U)
  have kx1' := ((((((KX.out.set 0 (.slice none 0 0)).set 1 (.slice none 0 0)).set 2 (.int .u8 x0)).set 3 (.int .u8 x1)).set 4 (.int .u16 L)).set 5 (.int .i64 U))
  have kt1' := ((((((KT.out.far (p := ⟨gx, 0, none⟩) (Ne.symm zx) (.slice none 0 0)).far (p := ⟨gx, 1, none⟩) (Ne.symm zx) (.slice none 0 0)).far (p := ⟨gx, 2, none⟩) (Ne.symm zx) (.int .u8 x0)).far (p := ⟨gx, 3, none⟩) (Ne.symm zx) (.int .u8 x1)).far (p := ⟨gx, 4, none⟩) (Ne.symm zx) (.int .u16 L)).far (p := ⟨gx, 5, none⟩) (Ne.symm zx) (.int .i64 U))
  have HW1' := Lib.hid (HW1.out.chg S1 (HA.out.mono fun _ h => by omega))
  have B1 : Bl w ((((((w1.setCell ⟨gx, 0, none⟩ (.slice none 0 0)).setCell ⟨gx, 1, none⟩ (.slice none 0 0)).setCell ⟨gx, 2, none⟩ (.int .u8 x0)).setCell ⟨gx, 3, none⟩ (.int .u8 x1)).setCell ⟨gx, 4, none⟩ (.int .u16 L)).setCell ⟨gx, 5, none⟩ (.int .i64 U)) := S1.bl (X1.bl B0 z0) zxw
  clear cx fx zx1
  generalize ((((((w1.setCell ⟨gx, 0, none⟩ (.slice none 0 0)).setCell ⟨gx, 1, none⟩ (.slice none 0 0)).setCell ⟨gx, 2, none⟩ (.int .u8 x0)).setCell ⟨gx, 3, none⟩ (.int .u8 x1)).setCell ⟨gx, 4, none⟩ (.int .u16 L)).setCell ⟨gx, 5, none⟩ (.int .i64 U)) = V1 at *
  (with_reducible refine (take32 gt A0 8 c0 _ _ _ 4 _ 0 false _ Y0 _ kt1' HW1'.out HN.out (by simp) (by omega) (by omega) rfl y0.1 y0.2).mono ?_)
  rintro e w2 ⟨rfl, X2, kt2⟩
  have kx2 := kx1'.chg X2 zx
  have HW2 := Lib.hid (HW1'.out.chg X2 HN.out)
  have cx := kx2.cell
  have fx := kx2.frozen
  have zx1 := kx2.lt
  have KT := Lib.hid kt2
  have KX := Lib.hid kx2
  clear kt2 kx2 kt1' kx1' S1
  go_wp2_with fail
  have S2 : Chg gx w2 (w2.setCell ⟨gx, 6, none⟩ (.int .u32 Y0)) := (Chg.refl gx _).set 6 (.int .u32 Y0)
  have kx2' := (KX.out.set 6 (.int .u32 Y0))
  have kt2' := (KT.out.far (p := ⟨gx, 6, none⟩) (Ne.symm zx) (.int .u32 Y0))
  have HW2' := Lib.hid (HW2.out.chg S2 (HA.out.mono fun _ h => by omega))
  have B2 : Bl w (w2.setCell ⟨gx, 6, none⟩ (.int .u32 Y0)) := S2.bl (X2.bl B1 z0) zxw
  clear cx fx zx1
  generalize (w2.setCell ⟨gx, 6, none⟩ (.int .u32 Y0)) = V2 at *
  (with_reducible refine (take32 gt A0 8 c0 _ _ _ 5 _ 0 false _ Y1 _ kt2' HW2'.out HN.out (by simp) (by omega) (by omega) rfl y1.1 y1.2).mono ?_)
  rintro e w3 ⟨rfl, X3, kt3⟩
  have kx3 := kx2'.chg X3 zx
  have HW3 := Lib.hid (HW2'.out.chg X3 HN.out)
  have cx := kx3.cell
  have fx := kx3.frozen
  have zx1 := kx3.lt
  have KT := Lib.hid kt3
  have KX := Lib.hid kx3
  clear kt3 kx3 kt2' kx2' S2
  go_wp2_with fail
  have S3 : Chg gx w3 (w3.setCell ⟨gx, 7, none⟩ (.int .u32 Y1)) := (Chg.refl gx _).set 7 (.int .u32 Y1)
  have kx3' := (KX.out.set 7 (.int .u32 Y1))
  have kt3' := (KT.out.far (p := ⟨gx, 7, none⟩) (Ne.symm zx) (.int .u32 Y1))
  have HW3' := Lib.hid (HW3.out.chg S3 (HA.out.mono fun _ h => by omega))
  have B3 : Bl w (w3.setCell ⟨gx, 7, none⟩ (.int .u32 Y1)) := S3.bl (X3.bl B2 z0) zxw
  clear cx fx zx1
  generalize (w3.setCell ⟨gx, 7, none⟩ (.int .u32 Y1)) = V3 at *
  (with_reducible refine (take16 gt A0 8 c0 _ _ _ 6 _ 0 false _ 0 _ kt3' HW3'.out HN.out (by simp) (by omega) (by omega) rfl y2.1 y2.2).mono ?_)
  rintro e w4 ⟨rfl, X4, kt4⟩
  have kx4 := kx3'.chg X4 zx
  have HW4 := Lib.hid (HW3'.out.chg X4 HN.out)
  have cx := kx4.cell
  have fx := kx4.frozen
  have zx1 := kx4.lt
  have KT := Lib.hid kt4
  have KX := Lib.hid kx4
  clear kt4 kx4 kt3' kx3' S3
  go_wp2_with fail
  have S4 : Chg gx w4 (w4.setCell ⟨gx, 8, none⟩ (.int .u16 0)) := (Chg.refl gx _).set 8 (.int .u16 0)
  have kx4' := (KX.out.set 8 (.int .u16 0))
  have kt4' := (KT.out.far (p := ⟨gx, 8, none⟩) (Ne.symm zx) (.int .u16 0))
  have HW4' := Lib.hid (HW4.out.chg S4 (HA.out.mono fun _ h => by omega))
  have B4 : Bl w (w4.setCell ⟨gx, 8, none⟩ (.int .u16 0)) := S4.bl (X4.bl B3 z0) zxw
  clear cx fx zx1
  generalize (w4.setCell ⟨gx, 8, none⟩ (.int .u16 0)) = V4 at *
  (with_reducible refine (take16 gt A0 8 c0 _ _ _ 7 _ 0 false _ (q : Int) _ kt4' HW4'.out HN.out (by simp) (by omega) (by omega) rfl y3.1 y3.2).mono ?_)
  rintro e w5 ⟨rfl, X5, kt5⟩
  have kx5 := kx4'.chg X5 zx
  have HW5 := Lib.hid (HW4'.out.chg X5 HN.out)
  have cx := kx5.cell
  have fx := kx5.frozen
  have zx1 := kx5.lt
  have KT := Lib.hid kt5
  have KX := Lib.hid kx5
  clear kt5 kx5 kt4' kx4' S4
  go_wp2_with fail
  have S5 : Chg gx w5 (w5.setCell ⟨gx, 9, none⟩ (.int .u16 (q : Nat))) := (Chg.refl gx _).set 9 (.int .u16 (q : Nat))
  have kx5' := (KX.out.set 9 (.int .u16 (q : Nat)))
  have kt5' := (KT.out.far (p := ⟨gx, 9, none⟩) (Ne.symm zx) (.int .u16 (q : Nat)))
  have HW5' := Lib.hid (HW5.out.chg S5 (HA.out.mono fun _ h => by omega))
  have B5 : Bl w (w5.setCell ⟨gx, 9, none⟩ (.int .u16 (q : Nat))) := S5.bl (X5.bl B4 z0) zxw
  clear cx fx zx1
  generalize (w5.setCell ⟨gx, 9, none⟩ (.int .u16 (q : Nat))) = V5 at *
  (with_reducible refine (partsT gt A0 A2 8 c0 q c2 _ _ _ _ _ _ kt5').mono ?_)
  rintro e w2 ⟨rfl, ch2, kt2⟩
  have kx2' := kx5'.chg ch2 zx
  simp only [List.setIfInBounds_toArray, List.set_cons_zero, List.set_cons_succ] at kx2'
  have kx2 : Blk w2 gx #[.slice none 0 0, .slice none 0 0, .int .u8 x0, .int .u8 x1, .int .u16 L, .int .i64 U, .int .u32 Y0, .int .u32 Y1, .int .u16 0, .int .u16 (q : Nat), .slice none 0 0, .slice none 0 0] 119 := kx2'
  have B2 : Bl w w2 := ch2.bl B5 z0
  have zx2 := kx2.lt
  have zt2 := kt2.lt
  clear kt5' kx5' ch2 B5 HW5' kx2' S5
  go_wp2_with fail
  have hzz := B2.size
  go_loopw [217] (fun i wr => Hid (∃ (j : Nat) (v : Value), j ≤ q ∧ i = .int .i64 j ∧ Bl w wr ∧ w2.heap.size ≤ wr.heap.size ∧ Blk wr gt (tkC A0 8 c0 (.slice A1 0 c1) (.slice A2 q c2) (.slice A3 n3 c3) (4 + 1 + 1 + 1 + 1) 0 true) 89 ∧ Blk wr gx #[.slice none 0 0, .slice none 0 0, .int .u8 x0, .int .u8 x1, .int .u16 L, .int .i64 U, .int .u32 Y0, .int .u32 Y1, .int .u16 0, .int .u16 (q : Nat), .slice none 0 0, v] 119 ∧ v.ownBlock ≠ some gx ∧ wr.ownsRow w2.heap.size 23 1 v j ((ys.take j).map (Value.int .u32)))) (fun i _ => q - (intOf i).toNat)
  case atStart => exact Lib.hid ⟨0, .slice none 0 0, by omega, rfl, B2, Nat.le_refl _, kt2, kx2, by simp [Value.ownBlock], by simpa using World.ownsRow_nil _ _ _ _⟩
  case round =>
    obtain ⟨j, v, hj, rfl, hb, hsz, ktr, kxr, hvg, hdr⟩ := hrel.out
    clear hrel kt2 kx2
    obtain ⟨A6, c6, rfl⟩ := ownsRow_form hdr
    have HDR := Lib.hid hdr
    have HKT := Lib.hid ktr
    have HKX := Lib.hid kxr
    have HB := Lib.hid hb
    by_cases hjq : j = q
    · clear hdr ktr kxr hb
      go_wp2_with fail
      (with_reducible refine (wholeT gt A0 A1 A2 8 c0 0 c1 q c2 _ _ _ true _ HKT.out (by simp) (by simp) (.inl rfl)).mono ?_)
      rintro e w9 ⟨rfl, qd, rfl⟩
      go_wp2_with fail
      go_ret
      have hpt : ys.take q = ys := by rw [← HNP.out]; exact List.take_length
      have HPP := HDR.out
      rw [hjq, hpt] at HPP
      have HKX' := HKX.out
      rw [hjq] at HKX'
      exact ⟨gx, _, w2.heap.size, rfl, Bl.drewN HB.out qd, HKX'.same rfl, zx2, hzz, own_same HPP rfl⟩
    · have hjq' : (j : Int) < (q : Int) := by omega
      obtain ⟨Ap, cp, ep, _, _, hel⟩ := HP.out
      obtain ⟨g, o, u0, u1, hA, e0, e1, hv0, hv1⟩ := hel j (by rw [List.length_map]; have := HNP.out; omega)
      have hyb := HE.out j (by omega)
      have hge : (ys.map fun y => (⟨[1, y], []⟩ : Prt)).getD j Prt.nil = ⟨[1, ys.getD j 0], []⟩ := by
        have := HNP.out
        simp [List.getD_eq_getElem?_getD, List.getElem?_eq_getElem (show j < ys.length by omega)]
      rw [hge] at hv0 hv1
      have hts : ys.take j ++ [ys.getD j 0] = ys.take (j + 1) := by
        have := HNP.out
        rw [List.take_add_one, List.getElem?_eq_getElem (by omega)]
        simp [List.getD_eq_getElem?_getD, List.getElem?_eq_getElem (show j < ys.length by omega)]
      have HTS := Lib.hid hts
      generalize ys.getD j 0 = y at *
      obtain ⟨Aa, ca, rfl, _, ru'⟩ := hv0
      have ru : Rd .u64 w Aa 2 ca [1, y] := ru'
      obtain ⟨⟨Ab, cb, rfl, _, rb⟩, hby⟩ := hv1
      simp at ep
      obtain ⟨rfl, hnp', rfl⟩ := ep
      obtain ⟨gn, on, rfl, hgn, hcn⟩ := ru.at (by omega)
      have d0 := Bl.keeps hb e0
      have d1 := Bl.keeps hb e1
      have d2 : wr.cell? ⟨gn, on, none⟩ = some (.int .u64 1) := (hb.cell (p := ⟨gn, on, none⟩) hgn).trans (hcn 0 (by omega))
      have d3 : wr.cell? ⟨gn, on + 1, none⟩ = some (.int .u64 y) := (hb.cell (p := ⟨gn, on + 1, none⟩) hgn).trans (hcn 1 (by omega))
      have hgnr : gn < wr.heap.size := Nat.lt_of_lt_of_le hgn hb.size
      subst hA
      have hownr : ∀ k, (Value.slice A6 j c6).ownBlock = some k → w2.heap.size ≤ k ∧ k < wr.heap.size := fun k hk => HDR.out.lt k hk
      have D3 := Lib.hid d3
      have hgw2 : gn < w2.heap.size := by omega
      clear hdr ktr kxr hb hel e0 e1 ru' ru rb hby hnp' hge hts hcn
      have hy2 : y ≤ 4294967295 := hyb.2
      go_wp2_with fail
      have B5 : Bl wr (wr.alloc (.cells #[.slice (some ⟨gn, on, none⟩) 2 ca, .slice Ab 0 cb] 57)) := by go_grown
      have kp : Blk (wr.alloc (.cells #[.slice (some ⟨gn, on, none⟩) 2 ca, .slice Ab 0 cb] 57)) wr.heap.size #[.slice (some ⟨gn, on, none⟩) 2 ca, .slice Ab 0 cb] 57 := Blk.new _ _ _
      have kx5 := Blk.keep B5 HKX.out
      have kt5 := Blk.keep B5 HKT.out
      have hdr5 := Lib.hid (own_bl HDR.out B5)
      have d5 := Bl.keeps B5 D3.out
      have HB5 := Lib.hid (HB.out.trans B5)
      have hz7 : w2.heap.size ≤ (wr.alloc (.cells #[.slice (some ⟨gn, on, none⟩) 2 ca, .slice Ab 0 cb] 57)).heap.size := by simp; omega
      clear HDR HKX HKT HB d0 d1 d2 d3 D3
      generalize hAa : (some (⟨gn, on, none⟩ : Addr)) = Aa at *
      generalize hg9 : wr.heap.size = g9 at *
      generalize wr.alloc (.cells #[.slice Aa 2 ca, .slice Ab 0 cb] 57) = W5 at *
      subst hAa
      have q0 : ∀ p : HoldT (MadSac gx g9 gn on A6 j c6 (some ⟨gn, on, none⟩) ca y), p.val.cell? ⟨gx, 11, none⟩ = some (.slice A6 j c6) := fun p => p.ok.1
      have q1 : ∀ p : HoldT (MadSac gx g9 gn on A6 j c6 (some ⟨gn, on, none⟩) ca y), p.val.cell? ⟨g9, 0, none⟩ = some (.slice (some ⟨gn, on, none⟩) 2 ca) := fun p => p.ok.2.1
      have q2 : ∀ p : HoldT (MadSac gx g9 gn on A6 j c6 (some ⟨gn, on, none⟩) ca y), p.val.cell? ⟨gn, on + 1, none⟩ = some (.int .u64 y) := fun p => p.ok.2.2
      have mk : ∀ {V : World}, Blk V gx #[.slice none 0 0, .slice none 0 0, .int .u8 x0, .int .u8 x1, .int .u16 L, .int .i64 U, .int .u32 Y0, .int .u32 Y1, .int .u16 0, .int .u16 (q : Nat), .slice none 0 0, .slice A6 j c6] 119 → Blk V g9 #[.slice (some ⟨gn, on, none⟩) 2 ca, .slice Ab 0 cb] 57 → V.cell? ⟨gn, on + 1, none⟩ = some (.int .u64 y) → HoldS (MadSac gx g9 gn on A6 j c6 (some ⟨gn, on, none⟩) ca y) V := fun k1 k2 k3 => HoldS.of ⟨k1.cell 11, k2.cell 0, k3⟩
      haveI hne9 : Nonempty (HoldT (MadSac gx g9 gn on A6 j c6 (some ⟨gn, on, none⟩) ca y)) := ⟨⟨W5, kx5.cell 11, kp.cell 0, d5⟩⟩
      refine wp_region_float (S := HoldS (MadSac gx g9 gn on A6 j c6 (some ⟨gn, on, none⟩) ca y)) [true, true, true, true, true, true, true, true, true, true, false, false, false, false, false] 12 (by kernel_rfl) (by kernel_rfl) (mk (kx5.same rfl) (kp.same rfl) d5) ?_
      simp only [selQ, selN, earlyN]
      repeat (first | go_big_quiet_skip | (go_big_quiet_want; go_big_quiet_op; go_big_quiet_on))
      refine wpQuiet_nil ?_
      clear q0 q1 q2
      refine wpN_want rfl (fun K hK => ?_)
      go_big_op
      have B8 : Bl W5 (W5.alloc (.cells #[.int .u32 y] 23)).drew := ((Bl.refl W5).trans (by go_grown)).drew
      have kn8 : Blk (W5.alloc (.cells #[.int .u32 y] 23)).drew W5.heap.size #[.int .u32 y] 23 := (Blk.new W5 _ _).same rfl
      refine hK _ _ (mk (Blk.keep B8 kx5) (Blk.keep B8 kp) (Bl.keeps B8 d5)) ?_
      clear hK K
      refine wpN_if rfl (fun K hK => ?_)
      have ho6 := own_bl hdr5.out B8
      have kx8 := Blk.keep B8 kx5
      have kp8 := Blk.keep B8 kp
      have kt8 := Blk.keep B8 kt5
      have d8 := Bl.keeps B8 d5
      have hz8 := B8.size
      have HB8 := Lib.hid (HB5.out.trans B8)
      generalize (W5.alloc (.cells #[.int .u32 y] 23)).drew = W8 at *
      refine step_app rfl _ _ 117 23 (.int .u32 0) 1 4 w2.heap.size rfl ud117 info23 rfl (by decide) (by decide) (.slice A6 j c6) j _ (some ⟨W5.heap.size, 0, none⟩) 1 1 [.int .u32 y] rfl rfl ho6 (Blk.src kn8 1 1 rfl (fun u hu => by simp at hu; subst hu; rfl)) (by omega) (by omega) ?_
      intro A9 c9 w9 hp
      have kx9 := hp.blk kx8 hvg
      have kt9 := hp.blk kt8 (fun e => by have := hownr _ e; omega)
      have kp9 := hp.blk kp8 (fun e => by have := hownr _ e; omega)
      have hz5g : gn < W8.heap.size := by omega
      have d9 : w9.cell? ⟨gn, on + 1, none⟩ = some (.int .u64 y) := (World.cell?_of_block (a := ⟨gn, on + 1, none⟩) (hp.grown.block gn hz5g (fun e => by have := hownr _ e.symm; omega))).trans d8
      refine hK _ _ (mk kx9 kp9 d9) ?_
      clear hK K
      have B9 : Bl w w9 := Below.grown HB8.out hp.grown HB8.out.size (fun k hk => by have := hownr _ hk; omega)
      have hne8 : (Value.slice A9 (j + 1) c9).ownBlock ≠ some gx := by
        rcases hp.at_ with e | e
        · rw [e]; exact hvg
        · rw [e]; intro e2; simp at e2; have := kx8.lt; omega
      have hzw : W8.heap.size ≤ w9.heap.size := hp.grown.size
      have ho9 := own_set hp.own kx9 (by decide) 11 (.slice A9 (j + 1) c9)
      have e9 : (ys.take j).map (Value.int .u32) ++ [.int .u32 y] = (ys.take (j + 1)).map (Value.int .u32) := by rw [← HTS.out, List.map_append]; rfl
      rw [e9] at ho9
      have HDB := Lib.hid ho9
      have cg := kx9.cell
      have fg := kx9.frozen
      have zg := kx9.lt
      clear ho9 ho6 hp mk hne9 kx8 kp8 kt8 kx5 kp kt5 hdr5 kp9 kn8 d8 d9 d5
      refine wpN_late ?_
      go_wp2_with fail
      refine NoPanic.normal ?_
      go_wp2_with fail
      have k9 := kx9.set 11 (.slice A9 (j + 1) c9)
      simp only [List.setIfInBounds_toArray, List.set_cons_zero, List.set_cons_succ] at k9
      have kt10 := kt9.far (p := ⟨gx, 11, none⟩) (Ne.symm zx) (.slice A9 (j + 1) c9)
      have B10 : Bl w (w9.setCell ⟨gx, 11, none⟩ (.slice A9 (j + 1) c9)) := Below.setCell B9 zxw _
      have hz9 : w2.heap.size ≤ (w9.setCell ⟨gx, 11, none⟩ (.slice A9 (j + 1) c9)).heap.size := by simp; omega
      exact ⟨Lib.hid ⟨j + 1, .slice A9 (j + 1) c9, by omega, by simp, B10, hz9, kt10, k9, hne8, HDB.out⟩, by simp [intOf]; omega⟩
end Go.Proofs.Ytoljdgfbkebgcaa
namespace Go.Proofs.Ytoljdgfbkebgcaa
open Go.RowKit
set_option maxHeartbeats 1000000 in
theorem put32g (h o m c : Nat) (x : Int) (cs : Array Value) (w : World) (k : Blk w h cs 5) (h4 : 4 ≤ m) (ho : o + 4 ≤ cs.size) (b : 0 ≤ x ∧ x ≤ 4294967295) :
    Calls Try.prog 114 #[.agg #[], .slice (some ⟨h, o, none⟩) m c, .int .u32 x] w fun e w' => e = .returned (.tuple #[]) ∧ Chg h w w' ∧ Blk w' h ((((cs.setIfInBounds o (.int .u8 (x / 16777216))).setIfInBounds (o + 1) (.int .u8 (x / 65536 % 256))).setIfInBounds (o + 2) (.int .u8 (x / 256 % 256))).setIfInBounds (o + 3) (.int .u8 (x % 256))) 5 := by
  have kc := k.cell
  have kf := k.frozen
  have kz := k.lt
  obtain ⟨u0, e0⟩ : ∃ u, cs[o]? = some u := ⟨_, Array.getElem?_eq_getElem (by omega)⟩
  have c0 : w.cell? ⟨h, o, none⟩ = some u0 := (kc o).trans e0
  have f0 := kf o
  obtain ⟨u1, e1⟩ : ∃ u, cs[o + 1]? = some u := ⟨_, Array.getElem?_eq_getElem (by omega)⟩
  have c1 : w.cell? ⟨h, o + 1, none⟩ = some u1 := (kc (o + 1)).trans e1
  have f1 := kf (o + 1)
  obtain ⟨u2, e2⟩ : ∃ u, cs[o + 2]? = some u := ⟨_, Array.getElem?_eq_getElem (by omega)⟩
  have c2 : w.cell? ⟨h, o + 2, none⟩ = some u2 := (kc (o + 2)).trans e2
  have f2 := kf (o + 2)
  obtain ⟨u3, e3⟩ : ∃ u, cs[o + 3]? = some u := ⟨_, Array.getElem?_eq_getElem (by omega)⟩
  have c3 : w.cell? ⟨h, o + 3, none⟩ = some u3 := (kc (o + 3)).trans e3
  have f3 := kf (o + 3)
  have K := Lib.hid k
  clear kc kf k e0 e1 e2 e3
  go_enter Try.func114, Try.ntmps114
  go_wp2_with fail
  go_end0
  refine ⟨rfl, (((((Chg.refl h w).set o _).set (o + 1) _).set (o + 2) _).set (o + 3) _).trans (Chg.of (by go_grown)), ?_⟩
  exact (((((K.out).set o _).set (o + 1) _).set (o + 2) _).set (o + 3) _).alloc _
/-- The bytes of numbers of four bytes. -/
def quadB (y : Int) : List Int := [y / 16777216, y / 65536 % 256, y / 256 % 256, y % 256]
def quads (ys : List Int) : List Int := (ys.map quadB).flatten
theorem quads_succ (ys : List Int) (j : Nat) (h : j < ys.length) : quads (ys.take (j + 1)) = quads (ys.take j) ++ quadB (ys.getD j 0) := by
  unfold quads
  have e : ys.getD j 0 = ys[j] := by simp [List.getD_eq_getElem?_getD, List.getElem?_eq_getElem h]
  rw [List.take_add_one, List.getElem?_eq_getElem h, List.map_append, List.flatten_append, e]
  simp only [Option.toList_some, List.map_cons, List.map_nil, List.flatten_cons, List.flatten_nil, List.append_nil]
/-- The first sixteen bytes of a chunk that acknowledges. -/
def sacB (x0 x1 M Y0 Y1 Q : Int) : List Int :=
  [x0, x1, M / 256, M % 256, Y0 / 16777216, Y0 / 65536 % 256, Y0 / 256 % 256, Y0 % 256, Y1 / 16777216, Y1 / 65536 % 256, Y1 / 256 % 256, Y1 % 256, 0, 0, Q / 256, Q % 256]
theorem HdrB.four {cs dd : Array Value} {hd : List Int} {K : Nat} (h : HdrB cs dd hd K) (hk : K + 4 ≤ cs.size) (y : Int) : HdrB cs ((((dd.setIfInBounds K (.int .u8 (y / 16777216))).setIfInBounds (K + 1) (.int .u8 (y / 65536 % 256))).setIfInBounds (K + 2) (.int .u8 (y / 256 % 256))).setIfInBounds (K + 3) (.int .u8 (y % 256))) (hd ++ quadB y) (K + 4) := by
  have := (((h.one (by omega) (y / 16777216)).one (by omega) (y / 65536 % 256)).one (by omega) (y / 256 % 256)).one (by omega) (y % 256)
  simpa [quadB, List.append_assoc] using this
set_option maxHeartbeats 4000000 in
set_option maxRecDepth 100000 in
theorem seSac_any (gb : Nat) (A : Option Addr) (n c : Nat) (app : Int) (l : List Int) (x0 x1 L U Y0 Y1 : Int) (Av : Option Addr) (q cv : Nat) (B : Nat) (ys : List Int) (o1 o2 : Bool) (w : World) (kb : Blk w gb (bfC A n c 0 app) 144) (h : Rd .u8 w A n c l) (hA : InF (· ≠ gb) A n) (hc : c ≤ 100000) (b0 : 0 ≤ x0 ∧ x0 ≤ 255) (b1 : 0 ≤ x1 ∧ x1 ≤ 255) (y0 : 0 ≤ Y0 ∧ Y0 ≤ 4294967295) (y1 : 0 ≤ Y1 ∧ Y1 ≤ 4294967295) (hd : w.ownsRow B 23 1 (.slice Av q cv) q (ys.map (Value.int .u32))) (hdg : (Value.slice Av q cv).ownBlock ≠ some gb) (hq1 : q ≤ 100) (hE : ∀ i, i < q → 0 ≤ ys.getD i 0 ∧ ys.getD i 0 ≤ 4294967295) :
    Calls Try.prog 123 #[.agg #[.slice none 0 0, .slice none 0 0, .int .u8 x0, .int .u8 x1, .int .u16 L, .int .i64 U, .int .u32 Y0, .int .u32 Y1, .int .u16 0, .int .u16 (q : Nat), .slice none 0 0, .slice Av q cv], .iface 141 (.pointer (some ⟨gb, 0, none⟩)), .agg #[.bool o1, .bool o2]] w fun e w' =>
      ∃ h', e = .returned .nilIface ∧ w.heap.size ≤ h' ∧ Chg gb w w' ∧ Blk w' gb (bfC (some ⟨h', 0, none⟩) (16 + 4 * q + n) (c + (16 + 4 * q)) (16 + 4 * q : Nat) app) 144 ∧ Rd .u8 w' (some ⟨h', 0, none⟩) (16 + 4 * q + n) (c + (16 + 4 * q)) ((sacB x0 x1 (16 + 4 * (q : Int)) Y0 Y1 (q : Int) ++ quads ys) ++ l) := by
  have H := Lib.hid h
  have HA := Lib.hid hA
  have K := Lib.hid kb
  have HDW := Lib.hid hd
  have HE := Lib.hid hE
  have hcap := h.cap
  have hl := h.len
  have kz := kb.lt
  have hyl : ys.length = q := by have := hd.1; simpa using this
  have HYL := Lib.hid hyl
  obtain ⟨Ay, cy, ey, hry⟩ := own_rd hd
  simp at ey
  obtain ⟨rfl, rfl⟩ := ey
  have HRY := Lib.hid hry
  have HIY : Hid (InF (· ≠ gb) Av q) := Lib.hid (fun hn x hx e => by
    rcases hd.2 with ⟨h1, _⟩ | ⟨g, cap, cur, h1, _⟩
    · simp at h1
      omega
    · simp at h1
      apply hdg
      have h2 : some x = some (⟨g, 0, none⟩ : Addr) := hx.symm.trans h1.1
      have h3 : x = ⟨g, 0, none⟩ := Option.some.inj h2
      rw [h1.1, ← e, h3]
      simp [Value.ownBlock])
  have e2 : ((16 : Int) + 4 * q + 3) / 4 * 4 = (16 : Int) + 4 * q := by omega
  obtain ⟨k, hk⟩ : ∃ k, k = 16 + 4 * q := ⟨_, rfl⟩
  rw [← hk]
  have hU16 : 16 ≤ k ∧ k ≤ 416 := by omega
  have HK := Lib.hid hk
  have HKI : Hid ((16 : Int) + 4 * q = (k : Int)) := Lib.hid (by omega)
  have HE2 := Lib.hid e2
  clear hk h hA kb hd hE hyl hry hdg e2
  go_enter Try.func123, Try.ntmps123
  go_wp2_with fail
  have B0 : Bl w ((w.alloc (.cells #[.slice none 0 0, .slice none 0 0, .int .u8 x0, .int .u8 x1, .int .u16 L, .int .i64 U, .int .u32 Y0, .int .u32 Y1, .int .u16 0, .int .u16 (q : Nat), .slice none 0 0, .slice Av q cv] 119)).alloc (.cells #[.bool o1, .bool o2] 71)) := by go_grown
  have ks : Blk ((w.alloc (.cells #[.slice none 0 0, .slice none 0 0, .int .u8 x0, .int .u8 x1, .int .u16 L, .int .i64 U, .int .u32 Y0, .int .u32 Y1, .int .u16 0, .int .u16 (q : Nat), .slice none 0 0, .slice Av q cv] 119)).alloc (.cells #[.bool o1, .bool o2] 71)) w.heap.size #[.slice none 0 0, .slice none 0 0, .int .u8 x0, .int .u8 x1, .int .u16 L, .int .i64 U, .int .u32 Y0, .int .u32 Y1, .int .u16 0, .int .u16 (q : Nat), .slice none 0 0, .slice Av q cv] 119 := (Blk.new w _ _).alloc _
  generalize hW : ((w.alloc (.cells #[.slice none 0 0, .slice none 0 0, .int .u8 x0, .int .u8 x1, .int .u16 L, .int .i64 U, .int .u32 Y0, .int .u32 Y1, .int .u16 0, .int .u16 (q : Nat), .slice none 0 0, .slice Av q cv] 119)).alloc (.cells #[.bool o1, .bool o2] 71)) = W at *
  have hgs : w.heap.size ≠ gb := Nat.ne_of_gt kz
  have hgW : w.heap.size < W.heap.size := ks.lt
  clear hW
  have hna := nilPre ⟨gb, 0, none⟩
  have B0' : Bl w W.drew := B0.drew
  go_region_with (first
    | (go_at_call 93; (with_reducible refine (round_any _ (by omega) (by omega) _).mono ?_); rintro e w1 ⟨rfl, rfl⟩; rw [HE2.out])
    | (go_at_call 140; (with_reducible refine (prependB gb A n c k _ app l W.drew (K.out.below B0') (H.out.below B0') HA.out HKI.out (by omega) (by omega) hc).mono ?_); rintro e w1 ⟨rfl, ch1, kb1, kd1⟩))
  all_goals
    have X1 : Chg gb w w1 := (Chg.of B0').trans ch1
    have ks1 := (ks.same (w' := W.drew) rfl).chg ch1 hgs
    have hgh : W.heap.size ≠ gb := by omega
    have hgh2 : w.heap.size ≠ W.heap.size := by omega
    have hle : w.heap.size ≤ W.heap.size := by omega
    have hsz := splice_size c k n l hl hcap
    have kd1' : Blk w1 W.heap.size (splice (zs (c + k)).toList k (l.map (Value.int .u8))).toArray 5 := kd1
    have kb1' : Blk w1 gb (bfC (some ⟨W.heap.size, 0, none⟩) (k + n) (c + k) k app) 144 := kb1
    generalize hcs : (splice (zs (c + k)).toList k (l.map (Value.int .u8))).toArray = cs at *
    have HCS := Lib.hid hcs
    obtain ⟨u0, e0⟩ : ∃ u, cs[0]? = some u := ⟨_, Array.getElem?_eq_getElem (by omega)⟩
    obtain ⟨u1, e1⟩ : ∃ u, cs[1]? = some u := ⟨_, Array.getElem?_eq_getElem (by omega)⟩
    have c0 : w1.cell? ⟨W.heap.size, 0, none⟩ = some u0 := (kd1'.cell 0).trans e0
    have c1 : w1.cell? ⟨W.heap.size, 1, none⟩ = some u1 := (kd1'.cell 1).trans e1
    have f0 := kd1'.frozen 0
    have f1 := kd1'.frozen 1
    have cs1 := ks1.cell
    have zs1 := ks1.lt
    have zd1 := kd1'.lt
    have KB1 := Lib.hid kb1'
    have KD1 := Lib.hid kd1'
    have KS1 := Lib.hid ks1
    clear kb1 kd1 kb1' kd1' ks1 hcs e0 e1 ks ch1
    generalize W.heap.size = h' at *
    go_wp2_with fail
    have X2 : Chg gb w ((w1.setCell ⟨h', 0, none⟩ (.int .u8 x0)).setCell ⟨h', 1, none⟩ (.int .u8 x1)) := (X1.new (p := ⟨h', 0, none⟩) hle _).new (p := ⟨h', 1, none⟩) hle _
    have kd2 := (KD1.out.set 0 (.int .u8 x0)).set 1 (.int .u8 x1)
    have kb2 := (KB1.out.far (p := ⟨h', 0, none⟩) (Ne.symm hgh) (.int .u8 x0)).far (p := ⟨h', 1, none⟩) (Ne.symm hgh) (.int .u8 x1)
    have ks2 := (KS1.out.far (p := ⟨h', 0, none⟩) hgh2 (.int .u8 x0)).far (p := ⟨h', 1, none⟩) hgh2 (.int .u8 x1)
    clear c0 c1 f0 f1 cs1 zs1 zd1
    generalize ((w1.setCell ⟨h', 0, none⟩ (.int .u8 x0)).setCell ⟨h', 1, none⟩ (.int .u8 x1)) = W0 at *
    have s0 := run_cut (some ⟨h', 0, none⟩) k (c + k) 2 4 2 4 rfl rfl (by omega) (by omega) 24 Try.underlying24 size5
    have sa0 : cutA (some ⟨h', 0, none⟩) (c + k) 2 = some ⟨h', 2, none⟩ := by unfold cutA; rw [if_neg (by omega)]; rfl
    rw [sa0] at s0
    have hcsz : 16 ≤ cs.size := by omega
    have hdb0 : HdrB cs ((cs.setIfInBounds 0 (.int .u8 x0)).setIfInBounds 1 (.int .u8 x1)) [x0, x1] 2 := ((HdrB.nil cs).one (by omega) x0).one (by omega) x1
    generalize ((cs.setIfInBounds 0 (.int .u8 x0)).setIfInBounds 1 (.int .u8 x1)) = d0 at *
    have hsz0 := hdb0.size
    refine wp_region_float (S := Grw W0) [true, true, true, true, true, false] 5 (by kernel_rfl) (by kernel_rfl) (Grw.drew W0) ?_
    simp only [selQ, selN, earlyN]
    repeat (first | go_big_quiet_skip | (go_big_quiet_want; go_big_quiet_op; go_big_quiet_on))
    refine wpQuiet_nil ?_
    refine wpN_late ?_
    go_wp2_with fail
    (with_reducible refine (put16_any h' 2 _ _ _ _ (kd2.same (w' := W0.drew) rfl) (by omega) (by omega)).mono ?_)
    rintro e u0 ⟨rfl, chj, kdj0⟩
    have Xj0 : Chg gb w u0 := ⟨chj.os.trans X2.os, chj.tape.trans X2.tape, chj.output.trans X2.output, Nat.le_trans X2.size chj.size, fun i hi hlt => (chj.block i (by omega) (Nat.lt_of_lt_of_le hlt X2.size)).trans (X2.block i hi hlt)⟩
    have kbj0 := (kb2.same (w' := W0.drew) rfl).chg chj (Ne.symm hgh)
    have ksj0 := (ks2.same (w' := W0.drew) rfl).chg chj hgh2
    have hdb1 : HdrB cs ((d0.setIfInBounds 2 (.int .u8 ((16 + 4 * (q : Int)) / 256))).setIfInBounds (2 + 1) (.int .u8 ((16 + 4 * (q : Int)) % 256))) [x0, x1, (16 + 4 * (q : Int)) / 256, (16 + 4 * (q : Int)) % 256] 4 := ((hdb0.one (by omega) ((16 + 4 * (q : Int)) / 256)).one (by omega) ((16 + 4 * (q : Int)) % 256))
    clear s0 sa0 chj
    generalize ((d0.setIfInBounds 2 (.int .u8 ((16 + 4 * (q : Int)) / 256))).setIfInBounds (2 + 1) (.int .u8 ((16 + 4 * (q : Int)) % 256))) = d1 at *
    go_wp2_with fail
    refine NoPanic.normal ?_
    go_wp2_with fail
    have s0 := run_cut (some ⟨h', 0, none⟩) k (c + k) 4 8 4 8 rfl rfl (by omega) (by omega) 24 Try.underlying24 size5
    have sa0 : cutA (some ⟨h', 0, none⟩) (c + k) 4 = some ⟨h', 4, none⟩ := by unfold cutA; rw [if_neg (by omega)]; rfl
    rw [sa0] at s0
    have qj : ∀ d os, (Sort.grow (redrawn u0 d) os).cell? ⟨w.heap.size, 6, none⟩ = some (.int .u32 Y0) := fun d os => cell_regrown (ksj0.cell 6) d os
    have hsz1 := hdb1.size
    refine wp_region_float (S := Grw u0) [true, true, true, true, true, false] 5 (by kernel_rfl) (by kernel_rfl) (Grw.drew u0) ?_
    simp only [selQ, selN, earlyN]
    repeat (first | go_big_quiet_skip | (go_big_quiet_want; go_big_quiet_op; go_big_quiet_on))
    refine wpQuiet_nil ?_
    refine wpN_late ?_
    clear qj
    go_wp2_with fail
    (with_reducible refine (put32_any h' 4 _ _ _ _ (kdj0.same (w' := u0.drew) rfl) (by omega) (by omega)).mono ?_)
    rintro e u1 ⟨rfl, chj, kdj1⟩
    have Xj1 : Chg gb w u1 := ⟨chj.os.trans Xj0.os, chj.tape.trans Xj0.tape, chj.output.trans Xj0.output, Nat.le_trans Xj0.size chj.size, fun i hi hlt => (chj.block i (by omega) (Nat.lt_of_lt_of_le hlt Xj0.size)).trans (Xj0.block i hi hlt)⟩
    have kbj1 := (kbj0.same (w' := u0.drew) rfl).chg chj (Ne.symm hgh)
    have ksj1 := (ksj0.same (w' := u0.drew) rfl).chg chj hgh2
    have hdb2 : HdrB cs ((((d1.setIfInBounds 4 (.int .u8 (Y0 / 16777216))).setIfInBounds (4 + 1) (.int .u8 (Y0 / 65536 % 256))).setIfInBounds (4 + 2) (.int .u8 (Y0 / 256 % 256))).setIfInBounds (4 + 3) (.int .u8 (Y0 % 256))) [x0, x1, (16 + 4 * (q : Int)) / 256, (16 + 4 * (q : Int)) % 256, Y0 / 16777216, Y0 / 65536 % 256, Y0 / 256 % 256, Y0 % 256] 8 := ((((hdb1.one (by omega) (Y0 / 16777216)).one (by omega) (Y0 / 65536 % 256)).one (by omega) (Y0 / 256 % 256)).one (by omega) (Y0 % 256))
    clear s0 sa0 chj
    generalize ((((d1.setIfInBounds 4 (.int .u8 (Y0 / 16777216))).setIfInBounds (4 + 1) (.int .u8 (Y0 / 65536 % 256))).setIfInBounds (4 + 2) (.int .u8 (Y0 / 256 % 256))).setIfInBounds (4 + 3) (.int .u8 (Y0 % 256))) = d2 at *
    go_wp2_with fail
    refine NoPanic.normal ?_
    go_wp2_with fail
    have s0 := run_cut (some ⟨h', 0, none⟩) k (c + k) 8 12 8 12 rfl rfl (by omega) (by omega) 24 Try.underlying24 size5
    have sa0 : cutA (some ⟨h', 0, none⟩) (c + k) 8 = some ⟨h', 8, none⟩ := by unfold cutA; rw [if_neg (by omega)]; rfl
    rw [sa0] at s0
    have qj : ∀ d os, (Sort.grow (redrawn u1 d) os).cell? ⟨w.heap.size, 7, none⟩ = some (.int .u32 Y1) := fun d os => cell_regrown (ksj1.cell 7) d os
    have hsz2 := hdb2.size
    refine wp_region_float (S := Grw u1) [true, true, true, true, true, false] 5 (by kernel_rfl) (by kernel_rfl) (Grw.drew u1) ?_
    simp only [selQ, selN, earlyN]
    repeat (first | go_big_quiet_skip | (go_big_quiet_want; go_big_quiet_op; go_big_quiet_on))
    refine wpQuiet_nil ?_
    refine wpN_late ?_
    clear qj
    go_wp2_with fail
    (with_reducible refine (put32_any h' 8 _ _ _ _ (kdj1.same (w' := u1.drew) rfl) (by omega) (by omega)).mono ?_)
    rintro e u2 ⟨rfl, chj, kdj2⟩
    have Xj2 : Chg gb w u2 := ⟨chj.os.trans Xj1.os, chj.tape.trans Xj1.tape, chj.output.trans Xj1.output, Nat.le_trans Xj1.size chj.size, fun i hi hlt => (chj.block i (by omega) (Nat.lt_of_lt_of_le hlt Xj1.size)).trans (Xj1.block i hi hlt)⟩
    have kbj2 := (kbj1.same (w' := u1.drew) rfl).chg chj (Ne.symm hgh)
    have ksj2 := (ksj1.same (w' := u1.drew) rfl).chg chj hgh2
    have hdb3 : HdrB cs ((((d2.setIfInBounds 8 (.int .u8 (Y1 / 16777216))).setIfInBounds (8 + 1) (.int .u8 (Y1 / 65536 % 256))).setIfInBounds (8 + 2) (.int .u8 (Y1 / 256 % 256))).setIfInBounds (8 + 3) (.int .u8 (Y1 % 256))) [x0, x1, (16 + 4 * (q : Int)) / 256, (16 + 4 * (q : Int)) % 256, Y0 / 16777216, Y0 / 65536 % 256, Y0 / 256 % 256, Y0 % 256, Y1 / 16777216, Y1 / 65536 % 256, Y1 / 256 % 256, Y1 % 256] 12 := ((((hdb2.one (by omega) (Y1 / 16777216)).one (by omega) (Y1 / 65536 % 256)).one (by omega) (Y1 / 256 % 256)).one (by omega) (Y1 % 256))
    clear s0 sa0 chj
    generalize ((((d2.setIfInBounds 8 (.int .u8 (Y1 / 16777216))).setIfInBounds (8 + 1) (.int .u8 (Y1 / 65536 % 256))).setIfInBounds (8 + 2) (.int .u8 (Y1 / 256 % 256))).setIfInBounds (8 + 3) (.int .u8 (Y1 % 256))) = d3 at *
    go_wp2_with fail
    refine NoPanic.normal ?_
    go_wp2_with fail
    have s0 := run_cut (some ⟨h', 0, none⟩) k (c + k) 12 14 12 14 rfl rfl (by omega) (by omega) 24 Try.underlying24 size5
    have sa0 : cutA (some ⟨h', 0, none⟩) (c + k) 12 = some ⟨h', 12, none⟩ := by unfold cutA; rw [if_neg (by omega)]; rfl
    rw [sa0] at s0
    have qj : ∀ d os, (Sort.grow (redrawn u2 d) os).cell? ⟨w.heap.size, 10, none⟩ = some (.slice none 0 0) := fun d os => cell_regrown (ksj2.cell 10) d os
    have hsz3 := hdb3.size
    refine wp_region_float (S := Grw u2) [true, true, true, true, true, false, false, false] 7 (by kernel_rfl) (by kernel_rfl) (Grw.drew u2) ?_
    simp only [selQ, selN, earlyN]
    repeat (first | go_big_quiet_skip | (go_big_quiet_want; go_big_quiet_op; go_big_quiet_on))
    refine wpQuiet_nil ?_
    have Bdj : Bl u2 u2.drew := (Bl.refl u2).drew
    refine wpN_want rfl (fun K hK => ?_)
    go_big_op
    refine hK _ _ (Grw.of Bdj) ?_
    clear hK K
    refine wpN_want rfl (fun K hK => ?_)
    go_big_op
    refine hK _ _ (Grw.of Bdj) ?_
    clear hK K
    refine wpN_late ?_
    clear qj Bdj
    go_wp2_with fail
    (with_reducible refine (put16_any h' 12 _ _ _ _ (kdj2.same (w' := u2.drew) rfl) (by omega) (by omega)).mono ?_)
    rintro e u3 ⟨rfl, chj, kdj3⟩
    have Xj3 : Chg gb w u3 := ⟨chj.os.trans Xj2.os, chj.tape.trans Xj2.tape, chj.output.trans Xj2.output, Nat.le_trans Xj2.size chj.size, fun i hi hlt => (chj.block i (by omega) (Nat.lt_of_lt_of_le hlt Xj2.size)).trans (Xj2.block i hi hlt)⟩
    have kbj3 := (kbj2.same (w' := u2.drew) rfl).chg chj (Ne.symm hgh)
    have ksj3 := (ksj2.same (w' := u2.drew) rfl).chg chj hgh2
    have hdb4 : HdrB cs ((d3.setIfInBounds 12 (.int .u8 (0 / 256))).setIfInBounds (12 + 1) (.int .u8 (0 % 256))) [x0, x1, (16 + 4 * (q : Int)) / 256, (16 + 4 * (q : Int)) % 256, Y0 / 16777216, Y0 / 65536 % 256, Y0 / 256 % 256, Y0 % 256, Y1 / 16777216, Y1 / 65536 % 256, Y1 / 256 % 256, Y1 % 256, 0 / 256, 0 % 256] 14 := ((hdb3.one (by omega) (0 / 256)).one (by omega) (0 % 256))
    clear s0 sa0 chj
    generalize ((d3.setIfInBounds 12 (.int .u8 (0 / 256))).setIfInBounds (12 + 1) (.int .u8 (0 % 256))) = d4 at *
    go_wp2_with fail
    refine NoPanic.normal ?_
    go_wp2_with fail
    have s0 := run_cut (some ⟨h', 0, none⟩) k (c + k) 14 16 14 16 rfl rfl (by omega) (by omega) 24 Try.underlying24 size5
    have sa0 : cutA (some ⟨h', 0, none⟩) (c + k) 14 = some ⟨h', 14, none⟩ := by unfold cutA; rw [if_neg (by omega)]; rfl
    rw [sa0] at s0
    have qj : ∀ d os, (Sort.grow (redrawn u3 d) os).cell? ⟨w.heap.size, 11, none⟩ = some (.slice Av q cv) := fun d os => cell_regrown (ksj3.cell 11) d os
    have hsz4 := hdb4.size
    refine wp_region_float (S := Grw u3) [true, true, true, true, true, false, false, false] 7 (by kernel_rfl) (by kernel_rfl) (Grw.drew u3) ?_
    simp only [selQ, selN, earlyN]
    repeat (first | go_big_quiet_skip | (go_big_quiet_want; go_big_quiet_op; go_big_quiet_on))
    refine wpQuiet_nil ?_
    have Bdj : Bl u3 u3.drew := (Bl.refl u3).drew
    refine wpN_want rfl (fun K hK => ?_)
    go_big_op
    refine hK _ _ (Grw.of Bdj) ?_
    clear hK K
    refine wpN_want rfl (fun K hK => ?_)
    go_big_op
    refine hK _ _ (Grw.of Bdj) ?_
    clear hK K
    refine wpN_late ?_
    clear qj Bdj
    go_wp2_with fail
    (with_reducible refine (put16_any h' 14 _ _ _ _ (kdj3.same (w' := u3.drew) rfl) (by omega) (by omega)).mono ?_)
    rintro e u4 ⟨rfl, chj, kdj4⟩
    have Xj4 : Chg gb w u4 := ⟨chj.os.trans Xj3.os, chj.tape.trans Xj3.tape, chj.output.trans Xj3.output, Nat.le_trans Xj3.size chj.size, fun i hi hlt => (chj.block i (by omega) (Nat.lt_of_lt_of_le hlt Xj3.size)).trans (Xj3.block i hi hlt)⟩
    have kbj4 := (kbj3.same (w' := u3.drew) rfl).chg chj (Ne.symm hgh)
    have ksj4 := (ksj3.same (w' := u3.drew) rfl).chg chj hgh2
    have hdb5 : HdrB cs ((d4.setIfInBounds 14 (.int .u8 ((q : Int) / 256))).setIfInBounds (14 + 1) (.int .u8 ((q : Int) % 256))) [x0, x1, (16 + 4 * (q : Int)) / 256, (16 + 4 * (q : Int)) % 256, Y0 / 16777216, Y0 / 65536 % 256, Y0 / 256 % 256, Y0 % 256, Y1 / 16777216, Y1 / 65536 % 256, Y1 / 256 % 256, Y1 % 256, 0 / 256, 0 % 256, (q : Int) / 256, (q : Int) % 256] 16 := ((hdb4.one (by omega) ((q : Int) / 256)).one (by omega) ((q : Int) % 256))
    clear s0 sa0 chj
    generalize ((d4.setIfInBounds 14 (.int .u8 ((q : Int) / 256))).setIfInBounds (14 + 1) (.int .u8 ((q : Int) % 256))) = d5 at *
    have hdb6 : HdrB cs d5 (sacB x0 x1 (16 + 4 * (q : Int)) Y0 Y1 (q : Int) ++ quads (ys.take 0)) (16 + 4 * 0) := hdb5
    go_wp2_with fail
    refine NoPanic.normal ?_
    have ck5 := ksj4.cell
    go_wp2_with fail
    go_loopw [85] (fun i wr => i = .int .i64 0 ∧ u4 = wr) (fun _ _ => 0)
    case atStart => exact ⟨rfl, rfl⟩
    case round =>
    obtain ⟨rfl, hwe⟩ := hrel
    subst hwe
    go_wp2_with fail
    clear ck5
    go_loopw [107] (fun i wr => Hid (∃ (j : Nat) (dd : Array Value), j ≤ q ∧ i = .int .i64 j ∧ Chg gb w wr ∧ Blk wr w.heap.size #[.slice none 0 0, .slice none 0 0, .int .u8 x0, .int .u8 x1, .int .u16 L, .int .i64 U, .int .u32 Y0, .int .u32 Y1, .int .u16 0, .int .u16 (q : Nat), .slice none 0 0, .slice Av q cv] 119 ∧ Blk wr gb (bfC (some ⟨h', 0, none⟩) (k + n) (c + k) k app) 144 ∧ Blk wr h' dd 5 ∧ HdrB cs dd (sacB x0 x1 (16 + 4 * (q : Int)) Y0 Y1 (q : Int) ++ quads (ys.take j)) (16 + 4 * j))) (fun i _ => q - (intOf i).toNat)
    case atStart => exact Lib.hid ⟨0, d5, by omega, rfl, Xj4, ksj4, kbj4, kdj4, hdb6⟩
    case round =>
      clear Xj4 ksj4 kbj4 kdj4 hdb5 hdb6
      obtain ⟨j, dd, hj, rfl, XR, ksr, kbr, kdr, hdr⟩ := hrel.out
      clear hrel
      have HDR := Lib.hid hdr
      have HXR := Lib.hid XR
      have HKS := Lib.hid ksr
      have HKB := Lib.hid kbr
      have HKD := Lib.hid kdr
      by_cases hjq : j = q
      · clear hdr XR ksr kbr kdr
        go_wp2_with fail
        go_ret
        have hk := HK.out
        have hdf := HDR.out
        rw [hjq, ← HYL.out, List.take_length, HYL.out] at hdf
        refine ⟨h', rfl, hle, HXR.out, HKB.out, ser_rd (hd := sacB x0 x1 (16 + 4 * (q : Int)) Y0 Y1 (q : Int) ++ quads ys) HKD.out hl hcap (by rw [hk]; exact hdf.len) (fun i hi => hdf.lo i (by omega)) (fun i => by rw [HCS.out, hk]; exact hdf.hi i)⟩
      · have hjq' : (j : Int) < (q : Int) := by omega
        obtain ⟨gy, oy, hAy, hgy, hcy⟩ := HRY.out.at (by omega)
        have hgyb : gy ≠ gb := HIY.out (by omega) _ hAy
        have d9 : ∀ {V : World}, Chg gb w V → V.cell? ⟨gy, oy + j, none⟩ = some (.int .u32 (ys.getD j 0)) := fun hV => (World.cell?_of_block (a := ⟨gy, oy + j, none⟩) (hV.block gy hgyb hgy)).trans (hcy j (by omega))
        have yb := HE.out j (by omega)
        have hqs := quads_succ ys j (by have := HYL.out; omega)
        have HQS := Lib.hid hqs
        have dj := d9 XR
        generalize ys.getD j 0 = y at *
        have hks := HK.out
        have hjk : 16 + 4 * j + 4 ≤ k := by omega
        have sj := run_cut_l (some ⟨h', 0, none⟩) k (c + k) (16 + 4 * j) (16 + (j : Int) * 4) (by omega) (by omega) 24 Try.underlying24 size5
        have saj : cutA (some ⟨h', 0, none⟩) (c + k) (16 + 4 * j) = some ⟨h', 16 + 4 * j, none⟩ := by unfold cutA; rw [if_neg (by omega)]; simp [add_add]
        rw [saj] at sj
        have hdsz := hdr.size
        subst hAy
        clear d9 hks hdr XR ksr kbr hqs
        go_wp2_with fail
        clear dj
        refine wp_region_float (S := Grw wr) [true, true, true, true, true, true, true, true, false] 8 (by kernel_rfl) (by kernel_rfl) (Grw.drew wr) ?_
        simp only [selQ, selN, earlyN]
        repeat (first | go_big_quiet_skip | (go_big_quiet_want; go_big_quiet_op; go_big_quiet_on))
        refine wpQuiet_nil ?_
        refine wpN_late ?_
        go_wp2_with fail
        (with_reducible refine (put32g h' (16 + 4 * j) _ _ _ _ _ (kdr.same (w' := wr.drew) rfl) (by omega) (by omega) yb).mono ?_)
        rintro e v2 ⟨rfl, chj, kdj⟩
        have XJ : Chg gb w v2 := ⟨chj.os.trans HXR.out.os, chj.tape.trans HXR.out.tape, chj.output.trans HXR.out.output, Nat.le_trans HXR.out.size chj.size, fun i hi hlt => (chj.block i (by omega) (Nat.lt_of_lt_of_le hlt HXR.out.size)).trans (HXR.out.block i hi hlt)⟩
        have kbj := (HKB.out.same (w' := wr.drew) rfl).chg chj (Ne.symm hgh)
        have ksj := (HKS.out.same (w' := wr.drew) rfl).chg chj hgh2
        have hdj := HDR.out.four (by omega) y
        rw [List.append_assoc, ← HQS.out] at hdj
        have HDJ := Lib.hid hdj
        clear sj saj chj hdj kdr
        go_wp2_with fail
        refine NoPanic.normal ?_
        go_wp2_with fail
        exact ⟨Lib.hid ⟨j + 1, _, by omega, by simp, XJ, ksj, kbj, kdj, HDJ.out⟩, by simp [intOf]; omega⟩
end Go.Proofs.Ytoljdgfbkebgcaa
namespace Go.Proofs.Ytoljdgfbkebgcaa
open Go.RowKit
set_option maxHeartbeats 4000000 in
set_option maxRecDepth 100000 in
theorem wrSac_any (F : Nat → Prop) (A0 A1 A2 A3 : Option Addr) (c0 c1 np c2 c3 : Nat) (x0 x1 L U Y0 Y1 : Int) (ys : List Int) (fix : Bool) (w : World) (h : Rd .u64 w A0 8 c0 [x0, x1, L, U, Y0, Y1, 0, (np : Int)]) (b0 : 0 ≤ x0 ∧ x0 ≤ 255) (b1 : 0 ≤ x1 ∧ x1 ≤ 255) (b2 : 0 ≤ L ∧ L ≤ 65535) (b3 : 0 ≤ U ∧ U ≤ 4294967295) (y0 : 0 ≤ Y0 ∧ Y0 ≤ 4294967295) (y1 : 0 ≤ Y1 ∧ Y1 ≤ 4294967295)
    (hP : PartsV F w (.slice A2 np c2) (ys.map fun y => ⟨[1, y], []⟩)) (hnp : ys.length = np) (hn1 : np ≤ 50) (hE : ∀ i, i < np → 0 ≤ ys.getD i 0 ∧ ys.getD i 0 ≤ 4294967295) :
    Calls Try.prog 28 #[.string ⟨#[115, 99, 116, 112, 115, 97, 99, 107]⟩, .agg #[.slice A0 8 c0, .slice A1 0 c1, .slice A2 np c2, .slice A3 0 c3], .bool fix, .bool false] w fun e w' =>
      ∃ A c, e = .returned (.tuple #[.slice A (16 + 4 * np) c, .bool true]) ∧ Rd .u8 w' A (16 + 4 * np) c (sacB x0 x1 (16 + 4 * (np : Int)) Y0 Y1 (np : Int) ++ quads ys) ∧ Bl w w' := by
  have H := Lib.hid h
  have HP := Lib.hid hP
  have HNP := Lib.hid hnp
  have HE := Lib.hid hE
  have hn1' : (np : Int) ≤ 50 := by omega
  clear h hP hE hnp
  go_enter Try.func28, Try.ntmps28
  go_wp2_with fail
  go_loop [32] (fun i => i = .int .i64 0) (fun _ => 0)
  case atStart => rfl
  case round =>
    subst hrel
    go_wp2_with fail
    have BA : Bl w (w.alloc (.cells #[.slice A0 8 c0, .slice A1 0 c1, .slice A2 np c2, .slice A3 0 c3] 35)) := by go_grown
    have kw0 := Blk.new w #[.slice A0 8 c0, .slice A1 0 c1, .slice A2 np c2, .slice A3 0 c3] 35
    generalize w.alloc (.cells #[.slice A0 8 c0, .slice A1 0 c1, .slice A2 np c2, .slice A3 0 c3] 35) = WA at *
    go_loopw [43] (fun i wr => Hid (∃ j : Nat, j ≤ np ∧ i = .int .i64 j ∧ Bl w wr ∧ Blk wr w.heap.size #[.slice A0 8 c0, .slice A1 0 c1, .slice A2 np c2, .slice A3 0 c3] 35)) (fun i _ => np - (intOf i).toNat)
    case atStart => exact Lib.hid ⟨0, by omega, rfl, BA, kw0⟩
    case round =>
      clear BA kw0
      obtain ⟨j, hj, rfl, BA, kw0⟩ := hrel.out
      clear hrel
      have cw := kw0.cell
      by_cases hjq : j < np
      · have hjq' : (j : Int) < (np : Int) := by omega
        obtain ⟨Ap, cp, ep, _, _, hel⟩ := HP.out
        obtain ⟨g, o, u0, u1, hA, e0, e1, ⟨Aa, ca, hu0, _⟩, ⟨⟨Ab, cb, hu1, _⟩, _⟩⟩ := hel j (by rw [List.length_map]; have := HNP.out; omega)
        have hge : (ys.map fun y => (⟨[1, y], []⟩ : Prt)).getD j Prt.nil = ⟨[1, ys.getD j 0], []⟩ := by
          have := HNP.out
          simp [List.getD_eq_getElem?_getD, List.getElem?_eq_getElem (show j < ys.length by omega)]
        rw [hge] at hu0 hu1
        have hdl : ([] : List Int).length ≤ 1000 := by simp
        simp at ep
        obtain ⟨rfl, hnp', rfl⟩ := ep
        have d0 := Bl.keeps BA e0
        have d1 := Bl.keeps BA e1
        rw [hu0] at d0
        rw [hu1] at d1
        simp only [List.length_cons, List.length_nil] at d0 d1
        subst hA
        clear hel e0 e1 hge hdl hu0 hu1 hnp'
        go_wp2_with fail
        exact ⟨Lib.hid ⟨j + 1, by omega, by simp, BA.trans (by go_grown), kw0.alloc _⟩, by simp [intOf]; omega⟩
      have hjn : ¬ ((j : Int) < (np : Int)) := by omega
      go_wp2_with fail
      (with_reducible refine (maSac_any F A0 A1 A2 A3 c0 c1 np c2 0 c3 x0 x1 L U Y0 Y1 ys _ (H.out.below BA) b0 b1 b2 b3 y0 y1 (PartsV.below HP.out BA) HNP.out (by omega) HE.out).mono ?_)
      rintro e w1 ⟨gx, v, B, rfl, hb1, kx1, hgxB, hwB, hdr⟩
      obtain ⟨A0', c0', rfl⟩ := ownsRow_form hdr
      have kw1 := Blk.keep hb1 kw0
      have B1 : Bl w w1 := BA.trans hb1
      have HDR := Lib.hid hdr
      clear hdr
      have cw := kw1.cell
      clear hb1
      go_wp2_with fail
      (with_reducible refine (newBuf_any _).mono ?_)
      rintro e w2 ⟨rfl, hb2, kb2⟩
      have kw2 := Blk.keep hb2 kw1
      have kx2 := Blk.keep hb2 kx1
      have B2 := B1.trans hb2
      have cw := kw2.cell
      have hzb : w.heap.size < w1.heap.size := kw1.lt
      have hxb : gx ≠ w1.heap.size := Nat.ne_of_lt kx1.lt
      have hwb : w.heap.size ≠ w1.heap.size := Nat.ne_of_lt hzb
      have hown : (Value.slice A0' np c0').ownBlock ≠ some w1.heap.size := fun e => by have := HDR.out.lt _ e; omega
      have HDR2 := Lib.hid (own_bl HDR.out hb2)
      clear kw1 kx1 B1 hb2 HDR
      generalize w1.heap.size = gb at *
      go_wp2_with fail
      (with_reducible refine (appendB0 gb _ kb2).mono ?_)
      rintro e w3 ⟨rfl, ch3, kb3⟩
      have kw3 := kw2.chg ch3 hwb
      have kx3 := kx2.chg ch3 hxb
      have B3 : Bl w w3 := ch3.bl B2 (Nat.le_of_lt hzb)
      have HDR3 := Lib.hid (own_chg HDR2.out ch3 hown)
      have cw := kw3.cell
      have cx := kx3.cell
      have KB3 := Lib.hid kb3
      have KX3 := Lib.hid kx3
      clear kw2 kx2 kb2 B2 ch3 kb3 kx3
      have hcp : ∀ W, (Builtin.copy_ #[24, 24] 3 #[.slice none 0 0, .slice A3 0 c3]).run Try.prog W = .ok (goInt 0) W := fun W => run_copy_none (P := Try.prog) W 24 24 3 5 none A3 0 0 0 c3 Try.underlying24 info5s rfl
      have hmt := recvSac gx w3 _ _ _ _ _ _ _ _ _ _ _ _ KX3.out
      go_wp2_with fail
      clear hmt hcp cw cx
      (with_reducible refine (seSac_any gb none 0 0 0 [] x0 x1 L U Y0 Y1 A0' np c0' B ys fix false w3 KB3.out (Rd.nil _ _ _ _) (InF.zero _ _) (by omega) b0 b1 y0 y1 HDR3.out hown (by omega) HE.out).mono ?_)
      rintro e w4 ⟨h', rfl, hle, ch4, kb4, r4⟩
      have B4 : Bl w w4 := ch4.bl B3 (Nat.le_of_lt hzb)
      have R4 : Hid (Rd .u8 w4 (some ⟨h', 0, none⟩) (16 + 4 * np) (16 + 4 * np) (sacB x0 x1 (16 + 4 * (np : Int)) Y0 Y1 (np : Int) ++ quads ys)) := Lib.hid (by simpa using r4)
      clear r4 ch4 kw3 KX3 KB3
      go_wp2_with fail
      (with_reducible refine (bytesB gb _ _ _ _ _ _ kb4).mono ?_)
      rintro e w5 ⟨rfl, q, rfl⟩
      go_wp2_with fail
      (with_reducible refine (bclone_any _ _ _ _ _ (R4.out.below ((Bl.refl _).drewN _)) (by omega)).mono ?_)
      rintro e w6 ⟨⟨A6, c6, rfl, r6⟩, hb6⟩
      have B6 : Bl w w6 := (B4.drewN q).trans hb6
      have R6 := Lib.hid r6
      clear r6 hb6 kb4
      go_wp2_with fail
      go_ret2
      exact ⟨A6, c6, rfl, R6.out, B6⟩
end Go.Proofs.Ytoljdgfbkebgcaa
