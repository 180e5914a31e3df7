/- impl.made: sctpdata. -/
import Derived.Test.YtoljdgfbkebgcaaTake2
namespace Go.Proofs.Ytoljdgfbkebgcaa
open Go.RowKit
set_option maxHeartbeats 4000000 in
set_option maxRecDepth 100000 in
theorem maDat_any (A0 A1 A2 A3 : Option Addr) (c0 c1 c2 n3 c3 : Nat) (x0 x1 L U t0 t1 t2 Y0 Y1 Y2 Y3 : Int) (w : World) (h : Rd .u64 w A0 11 c0 [x0, x1, L, U, t0, t1, t2, Y0, Y1, Y2, Y3]) (b0 : 0 ≤ x0 ∧ x0 ≤ 255) (b1 : 0 ≤ x1 ∧ x1 ≤ 255) (b2 : 0 ≤ L ∧ L ≤ 65535) (b3 : 0 ≤ U ∧ U ≤ 4294967295) (ht0 : 0 ≤ t0 ∧ t0 ≤ 1) (ht1 : 0 ≤ t1 ∧ t1 ≤ 1) (ht2 : 0 ≤ t2 ∧ t2 ≤ 1) (hY0 : 0 ≤ Y0 ∧ Y0 ≤ 4294967295) (hY1 : 0 ≤ Y1 ∧ Y1 ≤ 65535) (hY2 : 0 ≤ Y2 ∧ Y2 ≤ 65535) (hY3 : 0 ≤ Y3 ∧ Y3 ≤ 4294967295) :
    Calls Try.prog 40 #[.string ⟨#[115, 99, 116, 112, 100, 97, 116, 97]⟩, .agg #[.slice A0 11 c0, .slice A1 0 c1, .slice A2 0 c2, .slice A3 n3 c3]] w fun e w' =>
      ∃ gx, e = .returned (.iface 97 (.pointer (some ⟨gx, 0, none⟩))) ∧ Bl w w' ∧ Blk w' gx #[.slice none 0 0, .slice none 0 0, .int .u8 x0, .int .u8 x1, .int .u16 L, .int .i64 U, .bool (t0 == 1), .bool (t1 == 1), .bool (t2 == 1), .int .u32 Y0, .int .u16 Y1, .int .u16 Y2, .int .u32 Y3] 103 := by
  have H := Lib.hid h
  have HA0 := h.inF
  clear h
  go_enter Try.func40, Try.ntmps40
  go_wp2_with fail
  have B0 : Bl w (((w.alloc (.cells #[.slice A0 11 c0, .slice A1 0 c1, .slice A2 0 c2, .slice A3 n3 c3] 35)).alloc (.cells #[.slice A0 11 c0, .slice A1 0 c1, .slice A2 0 c2, .slice A3 n3 c3, .int .i64 0, .int .i64 0, .bool false, .bool false] 89)).alloc (.cells #[.slice none 0 0, .slice none 0 0, .int .u8 0, .int .u8 0, .int .u16 0, .int .i64 0, .bool false, .bool false, .bool false, .int .u32 0, .int .u16 0, .int .u16 0, .int .u32 0] 103)) := by go_grown
  have kt0 : Blk (((w.alloc (.cells #[.slice A0 11 c0, .slice A1 0 c1, .slice A2 0 c2, .slice A3 n3 c3] 35)).alloc (.cells #[.slice A0 11 c0, .slice A1 0 c1, .slice A2 0 c2, .slice A3 n3 c3, .int .i64 0, .int .i64 0, .bool false, .bool false] 89)).alloc (.cells #[.slice none 0 0, .slice none 0 0, .int .u8 0, .int .u8 0, .int .u16 0, .int .i64 0, .bool false, .bool false, .bool false, .int .u32 0, .int .u16 0, .int .u16 0, .int .u32 0] 103)) (w.heap.size + 1) (tkC A0 11 c0 (.slice A1 0 c1) (.slice A2 0 c2) (.slice A3 n3 c3) 0 0 false) 89 := (Blk.newAt _ _ _ _ (by simp)).alloc _
  have kx0 : Blk (((w.alloc (.cells #[.slice A0 11 c0, .slice A1 0 c1, .slice A2 0 c2, .slice A3 n3 c3] 35)).alloc (.cells #[.slice A0 11 c0, .slice A1 0 c1, .slice A2 0 c2, .slice A3 n3 c3, .int .i64 0, .int .i64 0, .bool false, .bool false] 89)).alloc (.cells #[.slice none 0 0, .slice none 0 0, .int .u8 0, .int .u8 0, .int .u16 0, .int .i64 0, .bool false, .bool false, .bool false, .int .u32 0, .int .u16 0, .int .u16 0, .int .u32 0] 103)) (w.heap.size + 1 + 1) #[.slice none 0 0, .slice none 0 0, .int .u8 0, .int .u8 0, .int .u16 0, .int .i64 0, .bool false, .bool false, .bool false, .int .u32 0, .int .u16 0, .int .u16 0, .int .u32 0] 103 := Blk.newAt _ _ _ _ (by simp)
  have HA : Hid (InF (· < w.heap.size + 1) A0 11) := Lib.hid (HA0.mono fun _ h => Nat.lt_of_lt_of_le h (Nat.le_succ _))
  have HN : Hid (InF (· ≠ w.heap.size + 1) A0 11) := Lib.hid (HA0.mono fun _ h => Nat.ne_of_lt (Nat.lt_of_lt_of_le h (Nat.le_succ _)))
  have z0 : w.heap.size ≤ w.heap.size + 1 := Nat.le_succ _
  have zx : w.heap.size + 1 + 1 ≠ w.heap.size + 1 := by omega
  have zxw : w.heap.size ≤ w.heap.size + 1 + 1 := by omega
  have HW := Lib.hid (H.out.below B0)
  clear HA0
  generalize (((w.alloc (.cells #[.slice A0 11 c0, .slice A1 0 c1, .slice A2 0 c2, .slice A3 n3 c3] 35)).alloc (.cells #[.slice A0 11 c0, .slice A1 0 c1, .slice A2 0 c2, .slice A3 n3 c3, .int .i64 0, .int .i64 0, .bool false, .bool false] 89)).alloc (.cells #[.slice none 0 0, .slice none 0 0, .int .u8 0, .int .u8 0, .int .u16 0, .int .i64 0, .bool false, .bool false, .bool false, .int .u32 0, .int .u16 0, .int .u16 0, .int .u32 0] 103)) = W0 at *
  generalize hgx : w.heap.size + 1 + 1 = gx at *
  generalize hgt : w.heap.size + 1 = gt at *
  (with_reducible refine (chunkT gt A0 11 c0 _ _ _ 0 false _ x0 x1 L U _ kt0 HW.out HA.out (by omega) (by omega) rfl rfl rfl rfl b0 b1 b2 b3).mono ?_)
  rintro e w1 ⟨rfl, ch1, kt1⟩
  have kx1 := kx0.chg ch1 zx
  have X1 := ch1
  have HW1 := Lib.hid (HW.out.chg ch1 HN.out)
  have cx := kx1.cell
  have fx := kx1.frozen
  have zx1 := kx1.lt
  have KT := Lib.hid kt1
  have KX := Lib.hid kx1
  clear kt0 kx0 kt1 kx1 ch1
  go_wp2_with fail
  have S1 : Chg gx w1 ((((((w1.setCell ⟨gx, 0, none⟩ (.slice none 0 0)).setCell ⟨gx, 1, none⟩ (.slice none 0 0)).setCell ⟨gx, 2, none⟩ (.int .u8 x0)).setCell ⟨gx, 3, none⟩ (.int .u8 x1)).setCell ⟨gx, 4, none⟩ (.int .u16 L)).setCell ⟨gx, 5, none⟩ (.int .i64 U)) := ((((((Chg.refl gx _).set 0 (.slice none 0 0)).set 1 (.slice none 0 0)).set 2 (.int .u8 x0)).set 3 (.int .u8 x1)).set 4 (.int .u16 L)).set 5 (.int .i64 U)
  have kx1' := ((((((KX.out.set 0 (.slice none 0 0)).set 1 (.slice none 0 0)).set 2 (.int .u8 x0)).set 3 (.int .u8 x1)).set 4 (.int .u16 L)).set 5 (.int .i64 U))
  have kt1' := ((((((KT.out.far (p := ⟨gx, 0, none⟩) (Ne.symm zx) (.slice none 0 0)).far (p := ⟨gx, 1, none⟩) (Ne.symm zx) (.slice none 0 0)).far (p := ⟨gx, 2, none⟩) (Ne.symm zx) (.int .u8 x0)).far (p := ⟨gx, 3, none⟩) (Ne.symm zx) (.int .u8 x1)).far (p := ⟨gx, 4, none⟩) (Ne.symm zx) (.int .u16 L)).far (p := ⟨gx, 5, none⟩) (Ne.symm zx) (.int .i64 U))
  have HW1' := Lib.hid (HW1.out.chg S1 (HA.out.mono fun _ h => by omega))
  have B1 : Bl w ((((((w1.setCell ⟨gx, 0, none⟩ (.slice none 0 0)).setCell ⟨gx, 1, none⟩ (.slice none 0 0)).setCell ⟨gx, 2, none⟩ (.int .u8 x0)).setCell ⟨gx, 3, none⟩ (.int .u8 x1)).setCell ⟨gx, 4, none⟩ (.int .u16 L)).setCell ⟨gx, 5, none⟩ (.int .i64 U)) := S1.bl (X1.bl B0 z0) zxw
  clear cx fx zx1
  generalize ((((((w1.setCell ⟨gx, 0, none⟩ (.slice none 0 0)).setCell ⟨gx, 1, none⟩ (.slice none 0 0)).setCell ⟨gx, 2, none⟩ (.int .u8 x0)).setCell ⟨gx, 3, none⟩ (.int .u8 x1)).setCell ⟨gx, 4, none⟩ (.int .u16 L)).setCell ⟨gx, 5, none⟩ (.int .i64 U)) = V1 at *
  (with_reducible refine (takeT gt A0 11 c0 _ _ _ 4 _ 0 false _ t0 _ kt1' HW1'.out HN.out (by simp) (by omega) (by omega) rfl ht0.1 ht0.2).mono ?_)
  rintro e w2 ⟨rfl, X2, kt2⟩
  have kx2 := kx1'.chg X2 zx
  have HW2 := Lib.hid (HW1'.out.chg X2 HN.out)
  have cx := kx2.cell
  have fx := kx2.frozen
  have zx1 := kx2.lt
  have KT := Lib.hid kt2
  have KX := Lib.hid kx2
  clear kt2 kx2 kt1' kx1' S1
  go_wp2_with fail
  have S2 : Chg gx w2 (w2.setCell ⟨gx, 6, none⟩ (.bool (t0 == 1))) := (Chg.refl gx _).set 6 (.bool (t0 == 1))
  have kx2' := (KX.out.set 6 (.bool (t0 == 1)))
  have kt2' := (KT.out.far (p := ⟨gx, 6, none⟩) (Ne.symm zx) (.bool (t0 == 1)))
  have HW2' := Lib.hid (HW2.out.chg S2 (HA.out.mono fun _ h => by omega))
  have B2 : Bl w (w2.setCell ⟨gx, 6, none⟩ (.bool (t0 == 1))) := S2.bl (X2.bl B1 z0) zxw
  clear cx fx zx1
  generalize (w2.setCell ⟨gx, 6, none⟩ (.bool (t0 == 1))) = V2 at *
  (with_reducible refine (takeT gt A0 11 c0 _ _ _ 5 _ 0 false _ t1 _ kt2' HW2'.out HN.out (by simp) (by omega) (by omega) rfl ht1.1 ht1.2).mono ?_)
  rintro e w3 ⟨rfl, X3, kt3⟩
  have kx3 := kx2'.chg X3 zx
  have HW3 := Lib.hid (HW2'.out.chg X3 HN.out)
  have cx := kx3.cell
  have fx := kx3.frozen
  have zx1 := kx3.lt
  have KT := Lib.hid kt3
  have KX := Lib.hid kx3
  clear kt3 kx3 kt2' kx2' S2
  go_wp2_with fail
  have S3 : Chg gx w3 (w3.setCell ⟨gx, 7, none⟩ (.bool (t1 == 1))) := (Chg.refl gx _).set 7 (.bool (t1 == 1))
  have kx3' := (KX.out.set 7 (.bool (t1 == 1)))
  have kt3' := (KT.out.far (p := ⟨gx, 7, none⟩) (Ne.symm zx) (.bool (t1 == 1)))
  have HW3' := Lib.hid (HW3.out.chg S3 (HA.out.mono fun _ h => by omega))
  have B3 : Bl w (w3.setCell ⟨gx, 7, none⟩ (.bool (t1 == 1))) := S3.bl (X3.bl B2 z0) zxw
  clear cx fx zx1
  generalize (w3.setCell ⟨gx, 7, none⟩ (.bool (t1 == 1))) = V3 at *
  (with_reducible refine (takeT gt A0 11 c0 _ _ _ 6 _ 0 false _ t2 _ kt3' HW3'.out HN.out (by simp) (by omega) (by omega) rfl ht2.1 ht2.2).mono ?_)
  rintro e w4 ⟨rfl, X4, kt4⟩
  have kx4 := kx3'.chg X4 zx
  have HW4 := Lib.hid (HW3'.out.chg X4 HN.out)
  have cx := kx4.cell
  have fx := kx4.frozen
  have zx1 := kx4.lt
  have KT := Lib.hid kt4
  have KX := Lib.hid kx4
  clear kt4 kx4 kt3' kx3' S3
  go_wp2_with fail
  have S4 : Chg gx w4 (w4.setCell ⟨gx, 8, none⟩ (.bool (t2 == 1))) := (Chg.refl gx _).set 8 (.bool (t2 == 1))
  have kx4' := (KX.out.set 8 (.bool (t2 == 1)))
  have kt4' := (KT.out.far (p := ⟨gx, 8, none⟩) (Ne.symm zx) (.bool (t2 == 1)))
  have HW4' := Lib.hid (HW4.out.chg S4 (HA.out.mono fun _ h => by omega))
  have B4 : Bl w (w4.setCell ⟨gx, 8, none⟩ (.bool (t2 == 1))) := S4.bl (X4.bl B3 z0) zxw
  clear cx fx zx1
  generalize (w4.setCell ⟨gx, 8, none⟩ (.bool (t2 == 1))) = V4 at *
  (with_reducible refine (take32 gt A0 11 c0 _ _ _ 7 _ 0 false _ Y0 _ kt4' HW4'.out HN.out (by simp) (by omega) (by omega) rfl hY0.1 hY0.2).mono ?_)
  rintro e w5 ⟨rfl, X5, kt5⟩
  have kx5 := kx4'.chg X5 zx
  have HW5 := Lib.hid (HW4'.out.chg X5 HN.out)
  have cx := kx5.cell
  have fx := kx5.frozen
  have zx1 := kx5.lt
  have KT := Lib.hid kt5
  have KX := Lib.hid kx5
  clear kt5 kx5 kt4' kx4' S4
  go_wp2_with fail
  have S5 : Chg gx w5 (w5.setCell ⟨gx, 9, none⟩ (.int .u32 Y0)) := (Chg.refl gx _).set 9 (.int .u32 Y0)
  have kx5' := (KX.out.set 9 (.int .u32 Y0))
  have kt5' := (KT.out.far (p := ⟨gx, 9, none⟩) (Ne.symm zx) (.int .u32 Y0))
  have HW5' := Lib.hid (HW5.out.chg S5 (HA.out.mono fun _ h => by omega))
  have B5 : Bl w (w5.setCell ⟨gx, 9, none⟩ (.int .u32 Y0)) := S5.bl (X5.bl B4 z0) zxw
  clear cx fx zx1
  generalize (w5.setCell ⟨gx, 9, none⟩ (.int .u32 Y0)) = V5 at *
  (with_reducible refine (take16 gt A0 11 c0 _ _ _ 8 _ 0 false _ Y1 _ kt5' HW5'.out HN.out (by simp) (by omega) (by omega) rfl hY1.1 hY1.2).mono ?_)
  rintro e w6 ⟨rfl, X6, kt6⟩
  have kx6 := kx5'.chg X6 zx
  have HW6 := Lib.hid (HW5'.out.chg X6 HN.out)
  have cx := kx6.cell
  have fx := kx6.frozen
  have zx1 := kx6.lt
  have KT := Lib.hid kt6
  have KX := Lib.hid kx6
  clear kt6 kx6 kt5' kx5' S5
  go_wp2_with fail
  have S6 : Chg gx w6 (w6.setCell ⟨gx, 10, none⟩ (.int .u16 Y1)) := (Chg.refl gx _).set 10 (.int .u16 Y1)
  have kx6' := (KX.out.set 10 (.int .u16 Y1))
  have kt6' := (KT.out.far (p := ⟨gx, 10, none⟩) (Ne.symm zx) (.int .u16 Y1))
  have HW6' := Lib.hid (HW6.out.chg S6 (HA.out.mono fun _ h => by omega))
  have B6 : Bl w (w6.setCell ⟨gx, 10, none⟩ (.int .u16 Y1)) := S6.bl (X6.bl B5 z0) zxw
  clear cx fx zx1
  generalize (w6.setCell ⟨gx, 10, none⟩ (.int .u16 Y1)) = V6 at *
  (with_reducible refine (take16 gt A0 11 c0 _ _ _ 9 _ 0 false _ Y2 _ kt6' HW6'.out HN.out (by simp) (by omega) (by omega) rfl hY2.1 hY2.2).mono ?_)
  rintro e w7 ⟨rfl, X7, kt7⟩
  have kx7 := kx6'.chg X7 zx
  have HW7 := Lib.hid (HW6'.out.chg X7 HN.out)
  have cx := kx7.cell
  have fx := kx7.frozen
  have zx1 := kx7.lt
  have KT := Lib.hid kt7
  have KX := Lib.hid kx7
  clear kt7 kx7 kt6' kx6' S6
  go_wp2_with fail
  have S7 : Chg gx w7 (w7.setCell ⟨gx, 11, none⟩ (.int .u16 Y2)) := (Chg.refl gx _).set 11 (.int .u16 Y2)
  have kx7' := (KX.out.set 11 (.int .u16 Y2))
  have kt7' := (KT.out.far (p := ⟨gx, 11, none⟩) (Ne.symm zx) (.int .u16 Y2))
  have HW7' := Lib.hid (HW7.out.chg S7 (HA.out.mono fun _ h => by omega))
  have B7 : Bl w (w7.setCell ⟨gx, 11, none⟩ (.int .u16 Y2)) := S7.bl (X7.bl B6 z0) zxw
  clear cx fx zx1
  generalize (w7.setCell ⟨gx, 11, none⟩ (.int .u16 Y2)) = V7 at *
  (with_reducible refine (take32 gt A0 11 c0 _ _ _ 10 _ 0 false _ Y3 _ kt7' HW7'.out HN.out (by simp) (by omega) (by omega) rfl hY3.1 hY3.2).mono ?_)
  rintro e w8 ⟨rfl, X8, kt8⟩
  have kx8 := kx7'.chg X8 zx
  have HW8 := Lib.hid (HW7'.out.chg X8 HN.out)
  have cx := kx8.cell
  have fx := kx8.frozen
  have zx1 := kx8.lt
  have KT := Lib.hid kt8
  have KX := Lib.hid kx8
  clear kt8 kx8 kt7' kx7' S7
  go_wp2_with fail
  have S8 : Chg gx w8 (w8.setCell ⟨gx, 12, none⟩ (.int .u32 Y3)) := (Chg.refl gx _).set 12 (.int .u32 Y3)
  have kx8' := (KX.out.set 12 (.int .u32 Y3))
  have kt8' := (KT.out.far (p := ⟨gx, 12, none⟩) (Ne.symm zx) (.int .u32 Y3))
  have HW8' := Lib.hid (HW8.out.chg S8 (HA.out.mono fun _ h => by omega))
  have B8 : Bl w (w8.setCell ⟨gx, 12, none⟩ (.int .u32 Y3)) := S8.bl (X8.bl B7 z0) zxw
  clear cx fx zx1
  generalize (w8.setCell ⟨gx, 12, none⟩ (.int .u32 Y3)) = V8 at *
  (with_reducible refine (wholeT gt A0 A1 A2 11 c0 0 c1 0 c2 _ _ _ false _ kt8' (by simp) (by simp) (.inr rfl)).mono ?_)
  rintro e w9 ⟨rfl, q, rfl⟩
  have KX9 := Lib.hid kx8'
  clear kx8' kt8'
  go_wp2_with fail
  go_ret
  have KF := KX9.out.same (w' := V8.drewN q) rfl
  simp only [List.setIfInBounds_toArray, List.set_cons_zero, List.set_cons_succ] at KF
  exact ⟨gx, rfl, Bl.drewN B8 q, KF⟩
end Go.Proofs.Ytoljdgfbkebgcaa
