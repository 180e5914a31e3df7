/- impl.made: sctp. -/
import Derived.Test.YtoljdgfbkebgcaaTake2
namespace Go.Proofs.Ytoljdgfbkebgcaa
open Go.RowKit
set_option maxHeartbeats 4000000 in
set_option maxRecDepth 100000 in
theorem maSctp_any (A0 A1 A2 A3 : Option Addr) (c0 c1 c2 n3 c3 : Nat) (S D T C : Int) (w : World) (h : Rd .u64 w A0 4 c0 [S, D, T, C]) (hS : 0 ≤ S ∧ S ≤ 65535) (hD : 0 ≤ D ∧ D ≤ 65535) (hT : 0 ≤ T ∧ T ≤ 4294967295) (hC : 0 ≤ C ∧ C ≤ 4294967295) :
    Calls Try.prog 40 #[.string ⟨#[115, 99, 116, 112]⟩, .agg #[.slice A0 4 c0, .slice A1 0 c1, .slice A2 0 c2, .slice A3 n3 c3]] w fun e w' =>
      ∃ gx, e = .returned (.iface 90 (.pointer (some ⟨gx, 0, none⟩))) ∧ Bl w w' ∧ Blk w' gx #[.slice none 0 0, .slice none 0 0, .int .u16 S, .int .u16 D, .int .u32 T, .int .u32 C] 95 := by
  have H := Lib.hid h
  have HA0 := h.inF
  clear h
  go_enter Try.func40, Try.ntmps40
  go_wp2_with fail
  have B0 : Bl w (((w.alloc (.cells #[.slice A0 4 c0, .slice A1 0 c1, .slice A2 0 c2, .slice A3 n3 c3] 35)).alloc (.cells #[.slice A0 4 c0, .slice A1 0 c1, .slice A2 0 c2, .slice A3 n3 c3, .int .i64 0, .int .i64 0, .bool false, .bool false] 89)).alloc (.cells #[.slice none 0 0, .slice none 0 0, .int .u16 0, .int .u16 0, .int .u32 0, .int .u32 0] 95)) := by go_grown
  have kt1' : Blk (((w.alloc (.cells #[.slice A0 4 c0, .slice A1 0 c1, .slice A2 0 c2, .slice A3 n3 c3] 35)).alloc (.cells #[.slice A0 4 c0, .slice A1 0 c1, .slice A2 0 c2, .slice A3 n3 c3, .int .i64 0, .int .i64 0, .bool false, .bool false] 89)).alloc (.cells #[.slice none 0 0, .slice none 0 0, .int .u16 0, .int .u16 0, .int .u32 0, .int .u32 0] 95)) (w.heap.size + 1) (tkC A0 4 c0 (.slice A1 0 c1) (.slice A2 0 c2) (.slice A3 n3 c3) 0 0 false) 89 := (Blk.newAt _ _ _ _ (by simp)).alloc _
  have kx1' : Blk (((w.alloc (.cells #[.slice A0 4 c0, .slice A1 0 c1, .slice A2 0 c2, .slice A3 n3 c3] 35)).alloc (.cells #[.slice A0 4 c0, .slice A1 0 c1, .slice A2 0 c2, .slice A3 n3 c3, .int .i64 0, .int .i64 0, .bool false, .bool false] 89)).alloc (.cells #[.slice none 0 0, .slice none 0 0, .int .u16 0, .int .u16 0, .int .u32 0, .int .u32 0] 95)) (w.heap.size + 1 + 1) #[.slice none 0 0, .slice none 0 0, .int .u16 0, .int .u16 0, .int .u32 0, .int .u32 0] 95 := Blk.newAt _ _ _ _ (by simp)
  have HA : Hid (InF (· < w.heap.size + 1) A0 4) := Lib.hid (HA0.mono fun _ h => Nat.lt_of_lt_of_le h (Nat.le_succ _))
  have HN : Hid (InF (· ≠ w.heap.size + 1) A0 4) := Lib.hid (HA0.mono fun _ h => Nat.ne_of_lt (Nat.lt_of_lt_of_le h (Nat.le_succ _)))
  have z0 : w.heap.size ≤ w.heap.size + 1 := Nat.le_succ _
  have zx : w.heap.size + 1 + 1 ≠ w.heap.size + 1 := by omega
  have zxw : w.heap.size ≤ w.heap.size + 1 + 1 := by omega
  have HW1' := Lib.hid (H.out.below B0)
  clear HA0
  generalize (((w.alloc (.cells #[.slice A0 4 c0, .slice A1 0 c1, .slice A2 0 c2, .slice A3 n3 c3] 35)).alloc (.cells #[.slice A0 4 c0, .slice A1 0 c1, .slice A2 0 c2, .slice A3 n3 c3, .int .i64 0, .int .i64 0, .bool false, .bool false] 89)).alloc (.cells #[.slice none 0 0, .slice none 0 0, .int .u16 0, .int .u16 0, .int .u32 0, .int .u32 0] 95)) = W0 at *
  generalize hgx : w.heap.size + 1 + 1 = gx at *
  generalize hgt : w.heap.size + 1 = gt at *
  (with_reducible refine (take16 gt A0 4 c0 _ _ _ 0 _ 0 false _ S _ kt1' HW1'.out HN.out (by simp) (by omega) (by omega) rfl hS.1 hS.2).mono ?_)
  rintro e w2 ⟨rfl, X2, kt2⟩
  have kx2 := kx1'.chg X2 zx
  have HW2 := Lib.hid (HW1'.out.chg X2 HN.out)
  have cx := kx2.cell
  have fx := kx2.frozen
  have zx1 := kx2.lt
  have KT := Lib.hid kt2
  have KX := Lib.hid kx2
  clear kt2 kx2 kt1' kx1'
  go_wp2_with fail
  have S2 : Chg gx w2 (w2.setCell ⟨gx, 2, none⟩ (.int .u16 S)) := (Chg.refl gx _).set 2 (.int .u16 S)
  have kx2' := (KX.out.set 2 (.int .u16 S))
  have kt2' := (KT.out.far (p := ⟨gx, 2, none⟩) (Ne.symm zx) (.int .u16 S))
  have HW2' := Lib.hid (HW2.out.chg S2 (HA.out.mono fun _ h => by omega))
  have B2 : Bl w (w2.setCell ⟨gx, 2, none⟩ (.int .u16 S)) := S2.bl (X2.bl B0 z0) zxw
  clear cx fx zx1
  generalize (w2.setCell ⟨gx, 2, none⟩ (.int .u16 S)) = V2 at *
  (with_reducible refine (take16 gt A0 4 c0 _ _ _ 1 _ 0 false _ D _ kt2' HW2'.out HN.out (by simp) (by omega) (by omega) rfl hD.1 hD.2).mono ?_)
  rintro e w3 ⟨rfl, X3, kt3⟩
  have kx3 := kx2'.chg X3 zx
  have HW3 := Lib.hid (HW2'.out.chg X3 HN.out)
  have cx := kx3.cell
  have fx := kx3.frozen
  have zx1 := kx3.lt
  have KT := Lib.hid kt3
  have KX := Lib.hid kx3
  clear kt3 kx3 kt2' kx2' S2
  go_wp2_with fail
  have S3 : Chg gx w3 (w3.setCell ⟨gx, 3, none⟩ (.int .u16 D)) := (Chg.refl gx _).set 3 (.int .u16 D)
  have kx3' := (KX.out.set 3 (.int .u16 D))
  have kt3' := (KT.out.far (p := ⟨gx, 3, none⟩) (Ne.symm zx) (.int .u16 D))
  have HW3' := Lib.hid (HW3.out.chg S3 (HA.out.mono fun _ h => by omega))
  have B3 : Bl w (w3.setCell ⟨gx, 3, none⟩ (.int .u16 D)) := S3.bl (X3.bl B2 z0) zxw
  clear cx fx zx1
  generalize (w3.setCell ⟨gx, 3, none⟩ (.int .u16 D)) = V3 at *
  (with_reducible refine (take32 gt A0 4 c0 _ _ _ 2 _ 0 false _ T _ kt3' HW3'.out HN.out (by simp) (by omega) (by omega) rfl hT.1 hT.2).mono ?_)
  rintro e w4 ⟨rfl, X4, kt4⟩
  have kx4 := kx3'.chg X4 zx
  have HW4 := Lib.hid (HW3'.out.chg X4 HN.out)
  have cx := kx4.cell
  have fx := kx4.frozen
  have zx1 := kx4.lt
  have KT := Lib.hid kt4
  have KX := Lib.hid kx4
  clear kt4 kx4 kt3' kx3' S3
  go_wp2_with fail
  have S4 : Chg gx w4 (w4.setCell ⟨gx, 4, none⟩ (.int .u32 T)) := (Chg.refl gx _).set 4 (.int .u32 T)
  have kx4' := (KX.out.set 4 (.int .u32 T))
  have kt4' := (KT.out.far (p := ⟨gx, 4, none⟩) (Ne.symm zx) (.int .u32 T))
  have HW4' := Lib.hid (HW4.out.chg S4 (HA.out.mono fun _ h => by omega))
  have B4 : Bl w (w4.setCell ⟨gx, 4, none⟩ (.int .u32 T)) := S4.bl (X4.bl B3 z0) zxw
  clear cx fx zx1
  generalize (w4.setCell ⟨gx, 4, none⟩ (.int .u32 T)) = V4 at *
  (with_reducible refine (take32 gt A0 4 c0 _ _ _ 3 _ 0 false _ C _ kt4' HW4'.out HN.out (by simp) (by omega) (by omega) rfl hC.1 hC.2).mono ?_)
  rintro e w5 ⟨rfl, X5, kt5⟩
  have kx5 := kx4'.chg X5 zx
  have HW5 := Lib.hid (HW4'.out.chg X5 HN.out)
  have cx := kx5.cell
  have fx := kx5.frozen
  have zx1 := kx5.lt
  have KT := Lib.hid kt5
  have KX := Lib.hid kx5
  clear kt5 kx5 kt4' kx4' S4
  go_wp2_with fail
  have S5 : Chg gx w5 (w5.setCell ⟨gx, 5, none⟩ (.int .u32 C)) := (Chg.refl gx _).set 5 (.int .u32 C)
  have kx5' := (KX.out.set 5 (.int .u32 C))
  have kt5' := (KT.out.far (p := ⟨gx, 5, none⟩) (Ne.symm zx) (.int .u32 C))
  have HW5' := Lib.hid (HW5.out.chg S5 (HA.out.mono fun _ h => by omega))
  have B5 : Bl w (w5.setCell ⟨gx, 5, none⟩ (.int .u32 C)) := S5.bl (X5.bl B4 z0) zxw
  clear cx fx zx1
  generalize (w5.setCell ⟨gx, 5, none⟩ (.int .u32 C)) = V5 at *
  (with_reducible refine (wholeT gt A0 A1 A2 4 c0 0 c1 0 c2 _ _ _ false _ kt5' (by simp) (by simp) (.inr rfl)).mono ?_)
  rintro e w9 ⟨rfl, q, rfl⟩
  have KX9 := Lib.hid kx5'
  clear kx5' kt5'
  go_wp2_with fail
  go_ret
  have KF := KX9.out.same (w' := V5.drewN q) rfl
  simp only [List.setIfInBounds_toArray, List.set_cons_zero, List.set_cons_succ] at KF
  exact ⟨gx, rfl, Bl.drewN B5 q, KF⟩
end Go.Proofs.Ytoljdgfbkebgcaa
