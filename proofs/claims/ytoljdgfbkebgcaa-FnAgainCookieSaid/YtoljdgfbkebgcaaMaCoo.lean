/- impl.made: sctpcookieecho. -/
import Derived.Test.YtoljdgfbkebgcaaTake2
import Derived.Test.YtoljdgfbkebgcaaHeld
namespace Go.Proofs.Ytoljdgfbkebgcaa
open Go.RowKit
set_option maxHeartbeats 4000000 in
set_option maxRecDepth 100000 in
theorem maCoo_any (A0 A2 A3 : Option Addr) (c0 c1 c2 n3 c3 : Nat) (x0 x1 L U : Int) (p : List Int) (A : Option Addr) (n c g1 o1 : Nat) (w : World) (h : Rd .u64 w A0 4 c0 [x0, x1, L, U]) (b0 : 0 ≤ x0 ∧ x0 ≤ 255) (b1 : 0 ≤ x1 ∧ x1 ≤ 255) (b2 : 0 ≤ L ∧ L ≤ 65535) (b3 : 0 ≤ U ∧ U ≤ 4294967295) (hg1 : w.cell? ⟨g1, o1, none⟩ = some (.slice A n c)) (hp : Rd .u8 w A n c p) (hn : n ≤ 2147483647) :
    Calls Try.prog 40 #[.string ⟨#[115, 99, 116, 112, 99, 111, 111, 107, 105, 101, 101, 99, 104, 111]⟩, .agg #[.slice A0 4 c0, .slice (some ⟨g1, o1, none⟩) 1 c1, .slice A2 0 c2, .slice A3 n3 c3]] w fun e w' =>
      ∃ gx, e = .returned (.iface 136 (.pointer (some ⟨gx, 0, none⟩))) ∧ Bl w w' ∧ ∃ A5 c5, Blk w' gx #[.slice none 0 0, .slice none 0 0, .int .u8 x0, .int .u8 x1, .int .u16 L, .int .i64 U, .slice A5 n c5] 138 ∧ w'.ownsRow w.heap.size 5 1 (.slice A5 n c5) n (p.map (Value.int .u8)) := by
  have H := Lib.hid h
  have HA0 := h.inF
  have HP := Lib.hid hp
  have HPA := hp.inF
  have hgl := World.block_lt_of_cell? w _ hg1
  have HG := Lib.hid hg1
  clear hp hg1
  clear h
  go_enter Try.func40, Try.ntmps40
  go_wp2_with fail
  have B0 : Bl w (((w.alloc (.cells #[.slice A0 4 c0, .slice (some ⟨g1, o1, none⟩) 1 c1, .slice A2 0 c2, .slice A3 n3 c3] 35)).alloc (.cells #[.slice A0 4 c0, .slice (some ⟨g1, o1, none⟩) 1 c1, .slice A2 0 c2, .slice A3 n3 c3, .int .i64 0, .int .i64 0, .bool false, .bool false] 89)).alloc (.cells #[.slice none 0 0, .slice none 0 0, .int .u8 0, .int .u8 0, .int .u16 0, .int .i64 0, .slice none 0 0] 138)) := by go_grown
  have kt0 : Blk (((w.alloc (.cells #[.slice A0 4 c0, .slice (some ⟨g1, o1, none⟩) 1 c1, .slice A2 0 c2, .slice A3 n3 c3] 35)).alloc (.cells #[.slice A0 4 c0, .slice (some ⟨g1, o1, none⟩) 1 c1, .slice A2 0 c2, .slice A3 n3 c3, .int .i64 0, .int .i64 0, .bool false, .bool false] 89)).alloc (.cells #[.slice none 0 0, .slice none 0 0, .int .u8 0, .int .u8 0, .int .u16 0, .int .i64 0, .slice none 0 0] 138)) (w.heap.size + 1) (tkC A0 4 c0 (.slice (some ⟨g1, o1, none⟩) 1 c1) (.slice A2 0 c2) (.slice A3 n3 c3) 0 0 false) 89 := (Blk.newAt _ _ _ _ (by simp)).alloc _
  have kx0 : Blk (((w.alloc (.cells #[.slice A0 4 c0, .slice (some ⟨g1, o1, none⟩) 1 c1, .slice A2 0 c2, .slice A3 n3 c3] 35)).alloc (.cells #[.slice A0 4 c0, .slice (some ⟨g1, o1, none⟩) 1 c1, .slice A2 0 c2, .slice A3 n3 c3, .int .i64 0, .int .i64 0, .bool false, .bool false] 89)).alloc (.cells #[.slice none 0 0, .slice none 0 0, .int .u8 0, .int .u8 0, .int .u16 0, .int .i64 0, .slice none 0 0] 138)) (w.heap.size + 1 + 1) #[.slice none 0 0, .slice none 0 0, .int .u8 0, .int .u8 0, .int .u16 0, .int .i64 0, .slice none 0 0] 138 := Blk.newAt _ _ _ _ (by simp)
  have HA : Hid (InF (· < w.heap.size + 1) A0 4) := Lib.hid (HA0.mono fun _ h => Nat.lt_of_lt_of_le h (Nat.le_succ _))
  have HN : Hid (InF (· ≠ w.heap.size + 1) A0 4) := Lib.hid (HA0.mono fun _ h => Nat.ne_of_lt (Nat.lt_of_lt_of_le h (Nat.le_succ _)))
  have z0 : w.heap.size ≤ w.heap.size + 1 := Nat.le_succ _
  have zx : w.heap.size + 1 + 1 ≠ w.heap.size + 1 := by omega
  have zxw : w.heap.size ≤ w.heap.size + 1 + 1 := by omega
  have HW := Lib.hid (H.out.below B0)
  have HPW := Lib.hid (HP.out.below B0)
  have HPN : Hid (InF (· < w.heap.size + 1) A n) := Lib.hid (HPA.mono fun _ h => Nat.lt_of_lt_of_le h (Nat.le_succ _))
  have HGW := Lib.hid (B0.keeps HG.out)
  have hgl1 : g1 < w.heap.size + 1 := Nat.lt_of_lt_of_le hgl (Nat.le_succ _)
  have hsw : w.heap.size ≤ (((w.alloc (.cells #[.slice A0 4 c0, .slice (some ⟨g1, o1, none⟩) 1 c1, .slice A2 0 c2, .slice A3 n3 c3] 35)).alloc (.cells #[.slice A0 4 c0, .slice (some ⟨g1, o1, none⟩) 1 c1, .slice A2 0 c2, .slice A3 n3 c3, .int .i64 0, .int .i64 0, .bool false, .bool false] 89)).alloc (.cells #[.slice none 0 0, .slice none 0 0, .int .u8 0, .int .u8 0, .int .u16 0, .int .i64 0, .slice none 0 0] 138)).heap.size := B0.size
  clear HA0 HPA
  generalize (((w.alloc (.cells #[.slice A0 4 c0, .slice (some ⟨g1, o1, none⟩) 1 c1, .slice A2 0 c2, .slice A3 n3 c3] 35)).alloc (.cells #[.slice A0 4 c0, .slice (some ⟨g1, o1, none⟩) 1 c1, .slice A2 0 c2, .slice A3 n3 c3, .int .i64 0, .int .i64 0, .bool false, .bool false] 89)).alloc (.cells #[.slice none 0 0, .slice none 0 0, .int .u8 0, .int .u8 0, .int .u16 0, .int .i64 0, .slice none 0 0] 138)) = W0 at *
  generalize hgx : w.heap.size + 1 + 1 = gx at *
  generalize hgt : w.heap.size + 1 = gt at *
  (with_reducible refine (chunkT gt A0 4 c0 _ _ _ 0 false _ x0 x1 L U _ kt0 HW.out HA.out (by omega) (by omega) rfl rfl rfl rfl b0 b1 b2 b3).mono ?_)
  rintro e w1 ⟨rfl, ch1, kt1⟩
  have kx1 := kx0.chg ch1 zx
  have X1 := ch1
  have HP1 := Lib.hid (HPW.out.chg ch1 (HPN.out.mono fun _ h => Nat.ne_of_lt h))
  have HG1 := Lib.hid ((World.cell?_of_block (a := ⟨g1, o1, none⟩) (ch1.block g1 (Nat.ne_of_lt hgl1) (World.block_lt_of_cell? W0 _ HGW.out))).trans HGW.out)
  have HW1 := Lib.hid (HW.out.chg ch1 HN.out)
  have cx := kx1.cell
  have fx := kx1.frozen
  have zx1 := kx1.lt
  have KT := Lib.hid kt1
  have KX := Lib.hid kx1
  clear kt0 kx0 kt1 kx1 ch1
  go_wp2_with fail
  have S1 : Chg gx w1 ((((((w1.setCell ⟨gx, 0, none⟩ (.slice none 0 0)).setCell ⟨gx, 1, none⟩ (.slice none 0 0)).setCell ⟨gx, 2, none⟩ (.int .u8 x0)).setCell ⟨gx, 3, none⟩ (.int .u8 x1)).setCell ⟨gx, 4, none⟩ (.int .u16 L)).setCell ⟨gx, 5, none⟩ (.int .i64 U)) := ((((((Chg.refl gx _).set 0 (.slice none 0 0)).set 1 (.slice none 0 0)).set 2 (.int .u8 x0)).set 3 (.int .u8 x1)).set 4 (.int .u16 L)).set 5 (.int .i64 U)
  have kx1' := ((((((KX.out.set 0 (.slice none 0 0)).set 1 (.slice none 0 0)).set 2 (.int .u8 x0)).set 3 (.int .u8 x1)).set 4 (.int .u16 L)).set 5 (.int .i64 U))
  have kt1' := ((((((KT.out.far (p := ⟨gx, 0, none⟩) (Ne.symm zx) (.slice none 0 0)).far (p := ⟨gx, 1, none⟩) (Ne.symm zx) (.slice none 0 0)).far (p := ⟨gx, 2, none⟩) (Ne.symm zx) (.int .u8 x0)).far (p := ⟨gx, 3, none⟩) (Ne.symm zx) (.int .u8 x1)).far (p := ⟨gx, 4, none⟩) (Ne.symm zx) (.int .u16 L)).far (p := ⟨gx, 5, none⟩) (Ne.symm zx) (.int .i64 U))
  have HW1' := Lib.hid (HW1.out.chg S1 (HA.out.mono fun _ h => by omega))
  have HP1' := Lib.hid (HP1.out.chg S1 (HPN.out.mono fun _ h => by omega))
  have HG1' := Lib.hid ((World.cell?_of_block (a := ⟨g1, o1, none⟩) (S1.block g1 (by omega) (World.block_lt_of_cell? w1 _ HG1.out))).trans HG1.out)
  have B1 : Bl w ((((((w1.setCell ⟨gx, 0, none⟩ (.slice none 0 0)).setCell ⟨gx, 1, none⟩ (.slice none 0 0)).setCell ⟨gx, 2, none⟩ (.int .u8 x0)).setCell ⟨gx, 3, none⟩ (.int .u8 x1)).setCell ⟨gx, 4, none⟩ (.int .u16 L)).setCell ⟨gx, 5, none⟩ (.int .i64 U)) := S1.bl (X1.bl B0 z0) zxw
  clear cx fx zx1
  generalize ((((((w1.setCell ⟨gx, 0, none⟩ (.slice none 0 0)).setCell ⟨gx, 1, none⟩ (.slice none 0 0)).setCell ⟨gx, 2, none⟩ (.int .u8 x0)).setCell ⟨gx, 3, none⟩ (.int .u8 x1)).setCell ⟨gx, 4, none⟩ (.int .u16 L)).setCell ⟨gx, 5, none⟩ (.int .i64 U)) = V1 at *
  (with_reducible refine (bytesT gt _ _ _ g1 1 c1 o1 _ A n c p false _ kt1' (by omega) hgl1 HG1'.out HP1'.out HPN.out hn).mono ?_)
  rintro e w2 ⟨⟨A5, c5, rfl, ho⟩, X2, kt2⟩
  have kx2 := kx1'.chg X2 zx
  have HO := Lib.hid (own_mono ho B1.size)
  have cx := kx2.cell
  have fx := kx2.frozen
  have zx1 := kx2.lt
  have KT := Lib.hid kt2
  have KX := Lib.hid kx2
  have B1' := Lib.hid (X2.bl B1 z0)
  clear kt2 kx2 kt1' kx1' S1 ho
  go_wp2_with fail
  have kx2' := KX.out.set 6 (.slice A5 n c5)
  have kt2' := KT.out.far (p := ⟨gx, 6, none⟩) (Ne.symm zx) (.slice A5 n c5)
  have ho2 := own_set HO.out KX.out (by decide) 6 (.slice A5 n c5)
  have B2 : Bl w (w2.setCell ⟨gx, 6, none⟩ (.slice A5 n c5)) := Below.setCell B1'.out zxw _
  clear cx fx zx1
  generalize (w2.setCell ⟨gx, 6, none⟩ (.slice A5 n c5)) = V2 at *
  (with_reducible refine (wholeT gt A0 (some ⟨g1, o1, none⟩) A2 4 c0 1 c1 0 c2 _ _ _ false _ kt2' (by simp) (by simp) (.inr rfl)).mono ?_)
  rintro e w9 ⟨rfl, q, rfl⟩
  have KX9 := Lib.hid kx2'
  have HO9 := Lib.hid ho2
  clear ho2
  clear kx2' kt2'
  go_wp2_with fail
  go_ret
  exact ⟨gx, rfl, Bl.drewN B2 q, A5, c5, KX9.out.same rfl, own_same HO9.out rfl⟩
end Go.Proofs.Ytoljdgfbkebgcaa
