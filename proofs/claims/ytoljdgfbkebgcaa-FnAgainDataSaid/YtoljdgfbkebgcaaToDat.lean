/- impl.told: sctpdata. -/
import Derived.Test.YtoljdgfbkebgcaaRdSctp
import Derived.Test.YtoljdgfbkebgcaaDecDat
import Derived.Test.YtoljdgfbkebgcaaChunkv
import Derived.Test.YtoljdgfbkebgcaaHeld
import Derived.Test.YtoljdgfbkebgcaaFlo
namespace Go.Proofs.Ytoljdgfbkebgcaa
open Go.RowKit
theorem ud31 : Try.prog.underlying 31 = some (.slice 26) := by kernel_rfl
def b2i (b : Bool) : Int := if b then 1 else 0
theorem bit_g (b : Bool) (w : World) : Calls Try.prog 71 #[.bool b] w fun e w' => e = .returned (.int .u64 (b2i b)) ∧ w = w' := bit_any b w
set_option maxHeartbeats 4000000 in
set_option maxRecDepth 100000 in
theorem toldDat_any (A1 A : Option Addr) (n c1 m c gl : Nat) (l p : List Int) (w : World) (hl : By l) (h4 : 4 ≤ chL l) (hup : up4 (chL l) ≤ n) (h16 : 16 ≤ n) (hn2 : n ≤ 2000) (r : Rd .u8 w A1 n c1 l) (k : Blk w gl (datC A1 n c1 l) 103) (h : Rd .u8 w A m c p) (hp : By p) (hm : m ≤ 2000) :
    Calls Try.prog 49 #[.iface 97 (.pointer (some ⟨gl, 0, none⟩)), .slice A m c] w fun e w' =>
      Got w w' e ⟨[0, l.getD 1 0, be (sub l 2 4), 16, b2i (bits .and .u8 (l.getD 1 0) 4 != 0), b2i (bits .and .u8 (l.getD 1 0) 2 != 0), b2i (bits .and .u8 (l.getD 1 0) 1 != 0), be (sub l 4 8), be (sub l 8 10), be (sub l 10 12), be (sub l 12 16)], [], [], p⟩ := by
  have u4 : chL l ≤ up4 (chL l) := by unfold up4; omega
  have H := Lib.hid h
  have HP := Lib.hid hp
  have hlen := r.len
  have b1 := hl.getD 1
  have b2 := be_bd2 (sub l 2 4) (hl.sub _ _) (by rw [sub_length _ _ _ (by omega)])
  have y0 := be_bd4 (sub l 4 8) (hl.sub _ _) (by rw [sub_length _ _ _ (by omega)])
  have y1 := be_bd2 (sub l 8 10) (hl.sub _ _) (by rw [sub_length _ _ _ (by omega)])
  have y2 := be_bd2 (sub l 10 12) (hl.sub _ _) (by rw [sub_length _ _ _ (by omega)])
  have y3 := be_bd4 (sub l 12 16) (hl.sub _ _) (by rw [sub_length _ _ _ (by omega)])
  have hk : Blk w gl #[.slice A1 16 c1, .slice (cutA A1 c1 16) (n - (up4 (chL l) - chL l) - 16) (c1 - 16), .int .u8 0, .int .u8 (l.getD 1 0), .int .u16 (be (sub l 2 4)), .int .i64 16, .bool (bits .and .u8 (l.getD 1 0) 4 != 0), .bool (bits .and .u8 (l.getD 1 0) 2 != 0), .bool (bits .and .u8 (l.getD 1 0) 1 != 0), .int .u32 (be (sub l 4 8)), .int .u16 (be (sub l 8 10)), .int .u16 (be (sub l 10 12)), .int .u32 (be (sub l 12 16))] 103 := k
  generalize l.getD 1 0 = x1 at *
  generalize be (sub l 2 4) = L at *
  generalize be (sub l 4 8) = Y0 at *
  generalize be (sub l 8 10) = Y1 at *
  generalize be (sub l 10 12) = Y2 at *
  generalize be (sub l 12 16) = Y3 at *
  generalize (bits .and .u8 x1 4 != 0) = b4 at *
  generalize (bits .and .u8 x1 2 != 0) = b2' at *
  generalize (bits .and .u8 x1 1 != 0) = b1' at *
  generalize up4 (chL l) - chL l = D at *
  clear h hp hl r k
  have t0 := ta_97_90
  have t1 := ta_97
  go_enter Try.func49, Try.ntmps49
  go_wp2_with fail
  (with_reducible refine (clone_any _ _ _ _ _ (H.out.below (by go_grown)) (by omega)).mono ?_)
  rintro e w1 ⟨⟨A2, c2, rfl, ho⟩, hb1⟩
  have kr := Blk.keep hb1 (Blk.new w _ _)
  have kl := Blk.keep hb1 (hk.alloc _)
  have cl := kl.cell
  have zl := kl.lt
  have cr := kr.cell
  have fr := kr.frozen
  have zr := kr.lt
  have B0 : Bl w w1 := Bl.trans (by go_grown) hb1
  have v3 := Lib.hid (own_bytV (F := fun k => w.heap.size < k ∧ k ≠ w1.heap.size) ho HP.out (fun k h1 h2 => by simp at h1; exact ⟨by omega, by omega⟩))
  clear ho
  go_wp2_with fail
  have zlb : gl ≠ w1.heap.size := Nat.ne_of_lt zl
  have kb := Blk.new w1 #[.slice none 0 0, .slice none 0 0, .slice none 0 0, .slice A2 m c2] 35
  have kl1 := kl.alloc (.cells #[.slice none 0 0, .slice none 0 0, .slice none 0 0, .slice A2 m c2] 35)
  have kr1 := kr.alloc (.cells #[.slice none 0 0, .slice none 0 0, .slice none 0 0, .slice A2 m c2] 35)
  have B1 : Bl w (w1.alloc (.cells #[.slice none 0 0, .slice none 0 0, .slice none 0 0, .slice A2 m c2] 35)) := B0.trans (by go_grown)
  have v31 := Lib.hid (BytV.below v3.out (w' := w1.alloc (.cells #[.slice none 0 0, .slice none 0 0, .slice none 0 0, .slice A2 m c2] 35)) (by go_grown))
  clear v3 cl zl cr fr kl kr hb1 hk B0
  have zr' : w.heap.size < w1.heap.size := zr
  generalize w1.alloc (.cells #[.slice none 0 0, .slice none 0 0, .slice none 0 0, .slice A2 m c2] 35) = W at *
  generalize w1.heap.size = gb at *
  clear zr
  have zW : gb < W.heap.size := kb.lt
  have hgb : w.heap.size ≠ gb := Nat.ne_of_lt zr'
  have k0 : ∀ d os, (Sort.grow (redrawn W d) os).cell? ⟨gl, 0, none⟩ = some (.slice A1 16 c1) := fun d os => cell_regrown (kl1.cell 0) d os
  have k1 : ∀ d os, (Sort.grow (redrawn W d) os).cell? ⟨gl, 1, none⟩ = some (.slice (cutA A1 c1 16) (n - D - 16) (c1 - 16)) := fun d os => cell_regrown (kl1.cell 1) d os
  have k2 : ∀ d os, (Sort.grow (redrawn W d) os).cell? ⟨gl, 2, none⟩ = some (.int .u8 0) := fun d os => cell_regrown (kl1.cell 2) d os
  have k3 : ∀ d os, (Sort.grow (redrawn W d) os).cell? ⟨gl, 3, none⟩ = some (.int .u8 x1) := fun d os => cell_regrown (kl1.cell 3) d os
  have k4 : ∀ d os, (Sort.grow (redrawn W d) os).cell? ⟨gl, 4, none⟩ = some (.int .u16 L) := fun d os => cell_regrown (kl1.cell 4) d os
  have k5 : ∀ d os, (Sort.grow (redrawn W d) os).cell? ⟨gl, 5, none⟩ = some (.int .i64 16) := fun d os => cell_regrown (kl1.cell 5) d os
  have k6 : ∀ d os, (Sort.grow (redrawn W d) os).cell? ⟨gl, 6, none⟩ = some (.bool b4) := fun d os => cell_regrown (kl1.cell 6) d os
  have k7 : ∀ d os, (Sort.grow (redrawn W d) os).cell? ⟨gl, 7, none⟩ = some (.bool b2') := fun d os => cell_regrown (kl1.cell 7) d os
  have k8 : ∀ d os, (Sort.grow (redrawn W d) os).cell? ⟨gl, 8, none⟩ = some (.bool b1') := fun d os => cell_regrown (kl1.cell 8) d os
  have k9 : ∀ d os, (Sort.grow (redrawn W d) os).cell? ⟨gl, 9, none⟩ = some (.int .u32 Y0) := fun d os => cell_regrown (kl1.cell 9) d os
  have k10 : ∀ d os, (Sort.grow (redrawn W d) os).cell? ⟨gl, 10, none⟩ = some (.int .u16 Y1) := fun d os => cell_regrown (kl1.cell 10) d os
  have k11 : ∀ d os, (Sort.grow (redrawn W d) os).cell? ⟨gl, 11, none⟩ = some (.int .u16 Y2) := fun d os => cell_regrown (kl1.cell 11) d os
  have k12 : ∀ d os, (Sort.grow (redrawn W d) os).cell? ⟨gl, 12, none⟩ = some (.int .u32 Y3) := fun d os => cell_regrown (kl1.cell 12) d os
  refine wp_region_float (S := Grw W) [true, true, true, true, true, false, true, true, true, true, false, true, true, true, true, false, true, true, true, true, false, true, true, true, true, true, true, true, true, true, true, true, true, true, true, true, true, true, true, true, true, false, false, false, false, false] 43 (by kernel_rfl) (by kernel_rfl) (Grw.drew W) ?_
  simp only [selQ, selN, earlyN]
  repeat (first | go_big_quiet_skip | (go_big_quiet_want; go_big_quiet_op; go_big_quiet_on))
  refine wpQuiet_nil ?_
  have Bd : Bl W W.drew := (Bl.refl W).drew
  refine wpN_want rfl (fun K hK => ?_)
  go_big_op
  (with_reducible refine (chunkv_g _ _ _ _ _ _ _ _ _ _ _ (by omega) b1 b2 (by omega)).mono ?_)
  rintro e w2 ⟨gn, rfl, hb2, ho'⟩
  have ho : w2.ownsRow W.heap.size 26 1 (.slice (some ⟨gn, 0, none⟩) 4 4) 4 ([0, x1, L, 16].map (Value.int .u64)) := ho'
  have OW := Lib.hid ho
  clear ho ho'
  have B2 := Bd.trans hb2
  refine hK _ _ (Grw.of B2) ?_
  clear hK K
  refine wpN_want rfl (fun K hK => ?_)
  go_big_op
  (with_reducible refine (bit_g _ _).mono ?_)
  rintro e w3 ⟨rfl, rfl⟩
  refine hK _ _ (Grw.of B2) ?_
  clear hK K
  refine wpN_want rfl (fun K hK => ?_)
  go_big_op
  (with_reducible refine (bit_g _ _).mono ?_)
  rintro e w3 ⟨rfl, rfl⟩
  refine hK _ _ (Grw.of B2) ?_
  clear hK K
  refine wpN_want rfl (fun K hK => ?_)
  go_big_op
  (with_reducible refine (bit_g _ _).mono ?_)
  rintro e w3 ⟨rfl, rfl⟩
  refine hK _ _ (Grw.of B2) ?_
  clear hK K
  refine wpN_want rfl (fun K hK => ?_)
  go_big_op
  have B3 : Bl W (w2.alloc (.cells #[.int .u64 (b2i b4), .int .u64 (b2i b2'), .int .u64 (b2i b1'), .int .u64 Y0, .int .u64 Y1, .int .u64 Y2, .int .u64 Y3] 26)) := B2.trans (by go_grown)
  refine hK _ _ (Grw.of B3) ?_
  clear hK K
  refine wpN_if rfl (fun K hK => ?_)
  refine step_app rfl _ _ 31 26 (.int .u64 0) 1 8 W.heap.size rfl ud31 info26 rfl (by decide) (by decide) (.slice (some ⟨gn, 0, none⟩) 4 4) 4 _ _ 7 _ _ rfl rfl (OW.out.alloc (.cells #[.int .u64 (b2i b4), .int .u64 (b2i b2'), .int .u64 (b2i b1'), .int .u64 Y0, .int .u64 Y1, .int .u64 Y2, .int .u64 Y3] 26)) (Blk.src (Blk.new w2 #[.int .u64 (b2i b4), .int .u64 (b2i b2'), .int .u64 (b2i b1'), .int .u64 Y0, .int .u64 Y1, .int .u64 Y2, .int .u64 Y3] 26) 7 1 rfl (fun u hu => by simp at hu; rcases hu with rfl | rfl | rfl | rfl | rfl | rfl | rfl <;> rfl)) (by omega) B3.size ?_
  intro A5 c5 w3 hp
  have BW : Bl W w3 := hp.bl (OW.out.alloc (.cells #[.int .u64 (b2i b4), .int .u64 (b2i b2'), .int .u64 (b2i b1'), .int .u64 Y0, .int .u64 Y1, .int .u64 Y2, .int .u64 Y3] 26)) B3
  have ho5 := Lib.hid hp.own
  clear hp
  refine hK _ _ (Grw.of BW) ?_
  clear hK K
  have kb3 := Blk.keep BW kb
  have kr3 := Blk.keep BW kr1
  have v33 := Lib.hid (BytV.below v31.out BW)
  have B4 := B1.trans BW
  have cb := kb3.cell
  have fb := kb3.frozen
  have zb := kb3.lt
  have cr := kr3.cell
  have fr := kr3.frozen
  have zr := kr3.lt
  clear k0 k1 k2 k3 k4 k5 k6 k7 k8 k9 k10 k11 k12
  refine wpN_late ?_
  go_wp2_with fail
  refine NoPanic.normal ?_
  go_wp2_with fail
  have hL : LyrV (fun k => w.heap.size < k ∧ k ≠ gb) w3 (.agg #[.slice A5 11 c5, .slice none 0 0, .slice none 0 0, .slice A2 m c2]) ⟨[0, x1, L, 16, b2i b4, b2i b2', b2i b1', Y0, Y1, Y2, Y3], [], [], p⟩ :=
    ⟨_, _, _, _, rfl, own_numV (l := [0, x1, L, 16, b2i b4, b2i b2', b2i b1', Y0, Y1, Y2, Y3]) ho5.out (fun k h1 _ => ⟨by have : W.heap.size ≤ k := h1; omega, by have : W.heap.size ≤ k := h1; omega⟩), DataV.nil _ _, PartsV.nil _ _, v33.out⟩
  have hL1 := LyrV.keepF hL ((KeepF.refl _ w3).setCell (p := ⟨gb, 0, none⟩) (fun h => h.2 rfl) (.slice A5 11 c5))
  have hL2 := LyrV.boxed (g := w.heap.size) hL1 (fun h => Nat.lt_irrefl _ h.1) (.slice A5 11 c5) (.slice none 0 0) (.slice none 0 0) (.slice A2 m c2)
  have BF := Bl.boxed (Below.setCell B4 (p := ⟨gb, 0, none⟩) (Nat.le_of_lt zr') (.slice A5 11 c5)) (Nat.le_refl _) (.slice A5 11 c5) (.slice none 0 0) (.slice none 0 0) (.slice A2 m c2)
  have kf := ((((kr3.far (p := ⟨gb, 0, none⟩) hgb (.slice A5 11 c5)).set 0 (.slice A5 11 c5)).set 1 (.slice none 0 0)).set 2 (.slice none 0 0)).set 3 (.slice A2 m c2)
  have cf := kf.cell
  clear hL hL1 kf
  generalize (((((w3.setCell ⟨gb, 0, none⟩ (.slice A5 11 c5)).setCell ⟨w.heap.size, 0, none⟩ (.slice A5 11 c5)).setCell ⟨w.heap.size, 1, none⟩ (.slice none 0 0)).setCell ⟨w.heap.size, 2, none⟩ (.slice none 0 0)).setCell ⟨w.heap.size, 3, none⟩ (.slice A2 m c2)) = WF at *
  refine bodyPost_ret (v := .tuple #[.agg #[.slice A5 11 c5, .slice none 0 0, .slice none 0 0, .slice A2 m c2], .bool true]) (by simp [results, Try.results49, go_sem, cf]) rfl ⟨_, rfl, LyrV.mono hL2 (fun k h => Nat.le_of_lt h.1), BF⟩
end Go.Proofs.Ytoljdgfbkebgcaa
