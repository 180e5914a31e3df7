/- sctpdata: its decoder. impl.told: sctpdata. ZZDecode, called, impl.Read: sctpdata. -/
import Derived.Test.YtoljdgfbkebgcaaPq03
import Derived.Test.YtoljdgfbkebgcaaPq01
import Derived.Test.YtoljdgfbkebgcaaPq04
import Derived.Test.YtoljdgfbkebgcaaPq07
namespace Go.Proofs.Ytoljdgfbkebgcaa
open Go.RowKit
set_option linter.unusedVariables false
/-- The cells of a chunk of data. -/
def datC (A : Option Addr) (n c : Nat) (l : List Int) : Array Value :=
  #[.slice A 16 c, .slice (cutA A c 16) (n - (up4 (chL l) - chL l) - 16) (c - 16), .int .u8 0, .int .u8 (l.getD 1 0), .int .u16 (be (sub l 2 4)), .int .i64 16, .bool (bits .and .u8 (l.getD 1 0) 4 != 0), .bool (bits .and .u8 (l.getD 1 0) 2 != 0), .bool (bits .and .u8 (l.getD 1 0) 1 != 0), .int .u32 (be (sub l 4 8)), .int .u16 (be (sub l 8 10)), .int .u16 (be (sub l 10 12)), .int .u32 (be (sub l 12 16))]
set_option maxHeartbeats 4000000 in
set_option maxRecDepth 100000 in
theorem decDat_any (A : Option Addr) (n c gk : Nat) (l : List Int) (w : World) (h : Rd .u8 w A n c l) (hl : By l) (h4 : 4 ≤ chL l) (hn : up4 (chL l) ≤ n) (h16 : 16 + (up4 (chL l) - chL l) ≤ n) (h0 : l.getD 0 0 = 0) (hn2 : n ≤ 2147483647) (x : Value) (k : Blk w gk #[x] 164) :
    Calls Try.prog 78 #[.slice A n c, .iface 162 (.pointer (some ⟨gk, 0, none⟩))] w fun e w' => e = .returned .nilIface ∧ ∃ gl, Kept w w' gk 97 103 gl (datC A n c l) := by
  have hk := k.lt
  have s1 := run_cut A n c 4 8 4 8 rfl rfl (by omega) (by have := h.cap; omega) 24 Try.underlying24 size5
  have s2 := run_cut A n c 8 10 8 10 rfl rfl (by omega) (by have := h.cap; omega) 24 Try.underlying24 size5
  have s3 := run_cut A n c 10 12 10 12 rfl rfl (by omega) (by have := h.cap; omega) 24 Try.underlying24 size5
  have s4 := run_cut A n c 12 16 12 16 rfl rfl (by omega) (by have := h.cap; omega) 24 Try.underlying24 size5
  have R1 := Lib.hid (h.cutm 4 8 4 (by omega) (by omega))
  have R2 := Lib.hid (h.cutm 8 10 2 (by omega) (by omega))
  have R3 := Lib.hid (h.cutm 10 12 2 (by omega) (by omega))
  have R4 := Lib.hid (h.cutm 12 16 4 (by omega) (by omega))
  have H := Lib.hid h
  have HB := Lib.hid hl
  obtain ⟨g, o, rfl, hg, hc⟩ := h.at (by omega)
  have d1 := hc 1 (by omega)
  have hb1' := hl.getD 1
  clear h hl hc
  go_enter Try.func78, Try.ntmps78
  go_wp2_with fail
  (with_reducible refine (chunk_data _ _ _ _ _ H.out HB.out h4 hn h16 h0 hn2).mono ?_)
  rintro e w1 ⟨rfl, hb1⟩
  unfold chkD
  generalize G1 : l.getD 1 0 = x1 at *
  generalize G2 : be (sub l 2 4) = L at *
  generalize G3 : up4 (chL l) - chL l = D at *
  have kc := Blk.new w1 #[.slice (some ⟨g, o, none⟩) 16 c, .slice (cutA (some ⟨g, o, none⟩) c 16) (n - D - 16) (c - 16), .int .u8 0, .int .u8 x1, .int .u16 L, .int .i64 16] 100
  have B1 : Bl w (w1.alloc (.cells #[.slice (some ⟨g, o, none⟩) 16 c, .slice (cutA (some ⟨g, o, none⟩) c 16) (n - D - 16) (c - 16), .int .u8 0, .int .u8 x1, .int .u16 L, .int .i64 16] 100)) := Bl.trans hb1 (by go_grown)
  have d1' := ((B1.cell (p := ⟨g, o + 1, none⟩) hg)).trans d1
  have hgW : g < (w1.alloc (.cells #[.slice (some ⟨g, o, none⟩) 16 c, .slice (cutA (some ⟨g, o, none⟩) c 16) (n - D - 16) (c - 16), .int .u8 0, .int .u8 x1, .int .u16 L, .int .i64 16] 100)).heap.size := Nat.lt_of_lt_of_le hg B1.size
  go_wp2_with fail
  generalize w1.alloc (.cells #[.slice (some ⟨g, o, none⟩) 16 c, .slice (cutA (some ⟨g, o, none⟩) c 16) (n - D - 16) (c - 16), .int .u8 0, .int .u8 x1, .int .u16 L, .int .i64 16] 100) = W at *
  generalize w1.heap.size = gc at *
  have g1 : ∀ d os, (Sort.grow (redrawn W d) os).cell? ⟨g, o + 1, none⟩ = some (.int .u8 x1) := fun d os => cell_regrown d1' d os
  have k0 : ∀ d os, (Sort.grow (redrawn W d) os).cell? ⟨gc, 0, none⟩ = some (.slice (some ⟨g, o, none⟩) 16 c) := fun d os => cell_regrown (kc.cell 0) d os
  have k1 : ∀ d os, (Sort.grow (redrawn W d) os).cell? ⟨gc, 1, none⟩ = some (.slice (cutA (some ⟨g, o, none⟩) c 16) (n - D - 16) (c - 16)) := fun d os => cell_regrown (kc.cell 1) d os
  have k2 : ∀ d os, (Sort.grow (redrawn W d) os).cell? ⟨gc, 2, none⟩ = some (.int .u8 0) := fun d os => cell_regrown (kc.cell 2) d os
  have k3 : ∀ d os, (Sort.grow (redrawn W d) os).cell? ⟨gc, 3, none⟩ = some (.int .u8 x1) := fun d os => cell_regrown (kc.cell 3) d os
  have k4 : ∀ d os, (Sort.grow (redrawn W d) os).cell? ⟨gc, 4, none⟩ = some (.int .u16 L) := fun d os => cell_regrown (kc.cell 4) d os
  have k5 : ∀ d os, (Sort.grow (redrawn W d) os).cell? ⟨gc, 5, none⟩ = some (.int .i64 16) := fun d os => cell_regrown (kc.cell 5) d os
  have BB := Lib.hid B1
  clear hb1 B1
  refine wp_region_float (S := Grw W) [true, true, true, true, true, true, true, true, true, true, true, true, true, true, true, true, true, true, true, false, true, true, true, false, true, true, true, false, true, true, true, false, false, false, false] 32 (by kernel_rfl) (by kernel_rfl) (Grw.drew W) ?_
  simp only [selQ, selN, earlyN]
  go_big_quiet_want; go_big_quiet_op; go_big_quiet_on
  repeat (first | go_big_quiet_skip | (go_big_quiet_want; go_big_quiet_op; go_big_quiet_on))
  refine wpQuiet_nil ?_
  have Bd : Bl W W.drew := (Bl.refl W).drew
  refine wpN_want rfl (fun K hK => ?_)
  go_big_op
  (with_reducible refine (be32_any _ _ _ _ (R1.out.below (BB.out.trans Bd)) (HB.out.sub 4 8)).mono ?_)
  rintro e w2 ⟨rfl, hb2⟩
  have B2 := Bd.trans hb2
  refine hK _ _ (Grw.of B2) ?_
  clear hK K
  refine wpN_want rfl (fun K hK => ?_)
  go_big_op
  (with_reducible refine (be16_any _ _ _ _ (R2.out.below (BB.out.trans B2)) (HB.out.sub 8 10)).mono ?_)
  rintro e w3 ⟨rfl, hb3⟩
  have B3 := B2.trans hb3
  refine hK _ _ (Grw.of B3) ?_
  clear hK K
  refine wpN_want rfl (fun K hK => ?_)
  go_big_op
  (with_reducible refine (be16_any _ _ _ _ (R3.out.below (BB.out.trans B3)) (HB.out.sub 10 12)).mono ?_)
  rintro e w4 ⟨rfl, hb4⟩
  have B4 := B3.trans hb4
  refine hK _ _ (Grw.of B4) ?_
  clear hK K
  refine wpN_want rfl (fun K hK => ?_)
  go_big_op
  (with_reducible refine (be32_any _ _ _ _ (R4.out.below (BB.out.trans B4)) (HB.out.sub 12 16)).mono ?_)
  rintro e w5 ⟨rfl, hb5⟩
  have B5 := B4.trans hb5
  refine hK _ _ (Grw.of B5) ?_
  clear hK K
  refine wpN_late ?_
  clear k0 k1 k2 k3 k4 k5 g1
  go_wp2_with fail
  refine NoPanic.normal ?_
  go_wp2_with fail
  have BF : Bl w (w5.alloc (.cells #[.slice (some ⟨g, o, none⟩) 16 c, .slice (cutA (some ⟨g, o, none⟩) c 16) (n - D - 16) (c - 16), .int .u8 0, .int .u8 x1, .int .u16 L, .int .i64 16, .bool (bits .and .u8 x1 4 != 0), .bool (bits .and .u8 x1 2 != 0), .bool (bits .and .u8 x1 1 != 0), .int .u32 (be (sub l 4 8)), .int .u16 (be (sub l 8 10)), .int .u16 (be (sub l 10 12)), .int .u32 (be (sub l 12 16))] 103)) := (BB.out.trans B5).trans (by go_grown)
  have kF := Blk.keep BF k
  have kl := Blk.new w5 #[.slice (some ⟨g, o, none⟩) 16 c, .slice (cutA (some ⟨g, o, none⟩) c 16) (n - D - 16) (c - 16), .int .u8 0, .int .u8 x1, .int .u16 L, .int .i64 16, .bool (bits .and .u8 x1 4 != 0), .bool (bits .and .u8 x1 2 != 0), .bool (bits .and .u8 x1 1 != 0), .int .u32 (be (sub l 4 8)), .int .u16 (be (sub l 8 10)), .int .u16 (be (sub l 10 12)), .int .u32 (be (sub l 12 16))] 103
  have hz : gk < w5.heap.size := Nat.lt_of_lt_of_le hk (BB.out.trans B5).size
  generalize w5.alloc (.cells #[.slice (some ⟨g, o, none⟩) 16 c, .slice (cutA (some ⟨g, o, none⟩) c 16) (n - D - 16) (c - 16), .int .u8 0, .int .u8 x1, .int .u16 L, .int .i64 16, .bool (bits .and .u8 x1 4 != 0), .bool (bits .and .u8 x1 2 != 0), .bool (bits .and .u8 x1 1 != 0), .int .u32 (be (sub l 4 8)), .int .u16 (be (sub l 8 10)), .int .u16 (be (sub l 10 12)), .int .u32 (be (sub l 12 16))] 103) = WF at *
  generalize w5.heap.size = gl at *
  (with_reducible refine (addLayer_any _ _ _ _ _ kF).mono ?_)
  rintro e w6 ⟨rfl, rfl⟩
  go_wp2_with fail
  go_ret
  subst G1 G2 G3
  exact ⟨rfl, gl, (Below.ofBl BF (Nat.le_of_lt hk)).setCell (Nat.le_refl _) _, kF.set 0 _, kl.far (Nat.ne_of_gt hz) _⟩
set_option maxHeartbeats 1000000 in
theorem decDat_short (A : Option Addr) (n c : Nat) (l : List Int) (w : World) (h : Rd .u8 w A n c l) (hl : By l) (h4 : 4 ≤ n) (hL : chL l < 4) (v : Value) :
    Calls Try.prog 78 #[.slice A n c, v] w fun e w' => (∃ u, e = .returned (.iface 167 u)) ∧ Bl w w' := by
  have H := Lib.hid h
  have HB := Lib.hid hl
  clear h hl
  go_enter Try.func78, Try.ntmps78
  go_wp2_with fail
  (with_reducible refine (chunk_short _ _ _ _ _ H.out HB.out h4 hL).mono ?_)
  rintro e w1 ⟨⟨u, rfl⟩, hb1⟩
  go_wp2_with fail
  go_ret
  exact ⟨⟨_, rfl⟩, Bl.trans hb1 (by go_grown)⟩
end Go.Proofs.Ytoljdgfbkebgcaa
namespace Go.Proofs.Ytoljdgfbkebgcaa
open Go.RowKit
set_option linter.unusedVariables false
theorem ud31 : Try.prog.underlying 31 = some (.slice 26) := by kernel_rfl
def b2i (b : Bool) : Int := if b then 1 else 0
theorem bit_g (b : Bool) (w : World) : Calls Try.prog 71 #[.bool b] w fun e w' => e = .returned (.int .u64 (b2i b)) ∧ w = w' := bit_any b w
set_option maxHeartbeats 4000000 in
set_option maxRecDepth 100000 in
theorem toldDat_any (A1 A : Option Addr) (n c1 m c gl : Nat) (l p : List Int) (w : World) (hl : By l) (h4 : 4 ≤ chL l) (hup : up4 (chL l) ≤ n) (h16 : 16 ≤ n) (hn2 : n ≤ 2000) (r : Rd .u8 w A1 n c1 l) (k : Blk w gl (datC A1 n c1 l) 103) (h : Rd .u8 w A m c p) (hp : By p) (hm : m ≤ 2000) :
    Calls Try.prog 49 #[.iface 97 (.pointer (some ⟨gl, 0, none⟩)), .slice A m c] w fun e w' =>
      Got w w' e ⟨[0, l.getD 1 0, be (sub l 2 4), 16, b2i (bits .and .u8 (l.getD 1 0) 4 != 0), b2i (bits .and .u8 (l.getD 1 0) 2 != 0), b2i (bits .and .u8 (l.getD 1 0) 1 != 0), be (sub l 4 8), be (sub l 8 10), be (sub l 10 12), be (sub l 12 16)], [], [], p⟩ := by
  have u4 : chL l ≤ up4 (chL l) := by unfold up4; omega
  have H := Lib.hid h
  have HP := Lib.hid hp
  have hlen := r.len
  have b1 := hl.getD 1
  have b2 := be_bd2 (sub l 2 4) (hl.sub _ _) (by rw [sub_length _ _ _ (by omega)])
  have y0 := be_bd4 (sub l 4 8) (hl.sub _ _) (by rw [sub_length _ _ _ (by omega)])
  have y1 := be_bd2 (sub l 8 10) (hl.sub _ _) (by rw [sub_length _ _ _ (by omega)])
  have y2 := be_bd2 (sub l 10 12) (hl.sub _ _) (by rw [sub_length _ _ _ (by omega)])
  have y3 := be_bd4 (sub l 12 16) (hl.sub _ _) (by rw [sub_length _ _ _ (by omega)])
  have hk : Blk w gl #[.slice A1 16 c1, .slice (cutA A1 c1 16) (n - (up4 (chL l) - chL l) - 16) (c1 - 16), .int .u8 0, .int .u8 (l.getD 1 0), .int .u16 (be (sub l 2 4)), .int .i64 16, .bool (bits .and .u8 (l.getD 1 0) 4 != 0), .bool (bits .and .u8 (l.getD 1 0) 2 != 0), .bool (bits .and .u8 (l.getD 1 0) 1 != 0), .int .u32 (be (sub l 4 8)), .int .u16 (be (sub l 8 10)), .int .u16 (be (sub l 10 12)), .int .u32 (be (sub l 12 16))] 103 := k
  generalize l.getD 1 0 = x1 at *
  generalize be (sub l 2 4) = L at *
  generalize be (sub l 4 8) = Y0 at *
  generalize be (sub l 8 10) = Y1 at *
  generalize be (sub l 10 12) = Y2 at *
  generalize be (sub l 12 16) = Y3 at *
  generalize (bits .and .u8 x1 4 != 0) = b4 at *
  generalize (bits .and .u8 x1 2 != 0) = b2' at *
  generalize (bits .and .u8 x1 1 != 0) = b1' at *
  generalize up4 (chL l) - chL l = D at *
  clear h hp hl r k
  have t0 := ta_97_90
  have t1 := ta_97
  go_enter Try.func49, Try.ntmps49
  go_wp2_with fail
  (with_reducible refine (clone_any _ _ _ _ _ (H.out.below (by go_grown)) (by omega)).mono ?_)
  rintro e w1 ⟨⟨A2, c2, rfl, ho⟩, hb1⟩
  have kr := Blk.keep hb1 (Blk.new w _ _)
  have kl := Blk.keep hb1 (hk.alloc _)
  have cl := kl.cell
  have zl := kl.lt
  have cr := kr.cell
  have fr := kr.frozen
  have zr := kr.lt
  have B0 : Bl w w1 := Bl.trans (by go_grown) hb1
  have v3 := Lib.hid (own_bytV (F := fun k => w.heap.size < k ∧ k ≠ w1.heap.size) ho HP.out (fun k h1 h2 => by simp at h1; exact ⟨by omega, by omega⟩))
  clear ho
  go_wp2_with fail
  have zlb : gl ≠ w1.heap.size := Nat.ne_of_lt zl
  have kb := Blk.new w1 #[.slice none 0 0, .slice none 0 0, .slice none 0 0, .slice A2 m c2] 35
  have kl1 := kl.alloc (.cells #[.slice none 0 0, .slice none 0 0, .slice none 0 0, .slice A2 m c2] 35)
  have kr1 := kr.alloc (.cells #[.slice none 0 0, .slice none 0 0, .slice none 0 0, .slice A2 m c2] 35)
  have B1 : Bl w (w1.alloc (.cells #[.slice none 0 0, .slice none 0 0, .slice none 0 0, .slice A2 m c2] 35)) := B0.trans (by go_grown)
  have v31 := Lib.hid (BytV.below v3.out (w' := w1.alloc (.cells #[.slice none 0 0, .slice none 0 0, .slice none 0 0, .slice A2 m c2] 35)) (by go_grown))
  clear v3 cl zl cr fr kl kr hb1 hk B0
  have zr' : w.heap.size < w1.heap.size := zr
  generalize w1.alloc (.cells #[.slice none 0 0, .slice none 0 0, .slice none 0 0, .slice A2 m c2] 35) = W at *
  generalize w1.heap.size = gb at *
  clear zr
  have zW : gb < W.heap.size := kb.lt
  have hgb : w.heap.size ≠ gb := Nat.ne_of_lt zr'
  have k0 : ∀ d os, (Sort.grow (redrawn W d) os).cell? ⟨gl, 0, none⟩ = some (.slice A1 16 c1) := fun d os => cell_regrown (kl1.cell 0) d os
  have k1 : ∀ d os, (Sort.grow (redrawn W d) os).cell? ⟨gl, 1, none⟩ = some (.slice (cutA A1 c1 16) (n - D - 16) (c1 - 16)) := fun d os => cell_regrown (kl1.cell 1) d os
  have k2 : ∀ d os, (Sort.grow (redrawn W d) os).cell? ⟨gl, 2, none⟩ = some (.int .u8 0) := fun d os => cell_regrown (kl1.cell 2) d os
  have k3 : ∀ d os, (Sort.grow (redrawn W d) os).cell? ⟨gl, 3, none⟩ = some (.int .u8 x1) := fun d os => cell_regrown (kl1.cell 3) d os
  have k4 : ∀ d os, (Sort.grow (redrawn W d) os).cell? ⟨gl, 4, none⟩ = some (.int .u16 L) := fun d os => cell_regrown (kl1.cell 4) d os
  have k5 : ∀ d os, (Sort.grow (redrawn W d) os).cell? ⟨gl, 5, none⟩ = some (.int .i64 16) := fun d os => cell_regrown (kl1.cell 5) d os
  have k6 : ∀ d os, (Sort.grow (redrawn W d) os).cell? ⟨gl, 6, none⟩ = some (.bool b4) := fun d os => cell_regrown (kl1.cell 6) d os
  have k7 : ∀ d os, (Sort.grow (redrawn W d) os).cell? ⟨gl, 7, none⟩ = some (.bool b2') := fun d os => cell_regrown (kl1.cell 7) d os
  have k8 : ∀ d os, (Sort.grow (redrawn W d) os).cell? ⟨gl, 8, none⟩ = some (.bool b1') := fun d os => cell_regrown (kl1.cell 8) d os
  have k9 : ∀ d os, (Sort.grow (redrawn W d) os).cell? ⟨gl, 9, none⟩ = some (.int .u32 Y0) := fun d os => cell_regrown (kl1.cell 9) d os
  have k10 : ∀ d os, (Sort.grow (redrawn W d) os).cell? ⟨gl, 10, none⟩ = some (.int .u16 Y1) := fun d os => cell_regrown (kl1.cell 10) d os
  have k11 : ∀ d os, (Sort.grow (redrawn W d) os).cell? ⟨gl, 11, none⟩ = some (.int .u16 Y2) := fun d os => cell_regrown (kl1.cell 11) d os
  have k12 : ∀ d os, (Sort.grow (redrawn W d) os).cell? ⟨gl, 12, none⟩ = some (.int .u32 Y3) := fun d os => cell_regrown (kl1.cell 12) d os
  refine wp_region_float (S := Grw W) [true, true, true, true, true, false, true, true, true, true, false, true, true, true, true, false, true, true, true, true, false, true, true, true, true, true, true, true, true, true, true, true, true, true, true, true, true, true, true, true, true, false, false, false, false, false] 43 (by kernel_rfl) (by kernel_rfl) (Grw.drew W) ?_
  simp only [selQ, selN, earlyN]
  repeat (first | go_big_quiet_skip | (go_big_quiet_want; go_big_quiet_op; go_big_quiet_on))
  refine wpQuiet_nil ?_
  have Bd : Bl W W.drew := (Bl.refl W).drew
  refine wpN_want rfl (fun K hK => ?_)
  go_big_op
  (with_reducible refine (chunkv_g _ _ _ _ _ _ _ _ _ _ _ (by omega) b1 b2 (by omega)).mono ?_)
  rintro e w2 ⟨gn, rfl, hb2, ho'⟩
  have ho : w2.ownsRow W.heap.size 26 1 (.slice (some ⟨gn, 0, none⟩) 4 4) 4 ([0, x1, L, 16].map (Value.int .u64)) := ho'
  have OW := Lib.hid ho
  clear ho ho'
  have B2 := Bd.trans hb2
  refine hK _ _ (Grw.of B2) ?_
  clear hK K
  refine wpN_want rfl (fun K hK => ?_)
  go_big_op
  (with_reducible refine (bit_g _ _).mono ?_)
  rintro e w3 ⟨rfl, rfl⟩
  refine hK _ _ (Grw.of B2) ?_
  clear hK K
  refine wpN_want rfl (fun K hK => ?_)
  go_big_op
  (with_reducible refine (bit_g _ _).mono ?_)
  rintro e w3 ⟨rfl, rfl⟩
  refine hK _ _ (Grw.of B2) ?_
  clear hK K
  refine wpN_want rfl (fun K hK => ?_)
  go_big_op
  (with_reducible refine (bit_g _ _).mono ?_)
  rintro e w3 ⟨rfl, rfl⟩
  refine hK _ _ (Grw.of B2) ?_
  clear hK K
  refine wpN_want rfl (fun K hK => ?_)
  go_big_op
  have B3 : Bl W (w2.alloc (.cells #[.int .u64 (b2i b4), .int .u64 (b2i b2'), .int .u64 (b2i b1'), .int .u64 Y0, .int .u64 Y1, .int .u64 Y2, .int .u64 Y3] 26)) := B2.trans (by go_grown)
  refine hK _ _ (Grw.of B3) ?_
  clear hK K
  refine wpN_if rfl (fun K hK => ?_)
  refine step_app rfl _ _ 31 26 (.int .u64 0) 1 8 W.heap.size rfl ud31 info26 rfl (by decide) (by decide) (.slice (some ⟨gn, 0, none⟩) 4 4) 4 _ _ 7 _ _ rfl rfl (OW.out.alloc (.cells #[.int .u64 (b2i b4), .int .u64 (b2i b2'), .int .u64 (b2i b1'), .int .u64 Y0, .int .u64 Y1, .int .u64 Y2, .int .u64 Y3] 26)) (Blk.src (Blk.new w2 #[.int .u64 (b2i b4), .int .u64 (b2i b2'), .int .u64 (b2i b1'), .int .u64 Y0, .int .u64 Y1, .int .u64 Y2, .int .u64 Y3] 26) 7 1 rfl (fun u hu => by simp at hu; rcases hu with rfl | rfl | rfl | rfl | rfl | rfl | rfl <;> rfl)) (by omega) B3.size ?_
  intro A5 c5 w3 hp
  have BW : Bl W w3 := hp.bl (OW.out.alloc (.cells #[.int .u64 (b2i b4), .int .u64 (b2i b2'), .int .u64 (b2i b1'), .int .u64 Y0, .int .u64 Y1, .int .u64 Y2, .int .u64 Y3] 26)) B3
  have ho5 := Lib.hid hp.own
  clear hp
  refine hK _ _ (Grw.of BW) ?_
  clear hK K
  have kb3 := Blk.keep BW kb
  have kr3 := Blk.keep BW kr1
  have v33 := Lib.hid (BytV.below v31.out BW)
  have B4 := B1.trans BW
  have cb := kb3.cell
  have fb := kb3.frozen
  have zb := kb3.lt
  have cr := kr3.cell
  have fr := kr3.frozen
  have zr := kr3.lt
  clear k0 k1 k2 k3 k4 k5 k6 k7 k8 k9 k10 k11 k12
  refine wpN_late ?_
  go_wp2_with fail
  refine NoPanic.normal ?_
  go_wp2_with fail
  have hL : LyrV (fun k => w.heap.size < k ∧ k ≠ gb) w3 (.agg #[.slice A5 11 c5, .slice none 0 0, .slice none 0 0, .slice A2 m c2]) ⟨[0, x1, L, 16, b2i b4, b2i b2', b2i b1', Y0, Y1, Y2, Y3], [], [], p⟩ :=
    ⟨_, _, _, _, rfl, own_numV (l := [0, x1, L, 16, b2i b4, b2i b2', b2i b1', Y0, Y1, Y2, Y3]) ho5.out (fun k h1 _ => ⟨by have : W.heap.size ≤ k := h1; omega, by have : W.heap.size ≤ k := h1; omega⟩), DataV.nil _ _, PartsV.nil _ _, v33.out⟩
  have hL1 := LyrV.keepF hL ((KeepF.refl _ w3).setCell (p := ⟨gb, 0, none⟩) (fun h => h.2 rfl) (.slice A5 11 c5))
  have hL2 := LyrV.boxed (g := w.heap.size) hL1 (fun h => Nat.lt_irrefl _ h.1) (.slice A5 11 c5) (.slice none 0 0) (.slice none 0 0) (.slice A2 m c2)
  have BF := Bl.boxed (Below.setCell B4 (p := ⟨gb, 0, none⟩) (Nat.le_of_lt zr') (.slice A5 11 c5)) (Nat.le_refl _) (.slice A5 11 c5) (.slice none 0 0) (.slice none 0 0) (.slice A2 m c2)
  have kf := ((((kr3.far (p := ⟨gb, 0, none⟩) hgb (.slice A5 11 c5)).set 0 (.slice A5 11 c5)).set 1 (.slice none 0 0)).set 2 (.slice none 0 0)).set 3 (.slice A2 m c2)
  have cf := kf.cell
  clear hL hL1 kf
  generalize (((((w3.setCell ⟨gb, 0, none⟩ (.slice A5 11 c5)).setCell ⟨w.heap.size, 0, none⟩ (.slice A5 11 c5)).setCell ⟨w.heap.size, 1, none⟩ (.slice none 0 0)).setCell ⟨w.heap.size, 2, none⟩ (.slice none 0 0)).setCell ⟨w.heap.size, 3, none⟩ (.slice A2 m c2)) = WF at *
  refine bodyPost_ret (v := .tuple #[.agg #[.slice A5 11 c5, .slice none 0 0, .slice none 0 0, .slice A2 m c2], .bool true]) (by simp [results, Try.results49, go_sem, cf]) rfl ⟨_, rfl, LyrV.mono hL2 (fun k h => Nat.le_of_lt h.1), BF⟩
end Go.Proofs.Ytoljdgfbkebgcaa
namespace Go.Proofs.Ytoljdgfbkebgcaa
open Go.RowKit
set_option linter.unusedVariables false
set_option maxHeartbeats 1000000 in
theorem zzDat_ok (l : List Int) (hl : By l) (h17 : 17 ≤ chL l) (hfull : up4 (chL l) = l.length) (h0 : l.getD 0 0 = 0) (hn2 : l.length ≤ 2000) : ZzOk ⟨#[115, 99, 116, 112, 100, 97, 116, 97]⟩ l 97 103 (fun A n c => datC A n c l) := by
  intro A n c w h
  have hlen := h.len
  have u4 : chL l ≤ up4 (chL l) := by unfold up4; omega
  have hup' : up4 (chL l) ≤ n := by omega
  have h16 : 16 + (up4 (chL l) - chL l) ≤ n := by omega
  have h4' : 4 ≤ chL l := by omega
  have h5 : n ≤ 2147483647 := by omega
  have H := Lib.hid h
  have HB := Lib.hid hl
  have H0 := Lib.hid h0
  clear h hl h0 hfull
  go_enter Try.func69, Try.ntmps69
  go_wp2_with fail
  (with_reducible refine (errNew_any _ _).mono ?_)
  rintro e w1 ⟨rfl, hb1⟩
  have k1 := Blk.keep hb1 (Blk.new w _ _)
  have hz : w.heap.size < w1.heap.size := k1.lt
  go_wp2_with fail
  (with_reducible refine (decDat_any _ _ _ _ _ _ (H.out.below (Bl.trans (by go_grown) hb1)) HB.out h4' hup' h16 H0.out h5 _ k1).mono ?_)
  rintro e w2 ⟨rfl, gl, kp⟩
  have c2 := kp.keeper.cell
  go_wp2_with fail
  go_ret2
  exact ⟨gl, rfl, Below.trans (Bl.trans (by go_grown) hb1) kp.low, kp.layer⟩
theorem zzDat_err (l : List Int) (hl : By l) (h4 : 4 ≤ l.length) (hL : chL l < 4) : ZzErr ⟨#[115, 99, 116, 112, 100, 97, 116, 97]⟩ l := by
  intro A n c w h
  have hlen := h.len
  have h4n : 4 ≤ n := by omega
  have H := Lib.hid h
  have HB := Lib.hid hl
  clear h hl
  go_enter Try.func69, Try.ntmps69
  go_wp2_with fail
  (with_reducible refine (errNew_any _ _).mono ?_)
  rintro e w1 ⟨rfl, hb1⟩
  have hz : w.heap.size < w1.heap.size := by have := hb1.size; simp at this; omega
  go_wp2_with fail
  (with_reducible refine (decDat_short _ _ _ _ _ (H.out.below (Bl.trans (by go_grown) hb1)) HB.out h4n hL _).mono ?_)
  rintro e w2 ⟨⟨u, rfl⟩, hb2⟩
  go_wp2_with fail
  go_ret2
  exact ⟨⟨_, rfl⟩, Bl.trans (Bl.trans (by go_grown) hb1) hb2⟩
set_option maxHeartbeats 1000000 in
theorem calledDat_yes (l : List Int) (hl : By l) (h17 : 17 ≤ chL l) (hfull : up4 (chL l) = l.length) (h0 : l.getD 0 0 = 0) (hn2 : l.length ≤ 2000) : CallAt ⟨#[115, 99, 116, 112, 100, 97, 116, 97]⟩ l true := by
  intro A n c w h
  have hlen := h.len
  have u4 : chL l ≤ up4 (chL l) := by unfold up4; omega
  have HH := Lib.hid h
  have HB := Lib.hid hl
  obtain ⟨g, o, rfl, hg, hc⟩ := h.at (by omega)
  have d0 := hc 0 (by omega)
  simp only [Nat.add_zero] at d0
  rw [h0] at d0
  have h4 : 4 ≤ n := by omega
  have h5 : n ≤ 2000 := by omega
  have h16 : 16 ≤ n := by omega
  have e1 : be (sub l 2 (2 + 2)) = (chL l : Int) := chL_int l hl
  have b1 : 17 ≤ be (sub l 2 (2 + 2)) := by omega
  have b2 : be (sub l 2 (2 + 2)) ≤ 65535 := by have := chL_le l hl (by omega); omega
  have b3 : 16 ≤ (n : Int) - ((be (sub l 2 (2 + 2)) + 3) / 4 * 4 - be (sub l 2 (2 + 2))) := by rw [e1]; unfold up4 at hfull; omega
  have b5 : (be (sub l 2 (2 + 2)) + 3) / 4 * 4 ≤ (n : Int) := by rw [e1]; unfold up4 at hfull; omega
  have b4 : be (sub l 2 (2 + 2)) ≤ (n : Int) := by omega
  have d0' : ∀ q, (w.drewN q).cell? ⟨g, o, none⟩ = some (.int .u8 0) := fun q => d0
  clear h hlen hn2 hl e1 hc h0 d0 u4 hfull
  go_enter Try.func68, Try.ntmps68
  go_wp2_with fail
  (with_reducible refine (number_any _ _ _ 2 _ _ HH.out HB.out (by omega) (by omega) 2 rfl).mono ?_)
  rintro e w1 ⟨rfl, q, rfl⟩
  generalize be (sub l 2 (2 + 2)) = L at *
  have b6 : L ≤ (L + 3) / 4 * 4 := by omega
  go_wp2_with fail
  (with_reducible refine (iup_any _ (by omega) (by omega) _).mono ?_)
  rintro e w1 ⟨rfl, rfl⟩
  generalize (L + 3) / 4 * 4 = U at *
  go_wp2_with fail
  go_ret
  exact ⟨ret_bool (by simp; try omega), (Bl.refl _).drewN _⟩
theorem readDat_no (l : List Int) (hd : ∀ (A : Option Addr) (n c : Nat) (w : World), Rd .u8 w A n c l → Calls Try.prog 48 #[.string ⟨#[115, 99, 116, 112, 100, 97, 116, 97]⟩, .slice A n c] w fun e w' => e = .returned (.tuple #[.nilIface, .bool false]) ∧ Bl w w') : NoReadAt ⟨#[115, 99, 116, 112, 100, 97, 116, 97]⟩ l := by
  intro A n c w h
  have H := Lib.hid h
  have HD := Lib.hid hd
  clear h hd
  go_enter Try.func33, Try.ntmps33
  go_wp2_with fail
  (with_reducible refine (HD.out _ _ _ _ (H.out.below (by go_grown))).mono ?_)
  rintro e w1 ⟨rfl, hb1⟩
  have kr := Blk.keep hb1 (Blk.new w _ _)
  have cr := kr.cell
  have fr := kr.frozen
  have zr := kr.lt
  have B2 := Lib.hid (Bl.trans (Below.alloc (Below.refl _ w) (Nat.le_refl _) _) hb1)
  go_wp2_with fail
  refine bodyPost_ret (v := .tuple #[.agg #[.slice none 0 0, .slice none 0 0, .slice none 0 0, .slice none 0 0], .bool false]) (by simp [results, Try.results33, go_sem, cr]) rfl
    ⟨rfl, Bl.boxed B2.out (Nat.le_refl _) _ _ _ _⟩
set_option maxHeartbeats 1000000 in
theorem readDat_ok (l : List Int) (hl : By l) (h17 : 17 ≤ chL l) (hfull : up4 (chL l) = l.length) (h0 : l.getD 0 0 = 0) (hn2 : l.length ≤ 2000) :
    ReadAt ⟨#[115, 99, 116, 112, 100, 97, 116, 97]⟩ l ⟨[l.getD 0 0, l.getD 1 0, be (sub l 2 4), 16, l.getD 1 0 / 4 % 2, l.getD 1 0 / 2 % 2, l.getD 1 0 % 2, be (sub l 4 8), be (sub l 8 10), be (sub l 10 12), be (sub l 12 16)], [], [], sub l 16 (chL l)⟩ := by
  intro A n c w h
  have H := Lib.hid h
  have HB := Lib.hid hl
  have hlen := h.len
  have u4 : chL l ≤ up4 (chL l) := by unfold up4; omega
  have hup' : up4 (chL l) ≤ n := by omega
  have hn2' : n ≤ 2000 := by omega
  have h16 : 16 ≤ n := by omega
  have h4' : 4 ≤ chL l := by omega
  have hD : n - (up4 (chL l) - chL l) - 16 = chL l - 16 := by omega
  have HC := Lib.hid (calledDat_yes l hl h17 hfull h0 hn2)
  have HZ := Lib.hid (zzDat_ok l hl h17 hfull h0 hn2)
  have b1 := hl.getD 1
  have HE : [0, l.getD 1 0, be (sub l 2 4), 16, b2i (bits .and .u8 (l.getD 1 0) 4 != 0), b2i (bits .and .u8 (l.getD 1 0) 2 != 0), b2i (bits .and .u8 (l.getD 1 0) 1 != 0), be (sub l 4 8), be (sub l 8 10), be (sub l 10 12), be (sub l 12 16)] = [l.getD 0 0, l.getD 1 0, be (sub l 2 4), 16, l.getD 1 0 / 4 % 2, l.getD 1 0 / 2 % 2, l.getD 1 0 % 2, be (sub l 4 8), be (sub l 8 10), be (sub l 10 12), be (sub l 12 16)] := by
    rw [h0]
    unfold b2i
    rw [bit4 _ b1.1 b1.2, bit2 _ b1.1 b1.2, bit1 _ b1.1 b1.2]
  have HE' := Lib.hid HE
  have HDD := Lib.hid hD
  clear h hl h0 hfull HE hD
  go_enter Try.func33, Try.ntmps33
  go_wp2_with fail
  (with_reducible refine (decoded_ok _ _ _ _ _ hn2 HC.out HZ.out _ _ _ _ (H.out.below (by go_grown))).mono ?_)
  rintro e w1 ⟨A1, c1, gl, rfl, ho, r1⟩
  have R1 := Lib.hid r1
  have kl := ho.layer
  have kr := Blk.keep ho.bl (Blk.new w _ _)
  have cl : w1.cell? ⟨gl, 1, none⟩ = some (.slice (cutA A1 c1 16) (chL l - 16) (c1 - 16)) := by rw [kl.cell, ← HDD.out]; rfl
  have HO := Lib.hid ho.bl
  have zr := kr.lt
  clear r1 ho
  go_wp2_with fail
  (with_reducible refine (payload_any _ _ _ _ _ cl).mono ?_)
  rintro e w2 ⟨rfl, rfl⟩
  go_wp2_with fail
  have q := (R1.out.cut 16 (chL l) (by omega) (by omega))
  (with_reducible refine (toldDat_any _ _ _ _ _ _ _ _ _ _ HB.out h4' hup' h16 hn2' R1.out kl q (HB.out.sub _ _) (by omega)).mono ?_)
  rintro e w2 ⟨v, rfl, hL, hb2⟩
  rw [HE'.out] at hL
  obtain ⟨A4, c4, A5, c5, A6, c6, A7, c7, rfl⟩ := hL.form
  have HL := Lib.hid hL
  clear hL
  have kr2 := Blk.keep hb2 kr
  have cr := kr2.cell
  have fr := kr2.frozen
  have zr2 := kr2.lt
  have B2 := Lib.hid ((Bl.trans (Below.alloc (Below.refl _ w) (Nat.le_refl _) _) HO.out).trans hb2)
  have hz : w.heap.size ≤ w1.heap.size := Nat.le_of_lt zr
  subst hlen
  go_wp2_with fail
  refine bodyPost_ret (v := .tuple #[.agg #[.slice A4 11 c4, .slice A5 0 c5, .slice A6 0 c6, .slice A7 (sub l 16 (chL l)).length c7], .bool true]) (by simp [results, Try.results33, go_sem, cr]) rfl
    ⟨_, rfl, LyrV.mono (LyrV.boxed HL.out (by show ¬ (w1.heap.size ≤ w.heap.size); omega) _ _ _ _) (fun k hk => Nat.le_trans hz hk), Bl.boxed B2.out (Nat.le_refl _) _ _ _ _⟩
end Go.Proofs.Ytoljdgfbkebgcaa
