/- sctpdata: its decoder. -/
import Derived.Test.YtoljdgfbkebgcaaChk
import Derived.Test.YtoljdgfbkebgcaaDecSctp
import Derived.Test.YtoljdgfbkebgcaaFlo
namespace Go.Proofs.Ytoljdgfbkebgcaa
open Go.RowKit
/-- The cells of a chunk of data. -/
def datC (A : Option Addr) (n c : Nat) (l : List Int) : Array Value :=
  #[.slice A 16 c, .slice (cutA A c 16) (n - (up4 (chL l) - chL l) - 16) (c - 16), .int .u8 0, .int .u8 (l.getD 1 0), .int .u16 (be (sub l 2 4)), .int .i64 16, .bool (bits .and .u8 (l.getD 1 0) 4 != 0), .bool (bits .and .u8 (l.getD 1 0) 2 != 0), .bool (bits .and .u8 (l.getD 1 0) 1 != 0), .int .u32 (be (sub l 4 8)), .int .u16 (be (sub l 8 10)), .int .u16 (be (sub l 10 12)), .int .u32 (be (sub l 12 16))]
set_option maxHeartbeats 4000000 in
set_option maxRecDepth 100000 in
theorem decDat_any (A : Option Addr) (n c gk : Nat) (l : List Int) (w : World) (h : Rd .u8 w A n c l) (hl : By l) (h4 : 4 ≤ chL l) (hn : up4 (chL l) ≤ n) (h16 : 16 + (up4 (chL l) - chL l) ≤ n) (h0 : l.getD 0 0 = 0) (hn2 : n ≤ 2147483647) (x : Value) (k : Blk w gk #[x] 164) :
    Calls Try.prog 78 #[.slice A n c, .iface 162 (.pointer (some ⟨gk, 0, none⟩))] w fun e w' => e = .returned .nilIface ∧ ∃ gl, Kept w w' gk 97 103 gl (datC A n c l) := by
  have hk := k.lt
  have s1 := run_cut A n c 4 8 4 8 rfl rfl (by omega) (by have := h.cap; omega) 24 Try.underlying24 size5
  have s2 := run_cut A n c 8 10 8 10 rfl rfl (by omega) (by have := h.cap; omega) 24 Try.underlying24 size5
  have s3 := run_cut A n c 10 12 10 12 rfl rfl (by omega) (by have := h.cap; omega) 24 Try.underlying24 size5
  have s4 := run_cut A n c 12 16 12 16 rfl rfl (by omega) (by have := h.cap; omega) 24 Try.underlying24 size5
  have R1 := Lib.hid (h.cutm 4 8 4 (by omega) (by omega))
  have R2 := Lib.hid (h.cutm 8 10 2 (by omega) (by omega))
  have R3 := Lib.hid (h.cutm 10 12 2 (by omega) (by omega))
  have R4 := Lib.hid (h.cutm 12 16 4 (by omega) (by omega))
  have H := Lib.hid h
  have HB := Lib.hid hl
  obtain ⟨g, o, rfl, hg, hc⟩ := h.at (by omega)
  have d1 := hc 1 (by omega)
  have hb1' := hl.getD 1
  clear h hl hc
  go_enter Try.func78, Try.ntmps78
  go_wp2_with fail
  (with_reducible refine (chunk_data _ _ _ _ _ H.out HB.out h4 hn h16 h0 hn2).mono ?_)
  rintro e w1 ⟨rfl, hb1⟩
  unfold chkD
  generalize G1 : l.getD 1 0 = x1 at *
  generalize G2 : be (sub l 2 4) = L at *
  generalize G3 : up4 (chL l) - chL l = D at *
  have kc := Blk.new w1 #[.slice (some ⟨g, o, none⟩) 16 c, .slice (cutA (some ⟨g, o, none⟩) c 16) (n - D - 16) (c - 16), .int .u8 0, .int .u8 x1, .int .u16 L, .int .i64 16] 100
  have B1 : Bl w (w1.alloc (.cells #[.slice (some ⟨g, o, none⟩) 16 c, .slice (cutA (some ⟨g, o, none⟩) c 16) (n - D - 16) (c - 16), .int .u8 0, .int .u8 x1, .int .u16 L, .int .i64 16] 100)) := Bl.trans hb1 (by go_grown)
  have d1' := ((B1.cell (p := ⟨g, o + 1, none⟩) hg)).trans d1
  have hgW : g < (w1.alloc (.cells #[.slice (some ⟨g, o, none⟩) 16 c, .slice (cutA (some ⟨g, o, none⟩) c 16) (n - D - 16) (c - 16), .int .u8 0, .int .u8 x1, .int .u16 L, .int .i64 16] 100)).heap.size := Nat.lt_of_lt_of_le hg B1.size
  go_wp2_with fail
  generalize w1.alloc (.cells #[.slice (some ⟨g, o, none⟩) 16 c, .slice (cutA (some ⟨g, o, none⟩) c 16) (n - D - 16) (c - 16), .int .u8 0, .int .u8 x1, .int .u16 L, .int .i64 16] 100) = W at *
  generalize w1.heap.size = gc at *
  have g1 : ∀ d os, (Sort.grow (redrawn W d) os).cell? ⟨g, o + 1, none⟩ = some (.int .u8 x1) := fun d os => cell_regrown d1' d os
  have k0 : ∀ d os, (Sort.grow (redrawn W d) os).cell? ⟨gc, 0, none⟩ = some (.slice (some ⟨g, o, none⟩) 16 c) := fun d os => cell_regrown (kc.cell 0) d os
  have k1 : ∀ d os, (Sort.grow (redrawn W d) os).cell? ⟨gc, 1, none⟩ = some (.slice (cutA (some ⟨g, o, none⟩) c 16) (n - D - 16) (c - 16)) := fun d os => cell_regrown (kc.cell 1) d os
  have k2 : ∀ d os, (Sort.grow (redrawn W d) os).cell? ⟨gc, 2, none⟩ = some (.int .u8 0) := fun d os => cell_regrown (kc.cell 2) d os
  have k3 : ∀ d os, (Sort.grow (redrawn W d) os).cell? ⟨gc, 3, none⟩ = some (.int .u8 x1) := fun d os => cell_regrown (kc.cell 3) d os
  have k4 : ∀ d os, (Sort.grow (redrawn W d) os).cell? ⟨gc, 4, none⟩ = some (.int .u16 L) := fun d os => cell_regrown (kc.cell 4) d os
  have k5 : ∀ d os, (Sort.grow (redrawn W d) os).cell? ⟨gc, 5, none⟩ = some (.int .i64 16) := fun d os => cell_regrown (kc.cell 5) d os
  have BB := Lib.hid B1
  clear hb1 B1
  refine wp_region_float (S := Grw W) [true, true, true, true, true, true, true, true, true, true, true, true, true, true, true, true, true, true, true, false, true, true, true, false, true, true, true, false, true, true, true, false, false, false, false] 32 (by kernel_rfl) (by kernel_rfl) (Grw.drew W) ?_
  simp only [selQ, selN, earlyN]
  go_big_quiet_want; go_big_quiet_op; go_big_quiet_on
  repeat (first | go_big_quiet_skip | (go_big_quiet_want; go_big_quiet_op; go_big_quiet_on))
  refine wpQuiet_nil ?_
  have Bd : Bl W W.drew := (Bl.refl W).drew
  refine wpN_want rfl (fun K hK => ?_)
  go_big_op
  (with_reducible refine (be32_any _ _ _ _ (R1.out.below (BB.out.trans Bd)) (HB.out.sub 4 8)).mono ?_)
  rintro e w2 ⟨rfl, hb2⟩
  have B2 := Bd.trans hb2
  refine hK _ _ (Grw.of B2) ?_
  clear hK K
  refine wpN_want rfl (fun K hK => ?_)
  go_big_op
  (with_reducible refine (be16_any _ _ _ _ (R2.out.below (BB.out.trans B2)) (HB.out.sub 8 10)).mono ?_)
  rintro e w3 ⟨rfl, hb3⟩
  have B3 := B2.trans hb3
  refine hK _ _ (Grw.of B3) ?_
  clear hK K
  refine wpN_want rfl (fun K hK => ?_)
  go_big_op
  (with_reducible refine (be16_any _ _ _ _ (R3.out.below (BB.out.trans B3)) (HB.out.sub 10 12)).mono ?_)
  rintro e w4 ⟨rfl, hb4⟩
  have B4 := B3.trans hb4
  refine hK _ _ (Grw.of B4) ?_
  clear hK K
  refine wpN_want rfl (fun K hK => ?_)
  go_big_op
  (with_reducible refine (be32_any _ _ _ _ (R4.out.below (BB.out.trans B4)) (HB.out.sub 12 16)).mono ?_)
  rintro e w5 ⟨rfl, hb5⟩
  have B5 := B4.trans hb5
  refine hK _ _ (Grw.of B5) ?_
  clear hK K
  refine wpN_late ?_
  clear k0 k1 k2 k3 k4 k5 g1
  go_wp2_with fail
  refine NoPanic.normal ?_
  go_wp2_with fail
  have BF : Bl w (w5.alloc (.cells #[.slice (some ⟨g, o, none⟩) 16 c, .slice (cutA (some ⟨g, o, none⟩) c 16) (n - D - 16) (c - 16), .int .u8 0, .int .u8 x1, .int .u16 L, .int .i64 16, .bool (bits .and .u8 x1 4 != 0), .bool (bits .and .u8 x1 2 != 0), .bool (bits .and .u8 x1 1 != 0), .int .u32 (be (sub l 4 8)), .int .u16 (be (sub l 8 10)), .int .u16 (be (sub l 10 12)), .int .u32 (be (sub l 12 16))] 103)) := (BB.out.trans B5).trans (by go_grown)
  have kF := Blk.keep BF k
  have kl := Blk.new w5 #[.slice (some ⟨g, o, none⟩) 16 c, .slice (cutA (some ⟨g, o, none⟩) c 16) (n - D - 16) (c - 16), .int .u8 0, .int .u8 x1, .int .u16 L, .int .i64 16, .bool (bits .and .u8 x1 4 != 0), .bool (bits .and .u8 x1 2 != 0), .bool (bits .and .u8 x1 1 != 0), .int .u32 (be (sub l 4 8)), .int .u16 (be (sub l 8 10)), .int .u16 (be (sub l 10 12)), .int .u32 (be (sub l 12 16))] 103
  have hz : gk < w5.heap.size := Nat.lt_of_lt_of_le hk (BB.out.trans B5).size
  generalize w5.alloc (.cells #[.slice (some ⟨g, o, none⟩) 16 c, .slice (cutA (some ⟨g, o, none⟩) c 16) (n - D - 16) (c - 16), .int .u8 0, .int .u8 x1, .int .u16 L, .int .i64 16, .bool (bits .and .u8 x1 4 != 0), .bool (bits .and .u8 x1 2 != 0), .bool (bits .and .u8 x1 1 != 0), .int .u32 (be (sub l 4 8)), .int .u16 (be (sub l 8 10)), .int .u16 (be (sub l 10 12)), .int .u32 (be (sub l 12 16))] 103) = WF at *
  generalize w5.heap.size = gl at *
  (with_reducible refine (addLayer_any _ _ _ _ _ kF).mono ?_)
  rintro e w6 ⟨rfl, rfl⟩
  go_wp2_with fail
  go_ret
  subst G1 G2 G3
  exact ⟨rfl, gl, (Below.ofBl BF (Nat.le_of_lt hk)).setCell (Nat.le_refl _) _, kF.set 0 _, kl.far (Nat.ne_of_gt hz) _⟩
set_option maxHeartbeats 1000000 in
theorem decDat_short (A : Option Addr) (n c : Nat) (l : List Int) (w : World) (h : Rd .u8 w A n c l) (hl : By l) (h4 : 4 ≤ n) (hL : chL l < 4) (v : Value) :
    Calls Try.prog 78 #[.slice A n c, v] w fun e w' => (∃ u, e = .returned (.iface 167 u)) ∧ Bl w w' := by
  have H := Lib.hid h
  have HB := Lib.hid hl
  clear h hl
  go_enter Try.func78, Try.ntmps78
  go_wp2_with fail
  (with_reducible refine (chunk_short _ _ _ _ _ H.out HB.out h4 hL).mono ?_)
  rintro e w1 ⟨⟨u, rfl⟩, hb1⟩
  go_wp2_with fail
  go_ret
  exact ⟨⟨_, rfl⟩, Bl.trans hb1 (by go_grown)⟩
end Go.Proofs.Ytoljdgfbkebgcaa
