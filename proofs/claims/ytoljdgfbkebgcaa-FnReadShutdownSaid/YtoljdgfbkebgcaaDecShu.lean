/- sctpshutdown: its decoder. -/
import Derived.Test.YtoljdgfbkebgcaaChk
import Derived.Test.YtoljdgfbkebgcaaDecSctp
namespace Go.Proofs.Ytoljdgfbkebgcaa
open Go.RowKit
set_option maxHeartbeats 1000000 in
theorem decShu_any (A : Option Addr) (n c gk : Nat) (l : List Int) (w : World) (h : Rd .u8 w A n c l) (hl : By l) (h4 : 4 ≤ chL l) (hn : up4 (chL l) ≤ n) (h0 : l.getD 0 0 ≠ 0) (hn2 : n ≤ 2147483647) (h8 : 8 ≤ n) (x : Value) (k : Blk w gk #[x] 164) :
    Calls Try.prog 83 #[.slice A n c, .iface 162 (.pointer (some ⟨gk, 0, none⟩))] w fun e w' => e = .returned .nilIface ∧ ∃ gl, Kept w w' gk 130 132 gl ((chk A n c l).push (.int .u32 (be (sub l 4 8)))) := by
  have hk := k.lt
  have s1 := run_cut A n c 4 8 4 8 rfl rfl (by omega) (by have := h.cap; omega) 24 Try.underlying24 size5
  have R1 := Lib.hid (h.cutm 4 8 4 (by omega) (by omega))
  have H := Lib.hid h
  have HB := Lib.hid hl
  have H0 := Lib.hid h0
  clear h hl h0
  go_enter Try.func83, Try.ntmps83
  go_wp2_with fail
  (with_reducible refine (chunk_any _ _ _ _ _ H.out HB.out h4 hn H0.out hn2).mono ?_)
  rintro e w1 ⟨rfl, hb1⟩
  have k1 := Blk.keep hb1 k
  have z1 := k1.lt
  unfold chk
  generalize G0 : l.getD 0 0 = x0 at *
  generalize G1 : l.getD 1 0 = x1 at *
  generalize G2 : be (sub l 2 4) = L at *
  generalize G3 : up4 (chL l) = U at *
  go_wp2_with fail
  go_region_with (go_at_call 90; (with_reducible refine (be32_any _ _ _ _ (R1.out.below (Bl.trans hb1 (by go_grown))) (HB.out.sub 4 8)).mono ?_); rintro e w2 ⟨rfl, hb2⟩; have kc := Blk.keep hb2 (Blk.same (Blk.new w1 _ _) rfl); have cc := kc.cell; have B1 : Bl w w2 := Bl.trans (Bl.trans hb1 (by go_grown)) hb2)
  all_goals
    generalize G5 : be (sub l 4 8) = Y at *
    have k1b := Blk.keep B1 k
    have z1b := k1b.lt
    go_wp2_with fail
    have B2 : Bl w (w2.alloc (.cells #[.slice A U c, .slice (cutA A c U) (n - U) (c - U), .int .u8 x0, .int .u8 x1, .int .u16 L, .int .i64 U, .int .u32 Y] 132)) := Bl.trans B1 (by go_grown)
    have k2 := Blk.keep B2 k
    have kl := Blk.newAt w2 #[.slice A U c, .slice (cutA A c U) (n - U) (c - U), .int .u8 x0, .int .u8 x1, .int .u16 L, .int .i64 U, .int .u32 Y] 132 w2.heap.size rfl
    have hz : gk < w2.heap.size := by omega
    generalize (w2.alloc (.cells #[.slice A U c, .slice (cutA A c U) (n - U) (c - U), .int .u8 x0, .int .u8 x1, .int .u16 L, .int .i64 U, .int .u32 Y] 132)) = W at *
    (with_reducible refine (addLayer_any _ _ _ _ _ k2).mono ?_)
    rintro e w3 ⟨rfl, rfl⟩
    go_wp2_with fail
    go_ret
    subst_vars
    exact ⟨rfl, w2.heap.size, (Below.ofBl B2 (Nat.le_of_lt hk)).setCell (Nat.le_refl _) _, k2.set 0 _, kl.far (Nat.ne_of_gt hz) _⟩
set_option maxHeartbeats 1000000 in
theorem decShu_short (A : Option Addr) (n c : Nat) (l : List Int) (w : World) (h : Rd .u8 w A n c l) (hl : By l) (h4 : 4 ≤ n) (hL : chL l < 4) (v : Value) :
    Calls Try.prog 83 #[.slice A n c, v] w fun e w' => (∃ u, e = .returned (.iface 167 u)) ∧ Bl w w' := by
  have H := Lib.hid h
  have HB := Lib.hid hl
  clear h hl
  go_enter Try.func83, Try.ntmps83
  go_wp2_with fail
  (with_reducible refine (chunk_short _ _ _ _ _ H.out HB.out h4 hL).mono ?_)
  rintro e w1 ⟨⟨u, rfl⟩, hb1⟩
  go_wp2_with fail
  go_ret
  exact ⟨⟨_, rfl⟩, Bl.trans hb1 (by go_grown)⟩
end Go.Proofs.Ytoljdgfbkebgcaa
