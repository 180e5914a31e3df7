/- decodeSCTPChunk: what heads a chunk. -/
import Derived.Test.YtoljdgfbkebgcaaLeaf
import Derived.Deep.RegionWith
namespace Go.Proofs.Ytoljdgfbkebgcaa
open Go.RowKit
/-- A part up to a number of two bytes. -/
theorem run_cutu {e : TypeId} (A : Option Addr) (n c lo hi : Nat) (ilo ihi : Int) (e1 : ilo = lo) (e2 : ihi = hi) (h1 : lo ≤ hi) (h2 : hi ≤ c)
    (t : TypeId) (ht : Try.prog.underlying t = some (.slice e)) (hs : ∀ W, (sizeOf e).run Try.prog W = .ok 1 W) (W : World) :
    (Instr.slice t (.slice A n c) (some (.int .i64 ilo)) (some (.int .u16 ihi)) none).run Try.prog W = .ok (.slice (cutA A c lo) (hi - lo) (c - lo)) W := by
  subst e1 e2
  have hel : Try.prog.elem t = e := by simp [Program.elem, ht]
  have hu : Try.prog.underlying t = some (.slice (Try.prog.elem t)) := by rw [hel]; exact ht
  rw [run_slice_lh W t A n c hu .i64 .u16 lo hi (by omega) (by omega) (by omega), hel, hs]
  simp [sliced, Result.andThen, cutA]
theorem Bl.boxed6 {w w1 : World} {g : Nat} (hb : Bl w w1) (hg : w.heap.size ≤ g) (u0 u1 u2 u3 u4 u5 : Value) :
    Bl w ((((((w1.setCell ⟨g, 0, none⟩ u0).setCell ⟨g, 1, none⟩ u1).setCell ⟨g, 2, none⟩ u2).setCell ⟨g, 3, none⟩ u3).setCell ⟨g, 4, none⟩ u4).setCell ⟨g, 5, none⟩ u5) :=
  (((((Below.setCell hb hg _).setCell hg _).setCell hg _).setCell hg _).setCell hg _).setCell hg _
/-- A chunk's length, and the length filled up. -/
def chL (l : List Int) : Nat := (be (sub l 2 4)).toNat
def up4 (n : Nat) : Nat := (n + 3) / 4 * 4
theorem chL_int (l : List Int) (hl : By l) : be (sub l 2 4) = (chL l : Int) := by
  have := be_nonneg _ (hl.sub 2 4)
  unfold chL; omega
theorem chL_le (l : List Int) (hl : By l) (h4 : 4 ≤ l.length) : chL l ≤ 65535 := by
  have := be_bd2 (sub l 2 4) (hl.sub _ _) (by rw [sub_length _ _ _ (by omega)])
  unfold chL; omega
/-- The cells of a chunk's head. -/
def chk (A : Option Addr) (n c : Nat) (l : List Int) : Array Value :=
  #[.slice A (up4 (chL l)) c, .slice (cutA A c (up4 (chL l))) (n - up4 (chL l)) (c - up4 (chL l)), .int .u8 (l.getD 0 0), .int .u8 (l.getD 1 0), .int .u16 (be (sub l 2 4)), .int .i64 (up4 (chL l))]
/-- The same at a chunk of data. -/
def chkD (A : Option Addr) (n c : Nat) (l : List Int) : Array Value :=
  #[.slice A 16 c, .slice (cutA A c 16) (n - (up4 (chL l) - chL l) - 16) (c - 16), .int .u8 0, .int .u8 (l.getD 1 0), .int .u16 (be (sub l 2 4)), .int .i64 16]
set_option maxHeartbeats 2000000 in
theorem chunk_short (A : Option Addr) (n c : Nat) (l : List Int) (w : World) (h : Rd .u8 w A n c l) (hl : By l) (h4 : 4 ≤ n) (hL : chL l < 4) :
    Calls Try.prog 89 #[.slice A n c] w fun e w' => (∃ x, e = .returned (.tuple #[.agg #[.slice none 0 0, .slice none 0 0, .int .u8 0, .int .u8 0, .int .u16 0, .int .i64 0], .iface 167 x])) ∧ Bl w w' := by
  have hcap := h.cap
  have s1 := run_cut A n c 2 4 2 4 rfl rfl (by omega) (by omega) 24 Try.underlying24 size5
  have R1 := Lib.hid (h.cutm 2 4 2 (by omega) (by omega))
  have HB := Lib.hid hl
  have e1 := chL_int l hl
  have b1 : be (sub l 2 4) < 4 := by omega
  have b2 := be_nonneg _ (hl.sub 2 4)
  clear h e1
  go_enter Try.func89, Try.ntmps89
  go_wp2_with fail
  go_region_with (go_at_call 91; (with_reducible refine (be16_any _ _ _ _ (R1.out.below (by go_grown)) (HB.out.sub 2 4)).mono ?_); rintro e w1 ⟨rfl, hb1⟩; have k1 := Blk.keep hb1 (Blk.same (Blk.new w _ _) rfl))
  have c1 := k1.cell
  have f1 := k1.frozen
  generalize be (sub l 2 4) = L at *
  go_wp2_with fail
  (with_reducible refine (errNew_any _ _).mono ?_)
  rintro e w2 ⟨rfl, hb2⟩
  have k2 := Blk.keep hb2 k1
  have c2 := k2.cell
  have f2 := k2.frozen
  have B2 : Bl w w2 := (Bl.trans (by go_grown) hb1).trans hb2
  go_wp2_with fail
  refine bodyPost_ret (v := .tuple #[.agg #[.slice none 0 0, .slice none 0 0, .int .u8 0, .int .u8 0, .int .u16 0, .int .i64 0], .iface 167 (.pointer (some ⟨w1.heap.size, 0, none⟩))]) (by simp [results, Try.results89, go_sem, c2]) rfl ⟨⟨_, rfl⟩, Bl.boxed6 B2 (Nat.le_refl _) _ _ _ _ _ _⟩
set_option maxHeartbeats 1000000 in
theorem chunk_any (A : Option Addr) (n c : Nat) (l : List Int) (w : World) (h : Rd .u8 w A n c l) (hl : By l) (h4 : 4 ≤ chL l) (hn : up4 (chL l) ≤ n) (h0 : l.getD 0 0 ≠ 0) (hn2 : n ≤ 2147483647) :
    Calls Try.prog 89 #[.slice A n c] w fun e w' => e = .returned (.tuple #[.agg (chk A n c l), .nilIface]) ∧ Bl w w' := by
  have hcap := h.cap
  have hlen := h.len
  have u4 : 4 ≤ up4 (chL l) := by unfold up4; omega
  have s1 := run_cut A n c 2 4 2 4 rfl rfl (by omega) (by omega) 24 Try.underlying24 size5
  have s2 := run_cut_h A n c (up4 (chL l)) _ rfl (by omega) 24 Try.underlying24 size5
  have s3 := run_cut A n c (up4 (chL l)) n _ _ rfl rfl (by omega) (by omega) 24 Try.underlying24 size5
  have R1 := Lib.hid (h.cutm 2 4 2 (by omega) (by omega))
  have HB := Lib.hid hl
  have e1 := chL_int l hl
  have b1 := chL_le l hl (by omega)
  have e2 : (be (sub l 2 4) + 3) / 4 * 4 = (up4 (chL l) : Int) := by rw [e1]; unfold up4; omega
  have b2 : 4 ≤ be (sub l 2 4) := by omega
  have b3 : be (sub l 2 4) ≤ 65535 := by omega
  obtain ⟨g, o, rfl, hg, hc⟩ := h.at (by omega)
  have d0 := hc 0 (by omega)
  have d1 := hc 1 (by omega)
  simp only [Nat.add_zero] at d0
  unfold chk
  generalize up4 (chL l) = U at *
  generalize HX : be (sub l 2 4) = L at *
  generalize l.getD 0 0 = x0 at *
  generalize l.getD 1 0 = x1 at *
  clear h e1 hc b1 h4
  go_enter Try.func89, Try.ntmps89
  go_wp2_with fail
  go_region_with (go_at_call 91; (with_reducible refine (be16_any _ _ _ _ (R1.out.below (by go_grown)) (HB.out.sub 2 4)).mono ?_); rintro e w1 ⟨rfl, hb1⟩; have k1 := Blk.keep hb1 (Blk.same (Blk.new w _ _) rfl))
  have c1 := k1.cell
  have f1 := k1.frozen
  have z1 := k1.lt
  have d0' := ((Bl.trans (by go_grown) hb1 : Bl w w1).cell (p := ⟨g, o, none⟩) hg).trans d0
  have d1' := ((Bl.trans (by go_grown) hb1 : Bl w w1).cell (p := ⟨g, o + 1, none⟩) hg).trans d1
  have B1 : Bl w w1 := Bl.trans (by go_grown) hb1
  have HX0 := Lib.hid h0
  clear d0 d1 hb1 HX
  go_wp2_with fail
  (with_reducible refine (round_any _ (by omega) (by omega) _).mono ?_)
  rintro e w2 ⟨rfl, rfl⟩
  rw [e2]
  have h0 := HX0.out
  go_wp2_with fail
  go_region
  go_wp2_with fail
  refine bodyPost_ret (v := .tuple #[.agg #[.slice (some ⟨g, o, none⟩) U c, .slice (cutA (some ⟨g, o, none⟩) c U) (n - U) (c - U), .int .u8 x0, .int .u8 x1, .int .u16 L, .int .i64 U], .nilIface]) (by simp [results, Try.results89, go_sem, c1]) rfl ⟨rfl, ?_⟩
  with_reducible exact Below.drew (Bl.boxed6 B1 (Nat.le_refl _) _ _ _ _ _ _)
set_option maxHeartbeats 1000000 in
theorem chunk_data (A : Option Addr) (n c : Nat) (l : List Int) (w : World) (h : Rd .u8 w A n c l) (hl : By l) (h4 : 4 ≤ chL l) (hn : up4 (chL l) ≤ n) (h16 : 16 + (up4 (chL l) - chL l) ≤ n) (h0 : l.getD 0 0 = 0) (hn2 : n ≤ 2147483647) :
    Calls Try.prog 89 #[.slice A n c] w fun e w' => e = .returned (.tuple #[.agg (chkD A n c l), .nilIface]) ∧ Bl w w' := by
  have hcap := h.cap
  have hlen := h.len
  have u4 : 4 ≤ up4 (chL l) := by unfold up4; omega
  have s1 := run_cut A n c 2 4 2 4 rfl rfl (by omega) (by omega) 24 Try.underlying24 size5
  have uK : up4 (chL l) - chL l ≤ 3 := by unfold up4; omega
  have uL : chL l ≤ up4 (chL l) := by unfold up4; omega
  have s2 := run_cut_h A n c 16 16 rfl (by omega) 24 Try.underlying24 size5
  have s3 := run_cut A n c 16 (n - (up4 (chL l) - chL l)) 16 ((n : Int) - ((up4 (chL l) : Int) - be (sub l 2 4))) rfl (by have := chL_int l hl; omega) (by omega) (by omega) 24 Try.underlying24 size5
  have R1 := Lib.hid (h.cutm 2 4 2 (by omega) (by omega))
  have HB := Lib.hid hl
  have e1 := chL_int l hl
  have b1 := chL_le l hl (by omega)
  have e2 : (be (sub l 2 4) + 3) / 4 * 4 = (up4 (chL l) : Int) := by rw [e1]; unfold up4; omega
  have b2 : 4 ≤ be (sub l 2 4) := by omega
  have b3 : be (sub l 2 4) ≤ 65535 := by omega
  obtain ⟨g, o, rfl, hg, hc⟩ := h.at (by omega)
  have d0 := hc 0 (by omega)
  have d1 := hc 1 (by omega)
  simp only [Nat.add_zero] at d0
  unfold chkD
  generalize HD : up4 (chL l) - chL l = D at *
  generalize up4 (chL l) = U at *
  generalize HX : be (sub l 2 4) = L at *
  rw [h0] at *
  generalize l.getD 1 0 = x1 at *
  clear h e1 hc b1 h4 HD uL
  go_enter Try.func89, Try.ntmps89
  go_wp2_with fail
  go_region_with (go_at_call 91; (with_reducible refine (be16_any _ _ _ _ (R1.out.below (by go_grown)) (HB.out.sub 2 4)).mono ?_); rintro e w1 ⟨rfl, hb1⟩; have k1 := Blk.keep hb1 (Blk.same (Blk.new w _ _) rfl))
  have c1 := k1.cell
  have f1 := k1.frozen
  have z1 := k1.lt
  have d0' := ((Bl.trans (by go_grown) hb1 : Bl w w1).cell (p := ⟨g, o, none⟩) hg).trans d0
  have d1' := ((Bl.trans (by go_grown) hb1 : Bl w w1).cell (p := ⟨g, o + 1, none⟩) hg).trans d1
  have B1 : Bl w w1 := Bl.trans (by go_grown) hb1
  clear d0 d1 hb1 HX h0
  go_wp2_with fail
  (with_reducible refine (round_any _ (by omega) (by omega) _).mono ?_)
  rintro e w2 ⟨rfl, rfl⟩
  rw [e2]
  go_wp2_with fail
  go_region
  go_wp2_with fail
  refine bodyPost_ret (v := .tuple #[.agg #[.slice (some ⟨g, o, none⟩) 16 c, .slice (cutA (some ⟨g, o, none⟩) c 16) (n - D - 16) (c - 16), .int .u8 0, .int .u8 x1, .int .u16 L, .int .i64 16], .nilIface]) (by simp [results, Try.results89, go_sem, c1]) rfl ⟨rfl, ?_⟩
  with_reducible exact Below.drew (Bl.boxed6 B1 (Nat.le_refl _) _ _ _ _ _ _)
end Go.Proofs.Ytoljdgfbkebgcaa
