/- decodeSCTPParameter. -/
import Derived.Test.YtoljdgfbkebgcaaChk
import Derived.Test.YtoljdgfbkebgcaaFlo
import Derived.Test.YtoljdgfbkebgcaaLeaf
namespace Go.Proofs.Ytoljdgfbkebgcaa
open Go.RowKit
theorem run_cut16 {e : TypeId} (A : Option Addr) (n c lo hi : Nat) (ilo ihi : Int) (e1 : ilo = lo) (e2 : ihi = hi) (h1 : lo ≤ hi) (h2 : hi ≤ c)
    (t : TypeId) (ht : Try.prog.underlying t = some (.slice e)) (hs : ∀ W, (sizeOf e).run Try.prog W = .ok 1 W) (W : World) :
    (Instr.slice t (.slice A n c) (some (.int .i64 ilo)) (some (.int .u16 ihi)) none).run Try.prog W = .ok (.slice (cutA A c lo) (hi - lo) (c - lo)) W := by
  subst e1 e2
  have hel : Try.prog.elem t = e := by simp [Program.elem, ht]
  have hu : Try.prog.underlying t = some (.slice (Try.prog.elem t)) := by rw [hel]; exact ht
  rw [run_slice_lh W t A n c hu .i64 .u16 lo hi (by omega) (by omega) (by omega), hel, hs]
  simp [sliced, Result.andThen, cutA]
/-- What a parameter is decoded to. -/
def prmC (A : Option Addr) (c : Nat) (l : List Int) : Array Value := #[.int .u16 (be (sub l 0 2)), .int .u16 (be (sub l 2 4)), .int .i64 (up4 (chL l) : Nat), .slice (cutA A c 4) (chL l - 4) (c - 4)]
set_option maxHeartbeats 2000000 in
set_option maxRecDepth 100000 in
theorem decPrm_any (A : Option Addr) (n c : Nat) (l : List Int) (w : World) (h : Rd .u8 w A n c l) (hl : By l) (h4 : 4 ≤ n) (hc4 : 4 ≤ chL l) (hle : chL l ≤ n) :
    Calls Try.prog 92 #[.slice A n c] w fun e w' => e = .returned (.agg (prmC A c l)) ∧ Bl w w' := by
  have hcap := h.cap
  have hlen := h.len
  have s1 := run_cut A n c 2 4 2 4 rfl rfl (by omega) (by omega) 24 Try.underlying24 size5
  have s0 := run_cut A n c 0 2 0 2 rfl rfl (by omega) (by omega) 24 Try.underlying24 size5
  have e1 := chL_int l hl
  have s3 : ∀ W, (Instr.slice 24 (.slice A n c) (some (.int .i64 4)) (some (.int .u16 (be (sub l 2 4)))) none).run Try.prog W = .ok (.slice (cutA A c 4) (chL l - 4) (c - 4)) W := run_cut16 A n c 4 (chL l) 4 (be (sub l 2 4)) rfl e1 hc4 (by omega) 24 Try.underlying24 size5
  have R1 := Lib.hid (h.cutm 2 4 2 (by omega) (by omega))
  have R0 : Hid (Rd .u8 w (cutA A c 0) 2 c (sub l 0 2)) := Lib.hid (h.cutm 0 2 2 (by omega) (by omega))
  have HB := Lib.hid hl
  have b1 := be_bd2 (sub l 2 4) (hl.sub _ _) (by rw [sub_length _ _ _ (by omega)])
  have b0 := be_bd2 (sub l 0 2) (hl.sub _ _) (by rw [sub_length _ _ _ (by omega)])
  have HU : Hid ((be (sub l 2 4) + 3) / 4 * 4 = ((up4 (chL l) : Nat) : Int)) := Lib.hid (by unfold up4; omega)
  clear h hl
  have hP : prmC A c l = #[.int .u16 (be (sub l 0 2)), .int .u16 (be (sub l 2 4)), .int .i64 ((be (sub l 2 4) + 3) / 4 * 4), .slice (cutA A c 4) (chL l - 4) (c - 4)] := by unfold prmC; rw [HU.out]
  rw [hP]
  clear hP HU e1
  generalize HG : be (sub l 2 4) = G at *
  generalize HG0 : be (sub l 0 2) = G0 at *
  go_enter Try.func92, Try.ntmps92
  go_wp2_with fail
  have B0 : Bl w (w.alloc (.cells #[.int .u16 0, .int .u16 0, .int .i64 0, .slice none 0 0] 111)) := by go_grown
  have k0 : Blk (w.alloc (.cells #[.int .u16 0, .int .u16 0, .int .i64 0, .slice none 0 0] 111)) w.heap.size #[.int .u16 0, .int .u16 0, .int .i64 0, .slice none 0 0] 111 := Blk.new _ _ _
  generalize w.alloc (.cells #[.int .u16 0, .int .u16 0, .int .i64 0, .slice none 0 0] 111) = W0 at *
  refine wp_region_float (S := Grw W0) [true, true, true, false, false] 3 (by kernel_rfl) (by kernel_rfl) (Grw.drew W0) ?_
  simp only [selQ, selN, earlyN]
  repeat (first | go_big_quiet_skip | (go_big_quiet_want; go_big_quiet_op; go_big_quiet_on))
  refine wpQuiet_nil ?_
  refine wpN_late ?_
  have B0' : Bl w W0.drew := B0.drew
  go_wp2_with fail
  (with_reducible refine (be16_any _ _ _ _ (R1.out.below B0') (HB.out.sub 2 4)).mono ?_)
  rintro e w1 ⟨rfl, hb1⟩
  rw [HG]
  have B1 := B0'.trans hb1
  have k1 := Blk.keep hb1 (k0.same (w' := W0.drew) rfl)
  clear k0 hb1 B0 B0'
  go_wp2_with fail
  refine NoPanic.normal ?_
  go_wp2_with fail
  refine wp_region_float (S := Grw w1) [true, true, true, false, true, true, true, true, true, true, false, false, false] 11 (by kernel_rfl) (by kernel_rfl) (Grw.drew w1) ?_
  simp only [selQ, selN, earlyN]
  repeat (first | go_big_quiet_skip | (go_big_quiet_want; go_big_quiet_op; go_big_quiet_on))
  refine wpQuiet_nil ?_
  have Bd : Bl w1 w1.drew := (Bl.refl w1).drew
  refine wpN_want rfl (fun K hK => ?_)
  go_big_op
  (with_reducible refine (be16_any _ _ _ _ (R0.out.below (B1.drew)) (HB.out.sub 0 2)).mono ?_)
  rintro e w2 ⟨rfl, hb2⟩
  rw [HG0]
  have B2 := Bd.trans hb2
  refine hK _ _ (Grw.of B2) ?_
  clear hK K
  refine wpN_want rfl (fun K hK => ?_)
  go_big_op
  (with_reducible refine (round_any _ (by omega) (by omega) _).mono ?_)
  rintro e w3 ⟨rfl, rfl⟩
  refine hK _ _ (Grw.of B2) ?_
  clear hK K
  refine wpN_late ?_
  have k2 := Blk.keep B2 k1
  have BW := B1.trans B2
  have kc := k2.cell
  have kf := k2.frozen
  have kz := k2.lt
  go_wp2_with fail
  refine NoPanic.normal ?_
  go_wp2_with fail
  have k9 := ((((k2.set 0 (.int .u16 G0)).set 1 (.int .u16 G)).set 2 (.int .i64 ((G + 3) / 4 * 4))).set 3 (.slice (cutA A c 4) (chL l - 4) (c - 4)))
  have B9 : Bl w ((((w2.setCell ⟨w.heap.size, 0, none⟩ (.int .u16 G0)).setCell ⟨w.heap.size, 1, none⟩ (.int .u16 G)).setCell ⟨w.heap.size, 2, none⟩ (.int .i64 ((G + 3) / 4 * 4))).setCell ⟨w.heap.size, 3, none⟩ (.slice (cutA A c 4) (chL l - 4) (c - 4))) := (((BW.setCell (Nat.le_refl _) _).setCell (Nat.le_refl _) _).setCell (Nat.le_refl _) _).setCell (Nat.le_refl _) _
  simp only [List.setIfInBounds_toArray, List.set_cons_zero, List.set_cons_succ] at k9
  generalize ((((w2.setCell ⟨w.heap.size, 0, none⟩ (.int .u16 G0)).setCell ⟨w.heap.size, 1, none⟩ (.int .u16 G)).setCell ⟨w.heap.size, 2, none⟩ (.int .i64 ((G + 3) / 4 * 4))).setCell ⟨w.heap.size, 3, none⟩ (.slice (cutA A c 4) (chL l - 4) (c - 4))) = W9 at *
  have c9 := k9.cell
  exact bodyPost_ret (v := .agg #[.int .u16 G0, .int .u16 G, .int .i64 ((G + 3) / 4 * 4), .slice (cutA A c 4) (chL l - 4) (c - 4)]) (by simp [results, Try.results92, go_sem, c9]) rfl ⟨rfl, B9⟩
end Go.Proofs.Ytoljdgfbkebgcaa
