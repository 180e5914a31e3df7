/- SerializeTo: sctpshutdown. -/
import Derived.Test.YtoljdgfbkebgcaaPut
namespace Go.Proofs.Ytoljdgfbkebgcaa
open Go.RowKit
set_option maxHeartbeats 2000000 in
theorem seShu_any (gb : Nat) (A : Option Addr) (n c : Nat) (app : Int) (l : List Int) (x0 x1 L U : Int) (Y : Int) (o1 o2 : Bool) (w : World) (kb : Blk w gb (bfC A n c 0 app) 144) (h : Rd .u8 w A n c l) (hA : InF (· ≠ gb) A n) (hc : c ≤ 100000) (b0 : 0 ≤ x0 ∧ x0 ≤ 255) (b1 : 0 ≤ x1 ∧ x1 ≤ 255) (bY : 0 ≤ Y ∧ Y ≤ 4294967295) :
    Calls Try.prog 129 #[.agg #[.slice none 0 0, .slice none 0 0, .int .u8 x0, .int .u8 x1, .int .u16 L, .int .i64 U, .int .u32 Y], .iface 141 (.pointer (some ⟨gb, 0, none⟩)), .agg #[.bool o1, .bool o2]] w fun e w' =>
      ∃ h', e = .returned .nilIface ∧ w.heap.size ≤ h' ∧ Chg gb w w' ∧ Blk w' gb (bfC (some ⟨h', 0, none⟩) (8 + n) (c + 8) (8 : Nat) app) 144 ∧ Rd .u8 w' (some ⟨h', 0, none⟩) (8 + n) (c + 8) ([x0, x1, 0, 8, Y / 16777216, Y / 65536 % 256, Y / 256 % 256, Y % 256] ++ l) := by
  have H := Lib.hid h
  have HA := Lib.hid hA
  have K := Lib.hid kb
  have hcap := h.cap
  have hl := h.len
  have kz := kb.lt
  clear h hA kb
  go_enter Try.func129, Try.ntmps129
  go_wp2_with fail
  have B0 : Bl w ((w.alloc (.cells #[.slice none 0 0, .slice none 0 0, .int .u8 x0, .int .u8 x1, .int .u16 L, .int .i64 U, .int .u32 Y] 132)).alloc (.cells #[.bool o1, .bool o2] 71)) := by go_grown
  have ks : Blk ((w.alloc (.cells #[.slice none 0 0, .slice none 0 0, .int .u8 x0, .int .u8 x1, .int .u16 L, .int .i64 U, .int .u32 Y] 132)).alloc (.cells #[.bool o1, .bool o2] 71)) w.heap.size #[.slice none 0 0, .slice none 0 0, .int .u8 x0, .int .u8 x1, .int .u16 L, .int .i64 U, .int .u32 Y] 132 := (Blk.new w _ _).alloc _
  generalize hW : ((w.alloc (.cells #[.slice none 0 0, .slice none 0 0, .int .u8 x0, .int .u8 x1, .int .u16 L, .int .i64 U, .int .u32 Y] 132)).alloc (.cells #[.bool o1, .bool o2] 71)) = W at *
  have hgs : w.heap.size ≠ gb := Nat.ne_of_gt kz
  have hgW : w.heap.size < W.heap.size := ks.lt
  clear hW
  (with_reducible refine (prependB gb A n c 8 8 app l W (K.out.below B0) (H.out.below B0) HA.out rfl (by omega) (by omega) hc).mono ?_)
  rintro e w1 ⟨rfl, ch1, kb1, kd1⟩
  have hb := W.heap.size
  have X1 : Chg gb w w1 := (Chg.of B0).trans ch1
  have ks1 := ks.chg ch1 hgs
  have hgh : W.heap.size ≠ gb := by omega
  have hgh2 : w.heap.size ≠ W.heap.size := by omega
  have hle : w.heap.size ≤ W.heap.size := by omega
  have hsz := splice_size c 8 n l hl hcap
  have H2 : Hid (∀ i, (splice (zs (c + 8)).toList 8 (l.map (Value.int .u8))).toArray[8 + i]? = (splice (zs (c + 8)).toList 8 (l.map (Value.int .u8))).toArray[8 + i]?) := fun _ => rfl
  generalize hcs : (splice (zs (c + 8)).toList 8 (l.map (Value.int .u8))).toArray = cs at *
  have HCS := Lib.hid hcs
  obtain ⟨u0, e0⟩ : ∃ u, cs[0]? = some u := ⟨_, Array.getElem?_eq_getElem (by omega)⟩
  obtain ⟨u1, e1⟩ : ∃ u, cs[1]? = some u := ⟨_, Array.getElem?_eq_getElem (by omega)⟩
  have c0 : w1.cell? ⟨W.heap.size, 0, none⟩ = some u0 := (kd1.cell 0).trans e0
  have c1 : w1.cell? ⟨W.heap.size, 1, none⟩ = some u1 := (kd1.cell 1).trans e1
  have f0 := kd1.frozen 0
  have f1 := kd1.frozen 1
  have cs1 := ks1.cell
  have zs1 := ks1.lt
  have zd1 := kd1.lt
  have KB1 := Lib.hid kb1
  have KD1 := Lib.hid kd1
  have KS1 := Lib.hid ks1
  clear kb1 kd1 ks1 hcs e0 e1 H2 ks ch1
  generalize W.heap.size = h' at *
  go_wp2_with fail
  have X2 : Chg gb w ((w1.setCell ⟨h', 0, none⟩ (.int .u8 x0)).setCell ⟨h', 1, none⟩ (.int .u8 x1)) := (X1.new (p := ⟨h', 0, none⟩) hle _).new (p := ⟨h', 1, none⟩) hle _
  have kd2 := (KD1.out.set 0 (.int .u8 x0)).set 1 (.int .u8 x1)
  have kb2 := (KB1.out.far (p := ⟨h', 0, none⟩) (Ne.symm hgh) (.int .u8 x0)).far (p := ⟨h', 1, none⟩) (Ne.symm hgh) (.int .u8 x1)
  have ks2 := (KS1.out.far (p := ⟨h', 0, none⟩) hgh2 (.int .u8 x0)).far (p := ⟨h', 1, none⟩) hgh2 (.int .u8 x1)
  clear c0 c1 f0 f1 cs1 zs1 zd1
  generalize ((w1.setCell ⟨h', 0, none⟩ (.int .u8 x0)).setCell ⟨h', 1, none⟩ (.int .u8 x1)) = W0 at *
  have s0 := run_cut (some ⟨h', 0, none⟩) 8 (c + 8) 2 4 2 4 rfl rfl (by omega) (by omega) 24 Try.underlying24 size5
  have sa0 : cutA (some ⟨h', 0, none⟩) (c + 8) 2 = some ⟨h', 2, none⟩ := by unfold cutA; rw [if_neg (by omega)]; rfl
  rw [sa0] at s0
  have g00 : ∀ d os, (Sort.grow (redrawn W0 d) os).cell? ⟨w.heap.size, 6, none⟩ = some (.int .u32 Y) := fun d os => cell_regrown (ks2.cell 6) d os
  refine wp_region_float (S := Grw W0) [true, true, true, false] 3 (by kernel_rfl) (by kernel_rfl) (Grw.drew W0) ?_
  simp only [selQ, selN, earlyN]
  repeat (first | go_big_quiet_skip | (go_big_quiet_want; go_big_quiet_op; go_big_quiet_on))
  refine wpQuiet_nil ?_
  refine wpN_late ?_
  go_wp2_with fail
  (with_reducible refine (put16_any h' 2 _ (8) _ _ (kd2.same (w' := W0.drew) rfl) (by simp only [Array.size_setIfInBounds]; omega) (by omega)).mono ?_)
  rintro e w2 ⟨rfl, ch2, kd3⟩
  have X3 : Chg gb w w2 := by
    have := ch2
    exact ⟨this.os.trans X2.os, this.tape.trans X2.tape, this.output.trans X2.output, Nat.le_trans X2.size this.size, fun i hi hlt => (this.block i (by omega) (Nat.lt_of_lt_of_le hlt X2.size)).trans (X2.block i hi hlt)⟩
  have kb3 := (kb2.same (w' := W0.drew) rfl).chg ch2 (Ne.symm hgh)
  have ks3 := (ks2.same (w' := W0.drew) rfl).chg ch2 hgh2
  clear s0 sa0 g00 ch2
  go_wp2_with fail
  refine NoPanic.normal ?_
  go_wp2_with fail
  generalize w2 = W1 at *
  have s1 := run_cut (some ⟨h', 0, none⟩) 8 (c + 8) 4 8 4 8 rfl rfl (by omega) (by omega) 24 Try.underlying24 size5
  have sa1 : cutA (some ⟨h', 0, none⟩) (c + 8) 4 = some ⟨h', 4, none⟩ := by unfold cutA; rw [if_neg (by omega)]; rfl
  rw [sa1] at s1
  have g10 : ∀ d os, (Sort.grow (redrawn W1 d) os).cell? ⟨w.heap.size, 6, none⟩ = some (.int .u32 Y) := fun d os => cell_regrown (ks3.cell 6) d os
  refine wp_region_float (S := Grw W1) [true, true, true, true, true, false] 5 (by kernel_rfl) (by kernel_rfl) (Grw.drew W1) ?_
  simp only [selQ, selN, earlyN]
  repeat (first | go_big_quiet_skip | (go_big_quiet_want; go_big_quiet_op; go_big_quiet_on))
  refine wpQuiet_nil ?_
  refine wpN_late ?_
  go_wp2_with fail
  (with_reducible refine (put32_any h' 4 _ (Y) _ _ (kd3.same (w' := W1.drew) rfl) (by simp only [Array.size_setIfInBounds]; omega) (by omega)).mono ?_)
  rintro e w3 ⟨rfl, ch3, kd4⟩
  have X4 : Chg gb w w3 := by
    have := ch3
    exact ⟨this.os.trans X3.os, this.tape.trans X3.tape, this.output.trans X3.output, Nat.le_trans X3.size this.size, fun i hi hlt => (this.block i (by omega) (Nat.lt_of_lt_of_le hlt X3.size)).trans (X3.block i hi hlt)⟩
  have kb4 := (kb3.same (w' := W1.drew) rfl).chg ch3 (Ne.symm hgh)
  have ks4 := (ks3.same (w' := W1.drew) rfl).chg ch3 hgh2
  clear s1 sa1 g10 ch3
  go_wp2_with fail
  refine NoPanic.normal ?_
  have KBF := Lib.hid kb4
  have KDF := Lib.hid kd4
  clear kb4 kd4 ks4
  go_wp2_with fail
  go_ret
  refine ⟨h', rfl, hle, X4, KBF.out, ser_rd (hd := [x0, x1, 0, 8, Y / 16777216, Y / 65536 % 256, Y / 256 % 256, Y % 256]) KDF.out hl hcap rfl ?_ ?_⟩
  · intro i hi
    match i, hi with
    | 0, _ => simp [Array.getElem?_setIfInBounds, show 0 < cs.size by omega, show 1 < cs.size by omega, show 2 < cs.size by omega, show 3 < cs.size by omega, show 4 < cs.size by omega, show 5 < cs.size by omega, show 6 < cs.size by omega, show 7 < cs.size by omega]
    | 1, _ => simp [Array.getElem?_setIfInBounds, show 0 < cs.size by omega, show 1 < cs.size by omega, show 2 < cs.size by omega, show 3 < cs.size by omega, show 4 < cs.size by omega, show 5 < cs.size by omega, show 6 < cs.size by omega, show 7 < cs.size by omega]
    | 2, _ => simp [Array.getElem?_setIfInBounds, show 0 < cs.size by omega, show 1 < cs.size by omega, show 2 < cs.size by omega, show 3 < cs.size by omega, show 4 < cs.size by omega, show 5 < cs.size by omega, show 6 < cs.size by omega, show 7 < cs.size by omega]
    | 3, _ => simp [Array.getElem?_setIfInBounds, show 0 < cs.size by omega, show 1 < cs.size by omega, show 2 < cs.size by omega, show 3 < cs.size by omega, show 4 < cs.size by omega, show 5 < cs.size by omega, show 6 < cs.size by omega, show 7 < cs.size by omega]
    | 4, _ => simp [Array.getElem?_setIfInBounds, show 0 < cs.size by omega, show 1 < cs.size by omega, show 2 < cs.size by omega, show 3 < cs.size by omega, show 4 < cs.size by omega, show 5 < cs.size by omega, show 6 < cs.size by omega, show 7 < cs.size by omega]
    | 5, _ => simp [Array.getElem?_setIfInBounds, show 0 < cs.size by omega, show 1 < cs.size by omega, show 2 < cs.size by omega, show 3 < cs.size by omega, show 4 < cs.size by omega, show 5 < cs.size by omega, show 6 < cs.size by omega, show 7 < cs.size by omega]
    | 6, _ => simp [Array.getElem?_setIfInBounds, show 0 < cs.size by omega, show 1 < cs.size by omega, show 2 < cs.size by omega, show 3 < cs.size by omega, show 4 < cs.size by omega, show 5 < cs.size by omega, show 6 < cs.size by omega, show 7 < cs.size by omega]
    | 7, _ => simp [Array.getElem?_setIfInBounds, show 0 < cs.size by omega, show 1 < cs.size by omega, show 2 < cs.size by omega, show 3 < cs.size by omega, show 4 < cs.size by omega, show 5 < cs.size by omega, show 6 < cs.size by omega, show 7 < cs.size by omega]
  · intro i
    rw [HCS.out]
    repeat rw [Array.getElem?_setIfInBounds_ne (by omega)]
end Go.Proofs.Ytoljdgfbkebgcaa
