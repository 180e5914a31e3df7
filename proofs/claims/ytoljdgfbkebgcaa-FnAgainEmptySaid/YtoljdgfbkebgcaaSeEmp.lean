/- SerializeTo: sctpempty. -/
import Derived.Test.YtoljdgfbkebgcaaPut
namespace Go.Proofs.Ytoljdgfbkebgcaa
open Go.RowKit
set_option maxHeartbeats 2000000 in
theorem seEmp_any (gb : Nat) (A : Option Addr) (n c : Nat) (app : Int) (l : List Int) (x0 x1 L U : Int) (o1 o2 : Bool) (w : World) (kb : Blk w gb (bfC A n c 0 app) 144) (h : Rd .u8 w A n c l) (hA : InF (· ≠ gb) A n) (hc : c ≤ 100000) (b0 : 0 ≤ x0 ∧ x0 ≤ 255) (b1 : 0 ≤ x1 ∧ x1 ≤ 255) :
    Calls Try.prog 135 #[.agg #[.slice none 0 0, .slice none 0 0, .int .u8 x0, .int .u8 x1, .int .u16 L, .int .i64 U], .iface 141 (.pointer (some ⟨gb, 0, none⟩)), .agg #[.bool o1, .bool o2]] w fun e w' =>
      ∃ h', e = .returned .nilIface ∧ w.heap.size ≤ h' ∧ Chg gb w w' ∧ Blk w' gb (bfC (some ⟨h', 0, none⟩) (4 + n) (c + 4) (4 : Nat) app) 144 ∧ Rd .u8 w' (some ⟨h', 0, none⟩) (4 + n) (c + 4) ([x0, x1, 0, 4] ++ l) := by
  have H := Lib.hid h
  have HA := Lib.hid hA
  have K := Lib.hid kb
  have hcap := h.cap
  have hl := h.len
  have kz := kb.lt
  clear h hA kb
  go_enter Try.func135, Try.ntmps135
  go_wp2_with fail
  have B0 : Bl w ((w.alloc (.cells #[.slice none 0 0, .slice none 0 0, .int .u8 x0, .int .u8 x1, .int .u16 L, .int .i64 U] 140)).alloc (.cells #[.bool o1, .bool o2] 71)) := by go_grown
  have ks : Blk ((w.alloc (.cells #[.slice none 0 0, .slice none 0 0, .int .u8 x0, .int .u8 x1, .int .u16 L, .int .i64 U] 140)).alloc (.cells #[.bool o1, .bool o2] 71)) w.heap.size #[.slice none 0 0, .slice none 0 0, .int .u8 x0, .int .u8 x1, .int .u16 L, .int .i64 U] 140 := (Blk.new w _ _).alloc _
  generalize hW : ((w.alloc (.cells #[.slice none 0 0, .slice none 0 0, .int .u8 x0, .int .u8 x1, .int .u16 L, .int .i64 U] 140)).alloc (.cells #[.bool o1, .bool o2] 71)) = W at *
  have hgs : w.heap.size ≠ gb := Nat.ne_of_gt kz
  have hgW : w.heap.size < W.heap.size := ks.lt
  clear hW
  (with_reducible refine (prependB gb A n c 4 4 app l W (K.out.below B0) (H.out.below B0) HA.out rfl (by omega) (by omega) hc).mono ?_)
  rintro e w1 ⟨rfl, ch1, kb1, kd1⟩
  have hb := W.heap.size
  have X1 : Chg gb w w1 := (Chg.of B0).trans ch1
  have ks1 := ks.chg ch1 hgs
  have hgh : W.heap.size ≠ gb := by omega
  have hgh2 : w.heap.size ≠ W.heap.size := by omega
  have hle : w.heap.size ≤ W.heap.size := by omega
  have hsz := splice_size c 4 n l hl hcap
  have H2 : Hid (∀ i, (splice (zs (c + 4)).toList 4 (l.map (Value.int .u8))).toArray[4 + i]? = (splice (zs (c + 4)).toList 4 (l.map (Value.int .u8))).toArray[4 + i]?) := fun _ => rfl
  generalize hcs : (splice (zs (c + 4)).toList 4 (l.map (Value.int .u8))).toArray = cs at *
  have HCS := Lib.hid hcs
  obtain ⟨u0, e0⟩ : ∃ u, cs[0]? = some u := ⟨_, Array.getElem?_eq_getElem (by omega)⟩
  obtain ⟨u1, e1⟩ : ∃ u, cs[1]? = some u := ⟨_, Array.getElem?_eq_getElem (by omega)⟩
  have c0 : w1.cell? ⟨W.heap.size, 0, none⟩ = some u0 := (kd1.cell 0).trans e0
  have c1 : w1.cell? ⟨W.heap.size, 1, none⟩ = some u1 := (kd1.cell 1).trans e1
  have f0 := kd1.frozen 0
  have f1 := kd1.frozen 1
  have cs1 := ks1.cell
  have zs1 := ks1.lt
  have zd1 := kd1.lt
  have KB1 := Lib.hid kb1
  have KD1 := Lib.hid kd1
  have KS1 := Lib.hid ks1
  clear kb1 kd1 ks1 hcs e0 e1 H2 ks ch1
  generalize W.heap.size = h' at *
  go_wp2_with fail
  have X2 : Chg gb w ((w1.setCell ⟨h', 0, none⟩ (.int .u8 x0)).setCell ⟨h', 1, none⟩ (.int .u8 x1)) := (X1.new (p := ⟨h', 0, none⟩) hle _).new (p := ⟨h', 1, none⟩) hle _
  have kd2 := (KD1.out.set 0 (.int .u8 x0)).set 1 (.int .u8 x1)
  have kb2 := (KB1.out.far (p := ⟨h', 0, none⟩) (Ne.symm hgh) (.int .u8 x0)).far (p := ⟨h', 1, none⟩) (Ne.symm hgh) (.int .u8 x1)
  have ks2 := (KS1.out.far (p := ⟨h', 0, none⟩) hgh2 (.int .u8 x0)).far (p := ⟨h', 1, none⟩) hgh2 (.int .u8 x1)
  clear c0 c1 f0 f1 cs1 zs1 zd1
  generalize ((w1.setCell ⟨h', 0, none⟩ (.int .u8 x0)).setCell ⟨h', 1, none⟩ (.int .u8 x1)) = W0 at *
  have s0 := run_cut (some ⟨h', 0, none⟩) 4 (c + 4) 2 4 2 4 rfl rfl (by omega) (by omega) 24 Try.underlying24 size5
  have sa0 : cutA (some ⟨h', 0, none⟩) (c + 4) 2 = some ⟨h', 2, none⟩ := by unfold cutA; rw [if_neg (by omega)]; rfl
  rw [sa0] at s0
  refine wp_region_float (S := Grw W0) [true, true, true, false] 3 (by kernel_rfl) (by kernel_rfl) (Grw.drew W0) ?_
  simp only [selQ, selN, earlyN]
  repeat (first | go_big_quiet_skip | (go_big_quiet_want; go_big_quiet_op; go_big_quiet_on))
  refine wpQuiet_nil ?_
  refine wpN_late ?_
  go_wp2_with fail
  (with_reducible refine (put16_any h' 2 _ (4) _ _ (kd2.same (w' := W0.drew) rfl) (by simp only [Array.size_setIfInBounds]; omega) (by omega)).mono ?_)
  rintro e w2 ⟨rfl, ch2, kd3⟩
  have X3 : Chg gb w w2 := by
    have := ch2
    exact ⟨this.os.trans X2.os, this.tape.trans X2.tape, this.output.trans X2.output, Nat.le_trans X2.size this.size, fun i hi hlt => (this.block i (by omega) (Nat.lt_of_lt_of_le hlt X2.size)).trans (X2.block i hi hlt)⟩
  have kb3 := (kb2.same (w' := W0.drew) rfl).chg ch2 (Ne.symm hgh)
  have ks3 := (ks2.same (w' := W0.drew) rfl).chg ch2 hgh2
  clear s0 sa0 ch2
  go_wp2_with fail
  refine NoPanic.normal ?_
  have KBF := Lib.hid kb3
  have KDF := Lib.hid kd3
  clear kb3 kd3 ks3
  go_wp2_with fail
  go_ret
  refine ⟨h', rfl, hle, X3, KBF.out, ser_rd (hd := [x0, x1, 0, 4]) KDF.out hl hcap rfl ?_ ?_⟩
  · intro i hi
    match i, hi with
    | 0, _ => simp [Array.getElem?_setIfInBounds, show 0 < cs.size by omega, show 1 < cs.size by omega, show 2 < cs.size by omega, show 3 < cs.size by omega]
    | 1, _ => simp [Array.getElem?_setIfInBounds, show 0 < cs.size by omega, show 1 < cs.size by omega, show 2 < cs.size by omega, show 3 < cs.size by omega]
    | 2, _ => simp [Array.getElem?_setIfInBounds, show 0 < cs.size by omega, show 1 < cs.size by omega, show 2 < cs.size by omega, show 3 < cs.size by omega]
    | 3, _ => simp [Array.getElem?_setIfInBounds, show 0 < cs.size by omega, show 1 < cs.size by omega, show 2 < cs.size by omega, show 3 < cs.size by omega]
  · intro i
    rw [HCS.out]
    repeat rw [Array.getElem?_setIfInBounds_ne (by omega)]
end Go.Proofs.Ytoljdgfbkebgcaa
