/- The buffer that layers are written into: its bytes, room ahead and behind. sctpsack: its decoder, without gaps. -/
import Derived.Test.YtoljdgfbkebgcaaPp09
import Derived.Test.YtoljdgfbkebgcaaPq02
import Derived.Test.YtoljdgfbkebgcaaPq04
import Derived.Laws.CopyOwn
import Derived.Laws.MakeOwn
import Derived.Test.YtoljdgfbkebgcaaPq05
import Derived.Test.YtoljdgfbkebgcaaPq07
namespace Go.Proofs.Ytoljdgfbkebgcaa
open Go.RowKit
set_option linter.unusedVariables false
/-- N bytes of 0. -/
def zs (N : Nat) : Array Value := (List.replicate N (Value.int .u8 0)).toArray
theorem zs_size (N : Nat) : (zs N).size = N := by simp [zs]
theorem run_mk (N : Nat) (i : Int) (hi : i = N) (hN : N ≤ 2147483647) (W : World) :
    (Instr.makeSlice 24 (.int .i64 i) (.int .i64 i)).run Try.prog W = .ok (.slice (some ⟨W.heap.size, 0, none⟩) N N) (W.alloc (.cells (zs N) 5)) := by
  subst hi
  obtain ⟨t, ht, hz0, hz1, hz2⟩ := info_parts (P := Try.prog) info5
  have := run_make (P := Try.prog) W 24 5 t _ Try.underlying24 ht hz0 .i64 .i64 (N : Int) (N : Int) (by omega) (Int.le_refl _) (by rw [hz2]; omega) (by omega)
  rw [this, hz1]
  simp only [Int.toNat_natCast, Nat.mul_one]
  have e : madeCells (Value.int IntKind.u8 0).cells N = zs N := by
    apply Array.toList_inj.1
    rw [show (Value.int IntKind.u8 0).cells = #[Value.int IntKind.u8 0] from rfl, toList_madeCells_one]
    simp [zs]
  rw [e]
theorem cutA_zero (A : Option Addr) (c : Nat) : cutA A c 0 = A := by unfold cutA; cases A <;> simp [Addr.add]
theorem run_cut_l0 {e : TypeId} (A : Option Addr) (n c : Nat) (t : TypeId) (ht : Try.prog.underlying t = some (.slice e)) (hs : ∀ W, (sizeOf e).run Try.prog W = .ok 1 W) (W : World) :
    (Instr.slice t (.slice A n c) (some (.int .i64 0)) none none).run Try.prog W = .ok (.slice A n c) W := by
  rw [run_cut_l A n c 0 0 rfl (Nat.zero_le _) t ht hs W, cutA_zero, Nat.sub_zero, Nat.sub_zero]
theorem run_cut_0 {e : TypeId} (A : Option Addr) (n c hi : Nat) (ihi : Int) (e2 : ihi = hi) (h2 : hi ≤ c) (t : TypeId) (ht : Try.prog.underlying t = some (.slice e)) (hs : ∀ W, (sizeOf e).run Try.prog W = .ok 1 W) (W : World) :
    (Instr.slice t (.slice A n c) (some (.int .i64 0)) (some (.int .i64 ihi)) none).run Try.prog W = .ok (.slice A hi c) W := by
  rw [run_cut A n c 0 hi 0 ihi rfl e2 (Nat.zero_le _) h2 t ht hs W, cutA_zero, Nat.sub_zero, Nat.sub_zero]
theorem info5s : (Try.prog.info? 5).map (·.size) = some 1 := by kernel_rfl
/-- A buffer's cells. -/
def bfC (A : Option Addr) (n c : Nat) (pre app : Int) : Array Value := #[.slice A n c, .int .i64 0, .int .i64 pre, .int .i64 app, .slice none 0 0]
theorem newBuf_any (w : World) : Calls Try.prog 41 #[] w fun e w' => e = .returned (.iface 141 (.pointer (some ⟨w.heap.size, 0, none⟩))) ∧ Bl w w' ∧ Blk w' w.heap.size (bfC none 0 0 0 0) 144 := by
  go_enter Try.func41, Try.ntmps41
  go_wp2
  go_ret
  exact ⟨rfl, by go_grown, Blk.new w _ _⟩
theorem bytesB (gb : Nat) (A : Option Addr) (n c : Nat) (pre app : Int) (w : World) (k : Blk w gb (bfC A n c pre app) 144) :
    Calls Try.prog 137 #[.pointer (some ⟨gb, 0, none⟩)] w fun e w' => e = .returned (.slice A n c) ∧ ∃ q, w' = w.drewN q := by
  have kc := k.cell
  unfold bfC at kc
  have s1 := run_cut_l0 A n c 24 Try.underlying24 size5
  clear k
  go_enter Try.func137, Try.ntmps137
  go_wp2_with fail
  go_quiet (fail)
  go_wp2_with fail
  go_ret
  exact ⟨rfl, _, rfl⟩
theorem run_cut_nil (W : World) : (Instr.slice 24 (.slice none 0 0) none (some (.int .i64 0)) none).run Try.prog W = .ok (.slice none 0 0) W := run_cut_h none 0 0 0 0 rfl (Nat.le_refl _) 24 Try.underlying24 size5 W
/-- No room behind an empty buffer. -/
theorem appendB0 (gb : Nat) (w : World) (k : Blk w gb (bfC none 0 0 0 0) 144) :
    Calls Try.prog 136 #[.pointer (some ⟨gb, 0, none⟩), .int .i64 0] w fun e w' => e = .returned (.tuple #[.slice none 0 0, .nilIface]) ∧ Chg gb w w' ∧ Blk w' gb (bfC none 0 0 0 0) 144 := by
  have kc := k.cell
  have kf := k.frozen
  have kz := k.lt
  unfold bfC at kc
  have s1 := run_cut_nil
  have s2 := run_cut_l0 none 0 0 24 Try.underlying24 size5
  have K := Lib.hid k
  clear k
  go_enter Try.func136, Try.ntmps136
  go_wp2_with fail
  go_ret2
  exact ⟨rfl, (Chg.refl gb w).set 0 _, K.out.set 0 _⟩
set_option maxHeartbeats 2000000 in
theorem prependB (gb : Nat) (A : Option Addr) (n c k : Nat) (ki app : Int) (l : List Int) (w : World) (kb : Blk w gb (bfC A n c 0 app) 144) (h : Rd .u8 w A n c l) (hA : InF (· ≠ gb) A n) (hki : ki = k) (hk : 0 < k) (hk2 : k ≤ 100000) (hc : c ≤ 100000) :
    Calls Try.prog 140 #[.pointer (some ⟨gb, 0, none⟩), .int .i64 ki] w fun e w' =>
      e = .returned (.tuple #[.slice (some ⟨w.heap.size, 0, none⟩) k (c + k), .nilIface]) ∧ Chg gb w w' ∧ Blk w' gb (bfC (some ⟨w.heap.size, 0, none⟩) (k + n) (c + k) k app) 144 ∧
        Blk w' w.heap.size (splice (zs (c + k)).toList k (l.map (Value.int .u8))).toArray 5 := by
  subst hki
  have H := Lib.hid h
  have HA := Lib.hid hA
  have K := Lib.hid kb
  have hcap := h.cap
  have kc := kb.cell
  have kf := kb.frozen
  have kz := kb.lt
  unfold bfC at kc
  have hk' : (0 : Int) < (k : Int) := by omega
  have m1 := run_mk (c + k) ((c : Int) + k) (by omega) (by omega)
  have s0 := run_cut_l0 A n c 24 Try.underlying24 size5
  clear h hA kb
  go_enter Try.func140, Try.ntmps140
  go_wp2_with fail
  have X1 : Chg gb w ((w.setCell ⟨gb, 2, none⟩ (.int .i64 k)).alloc (.cells (zs (c + k)) 5)) := ((Chg.refl gb w).set 2 (.int .i64 k)).trans (Chg.of (by go_grown))
  have k1 : Blk ((w.setCell ⟨gb, 2, none⟩ (.int .i64 k)).alloc (.cells (zs (c + k)) 5)) gb (bfC A n c k app) 144 := (K.out.set 2 (.int .i64 k)).alloc _
  have kd : Blk ((w.setCell ⟨gb, 2, none⟩ (.int .i64 k)).alloc (.cells (zs (c + k)) 5)) w.heap.size (zs (c + k)) 5 := Blk.newAt _ _ _ _ (by simp)
  have hsz : ((w.setCell ⟨gb, 2, none⟩ (.int .i64 k)).alloc (.cells (zs (c + k)) 5)).heap.size = w.heap.size + 1 := by simp
  have K1 := Lib.hid k1
  have HSZ := Lib.hid hsz
  clear kc kf k1 hsz m1
  generalize (w.setCell ⟨gb, 2, none⟩ (.int .i64 k)).alloc (.cells (zs (c + k)) 5) = W at *
  have q0 : ∀ d os, (Sort.grow (redrawn W d) os).cell? ⟨gb, 0, none⟩ = some (.slice A n c) := fun d os => cell_regrown (K1.out.cell 0) d os
  have q1 : ∀ d os, (Sort.grow (redrawn W d) os).cell? ⟨gb, 1, none⟩ = some (.int .i64 0) := fun d os => cell_regrown (K1.out.cell 1) d os
  have s2 : ∀ W, (Instr.slice 24 (.slice (some ⟨w.heap.size, 0, none⟩) (c + k) (c + k)) (some (.int .i64 k)) none none).run Try.prog W = .ok (.slice (cutA (some ⟨w.heap.size, 0, none⟩) (c + k) k) c c) W := fun W => by
    have := run_cut_l (some ⟨w.heap.size, 0, none⟩) (c + k) (c + k) k k rfl (by omega) 24 Try.underlying24 size5 W
    rwa [Nat.add_sub_cancel] at this
  refine wp_region_float (S := Grw W) [true, true, true, true, true, true, true, true, true, true, true, true, false] 12 (by kernel_rfl) (by kernel_rfl) (Grw.drew W) ?_
  simp only [selQ, selN, earlyN]
  repeat (first | go_big_quiet_skip | (go_big_quiet_want; go_big_quiet_op; go_big_quiet_on))
  refine wpQuiet_nil ?_
  refine wpN_late ?_
  clear q0 q1
  have hl := H.out.len
  refine wpList_copy_splice rfl _ _ 24 24 rfl 5 Try.underlying24 info5s (cutA (some ⟨w.heap.size, 0, none⟩) (c + k) k) A c c n c rfl rfl w.heap.size k (zs (c + k)).toList 5 (by rw [Array.toArray_toList]; exact kd.heap) (l.map (Value.int .u8)) (by rw [List.length_map, hl]; exact (Nat.min_eq_left hcap).symm) ?_ (by simp [zs_size, hl]; omega) (fun u hu => by simp at hu; obtain ⟨x, _, rfl⟩ := hu; rfl) w.heap.size W.drew (Below.refl _ _) (Nat.le_refl _) ?_
  · intro hpos
    have hn : 0 < n := by simpa [hl] using hpos
    refine ⟨by unfold cutA; rw [if_neg (by omega)]; simp [add_add], ?_⟩
    have R := (H.out.chg X1 HA.out).below ((Bl.refl W).drew)
    obtain ⟨g, o, rfl, _, hc⟩ := R.at hn
    refine ⟨_, rfl, fun j u hj => ?_⟩
    exact R.src.cell _ rfl j u hj
  · intro w2 hg2 hb2
    have hb2' : Below w.heap.size W w2 := ((Below.refl _ W).drew).trans hb2
    have k2 : Blk w2 gb (bfC A n c k app) 144 := ⟨(hb2'.block gb kz).trans K1.out.heap⟩
    have kd2 : Blk w2 w.heap.size (splice (zs (c + k)).toList k (l.map (Value.int .u8))).toArray 5 := ⟨hg2.out⟩
    have X2 : Chg gb w w2 := ⟨hb2'.os.trans X1.os, hb2'.tape.trans X1.tape, hb2'.output.trans X1.output, Nat.le_trans X1.size hb2'.size, fun i hi hlt => (hb2'.block i hlt).trans (X1.block i hi hlt)⟩
    have KD2 := Lib.hid kd2
    clear hg2 hb2 hb2' kd2 kd
    refine NoPanic.normal ?_
    have kc := k2.cell
    have kf := k2.frozen
    have kz2 := k2.lt
    have K2 := Lib.hid k2
    unfold bfC at kc
    have s3 := run_cut_h (some ⟨w.heap.size, 0, none⟩) (c + k) (c + k) (k + n) ((k : Int) + n) (by omega) (by omega) 24 Try.underlying24 size5
    clear k2 s2 s0
    go_wp2_with fail
    have k3 : Blk (((w2.setCell ⟨gb, 1, none⟩ (.int .i64 k)).setCell ⟨gb, 0, none⟩ (.slice (some ⟨w.heap.size, 0, none⟩) (k + n) (c + k))).setCell ⟨gb, 1, none⟩ (.int .i64 0)) gb (bfC (some ⟨w.heap.size, 0, none⟩) (k + n) (c + k) k app) 144 := ((K2.out.set 1 _).set 0 _).set 1 _
    have X3 : Chg gb w (((w2.setCell ⟨gb, 1, none⟩ (.int .i64 k)).setCell ⟨gb, 0, none⟩ (.slice (some ⟨w.heap.size, 0, none⟩) (k + n) (c + k))).setCell ⟨gb, 1, none⟩ (.int .i64 0)) := ((X2.set 1 _).set 0 _).set 1 _
    have kd3 : Blk (((w2.setCell ⟨gb, 1, none⟩ (.int .i64 k)).setCell ⟨gb, 0, none⟩ (.slice (some ⟨w.heap.size, 0, none⟩) (k + n) (c + k))).setCell ⟨gb, 1, none⟩ (.int .i64 0)) w.heap.size (splice (zs (c + k)).toList k (l.map (Value.int .u8))).toArray 5 := ((KD2.out.far (p := ⟨gb, 1, none⟩) (Nat.ne_of_gt kz) _).far (p := ⟨gb, 0, none⟩) (Nat.ne_of_gt kz) _).far (p := ⟨gb, 1, none⟩) (Nat.ne_of_gt kz) _
    have K3 := Lib.hid k3
    have KD3 := Lib.hid kd3
    clear kc kf kz2 kd3 s3
    generalize (((w2.setCell ⟨gb, 1, none⟩ (.int .i64 k)).setCell ⟨gb, 0, none⟩ (.slice (some ⟨w.heap.size, 0, none⟩) (k + n) (c + k))).setCell ⟨gb, 1, none⟩ (.int .i64 0)) = W3 at *
    have kc := k3.cell
    unfold bfC at kc
    clear k3
    have s4 := run_cut_0 (some ⟨w.heap.size, 0, none⟩) (k + n) (c + k) k k rfl (by omega) 24 Try.underlying24 size5
    go_quiet (fail)
    go_wp2_with fail
    go_ret2
    exact ⟨rfl, X3.drewN _, K3.out.same rfl, KD3.out.same rfl⟩
end Go.Proofs.Ytoljdgfbkebgcaa
namespace Go.Proofs.Ytoljdgfbkebgcaa
open Go.RowKit
set_option linter.unusedVariables false
/-- The numbers of four bytes that stand one behind the other. -/
def fours (l : List Int) : Nat → List Int
  | 0 => []
  | q + 1 => fours l q ++ [be (sub l (16 + 4 * q) (20 + 4 * q))]
theorem fours_len (l : List Int) (q : Nat) : (fours l q).length = q := by
  induction q with
  | zero => rfl
  | succ q ih => simp [fours, ih]
/-- The cells of a chunk that acknowledges, but the last two. -/
def sacC (A : Option Addr) (n c : Nat) (l : List Int) (q : Nat) : Array Value :=
  #[.slice A (up4 (chL l)) c, .slice (cutA A c (up4 (chL l))) (n - up4 (chL l)) (c - up4 (chL l)), .int .u8 (l.getD 0 0), .int .u8 (l.getD 1 0), .int .u16 (be (sub l 2 4)), .int .i64 (up4 (chL l)), .int .u32 (be (sub l 4 8)), .int .u32 (be (sub l 8 12)), .int .u16 0, .int .u16 (q : Nat)]
def PrmS (gl : Nat) (A4 : Option Addr) (j c4 : Nat) (V : World) : Prop := V.cell? ⟨gl, 11, none⟩ = some (.slice A4 j c4)
theorem mk116 (W : World) : (Instr.makeSlice 116 (.int .i64 0) (.int .i64 0)).run Try.prog W = .ok (.slice (some ⟨W.heap.size, 0, none⟩) 0 0) (W.alloc (.cells #[] 22)) := by kernel_rfl
theorem mk117 (W : World) : (Instr.makeSlice 117 (.int .i64 0) (.int .i64 0)).run Try.prog W = .ok (.slice (some ⟨W.heap.size, 0, none⟩) 0 0) (W.alloc (.cells #[] 23)) := by kernel_rfl
theorem ud117 : Try.prog.underlying 117 = some (.slice 23) := by kernel_rfl
theorem info23 : (Try.prog.info? 23).map (fun i => (i.zero, i.size, i.bytes)) = some (some (.int .u32 0), 1, 4) := by kernel_rfl
set_option maxHeartbeats 4000000 in
set_option maxRecDepth 100000 in
theorem decSac_any (q : Nat) (A : Option Addr) (n c gk : Nat) (l : List Int) (w : World) (h : Rd .u8 w A n c l) (hl : By l) (hV16 : chL l = 16 + 4 * q) (hn : up4 (chL l) ≤ n) (h0 : l.getD 0 0 ≠ 0) (hn2 : n ≤ 2000) (hg0 : be (sub l 12 14) = 0) (hq : be (sub l 14 16) = (q : Int)) (x : Value) (k : Blk w gk #[x] 164) :
    Calls Try.prog 80 #[.slice A n c, .iface 162 (.pointer (some ⟨gk, 0, none⟩))] w fun e w' => e = .returned .nilIface ∧ ∃ gl v0 v, Kept w w' gk 115 119 gl (((sacC A n c l q).push v0).push v) ∧ (∃ A0 c0, v0 = .slice A0 0 c0) ∧ w'.ownsRow w.heap.size 23 1 v q ((fours l q).map (Value.int .u32)) := by
  have hk := k.lt
  have hcap := h.cap
  have hlen := h.len
  have hUV : up4 (chL l) = chL l := by unfold up4; omega
  have hVn : chL l ≤ n := by omega
  have h4 : 4 ≤ chL l := by omega
  have s1 := run_cut_l A n c 16 16 rfl (by omega) 24 Try.underlying24 size5
  have p0 := run_cut A n c 4 8 4 8 rfl rfl (by omega) (by omega) 24 Try.underlying24 size5
  have R0 := Lib.hid (h.cutm 4 8 4 (by omega) (by omega))
  have p1 := run_cut A n c 8 12 8 12 rfl rfl (by omega) (by omega) 24 Try.underlying24 size5
  have R1 := Lib.hid (h.cutm 8 12 4 (by omega) (by omega))
  have p2 := run_cut A n c 12 14 12 14 rfl rfl (by omega) (by omega) 24 Try.underlying24 size5
  have R2 := Lib.hid (h.cutm 12 14 2 (by omega) (by omega))
  have p3 := run_cut A n c 14 16 14 16 rfl rfl (by omega) (by omega) 24 Try.underlying24 size5
  have R3 := Lib.hid (h.cutm 14 16 2 (by omega) (by omega))
  have H := Lib.hid h
  have HB := Lib.hid hl
  have H0 := Lib.hid h0
  have hU : up4 (chL l) = 16 + 4 * q := hUV.trans hV16
  have HU := Lib.hid hU
  have hU16 : (16 : Int) ≤ (up4 (chL l) : Int) := by omega
  have hU4 : ((up4 (chL l) : Nat) : Int) % 4 = 0 := by omega
  have hqn : q ≤ 500 := by omega
  have hdd : (((up4 (chL l) : Nat) : Int) - ((up4 (chL l) : Nat) : Int) / 2 * 2) / 4 = 0 := by omega
  have mkA := mk116
  have mkB := mk117
  clear h hl h0 hU hUV hV16
  go_enter Try.func80, Try.ntmps80
  go_wp2_with fail
  (with_reducible refine (chunk_any _ _ _ _ _ H.out HB.out h4 hn H0.out (by omega)).mono ?_)
  rintro e w1 ⟨rfl, hb1⟩
  have k1 := Blk.keep hb1 k
  have z1 := k1.lt
  unfold chk
  generalize G0 : l.getD 0 0 = x0 at *
  generalize G1 : l.getD 1 0 = x1 at *
  generalize G2 : be (sub l 2 4) = L at *
  generalize G3 : up4 (chL l) = U at *
  generalize H0' : be (sub l 4 8) = Y0 at *
  generalize H1' : be (sub l 8 12) = Y1 at *
  have kc := Blk.new w1 #[.slice A U c, .slice (cutA A c U) (n - U) (c - U), .int .u8 x0, .int .u8 x1, .int .u16 L, .int .i64 U] 100
  have B1 : Bl w (w1.alloc (.cells #[.slice A U c, .slice (cutA A c U) (n - U) (c - U), .int .u8 x0, .int .u8 x1, .int .u16 L, .int .i64 U] 100)) := Bl.trans hb1 (by go_grown)
  go_wp2_with fail
  generalize w1.alloc (.cells #[.slice A U c, .slice (cutA A c U) (n - U) (c - U), .int .u8 x0, .int .u8 x1, .int .u16 L, .int .i64 U] 100) = W0 at *
  generalize w1.heap.size = gc at *
  have k0' : ∀ d os, (Sort.grow (redrawn W0 d) os).cell? ⟨gc, 0, none⟩ = some (.slice A U c) := fun d os => cell_regrown (kc.cell 0) d os
  have k1' : ∀ d os, (Sort.grow (redrawn W0 d) os).cell? ⟨gc, 1, none⟩ = some (.slice (cutA A c U) (n - U) (c - U)) := fun d os => cell_regrown (kc.cell 1) d os
  have k2' : ∀ d os, (Sort.grow (redrawn W0 d) os).cell? ⟨gc, 2, none⟩ = some (.int .u8 x0) := fun d os => cell_regrown (kc.cell 2) d os
  have k3' : ∀ d os, (Sort.grow (redrawn W0 d) os).cell? ⟨gc, 3, none⟩ = some (.int .u8 x1) := fun d os => cell_regrown (kc.cell 3) d os
  have k4' : ∀ d os, (Sort.grow (redrawn W0 d) os).cell? ⟨gc, 4, none⟩ = some (.int .u16 L) := fun d os => cell_regrown (kc.cell 4) d os
  have k5' : ∀ d os, (Sort.grow (redrawn W0 d) os).cell? ⟨gc, 5, none⟩ = some (.int .i64 U) := fun d os => cell_regrown (kc.cell 5) d os
  have BB := Lib.hid B1
  clear hb1 B1
  refine wp_region_float (S := Grw W0) [true, true, true, true, false, true, true, true, false, true, true, true, false, true, true, true, false, false, false, false] 17 (by kernel_rfl) (by kernel_rfl) (Grw.drew W0) ?_
  simp only [selQ, selN, earlyN]
  go_big_quiet_want; go_big_quiet_op; go_big_quiet_on
  repeat (first | go_big_quiet_skip | (go_big_quiet_want; go_big_quiet_op; go_big_quiet_on))
  refine wpQuiet_nil ?_
  have Bd : Bl W0 W0.drew := (Bl.refl W0).drew
  refine wpN_want rfl (fun K hK => ?_)
  go_big_op
  (with_reducible refine (be32_any _ _ _ _ (R0.out.below (BB.out.trans Bd)) (HB.out.sub 4 8)).mono ?_)
  rintro e w2 ⟨rfl, hb2⟩
  rw [H0']
  have C0 := Bd.trans hb2
  refine hK _ _ (Grw.of C0) ?_
  clear hK K
  refine wpN_want rfl (fun K hK => ?_)
  go_big_op
  (with_reducible refine (be32_any _ _ _ _ (R1.out.below (BB.out.trans C0)) (HB.out.sub 8 12)).mono ?_)
  rintro e w3 ⟨rfl, hb3⟩
  rw [H1']
  have C1 := C0.trans hb3
  refine hK _ _ (Grw.of C1) ?_
  clear hK K
  refine wpN_want rfl (fun K hK => ?_)
  go_big_op
  (with_reducible refine (be16_any _ _ _ _ (R2.out.below (BB.out.trans C1)) (HB.out.sub 12 14)).mono ?_)
  rintro e w4 ⟨rfl, hb4⟩
  rw [hg0]
  have C2 := C1.trans hb4
  refine hK _ _ (Grw.of C2) ?_
  clear hK K
  refine wpN_want rfl (fun K hK => ?_)
  go_big_op
  (with_reducible refine (be16_any _ _ _ _ (R3.out.below (BB.out.trans C2)) (HB.out.sub 14 16)).mono ?_)
  rintro e w5 ⟨rfl, hb5⟩
  rw [hq]
  have C3 := C2.trans hb5
  refine hK _ _ (Grw.of C3) ?_
  clear hK K
  refine wpN_late ?_
  clear k0' k1' k2' k3' k4' k5'
  go_wp2_with fail
  refine NoPanic.normal ?_
  go_wp2_with fail
  have hz : gk < w5.heap.size := Nat.lt_of_lt_of_le hk (BB.out.trans C3).size
  have hzl : w.heap.size ≤ w5.heap.size := (BB.out.trans C3).size
  have B2 : Bl w (((w5.alloc (.cells #[.slice A U c, .slice (cutA A c U) (n - U) (c - U), .int .u8 x0, .int .u8 x1, .int .u16 L, .int .i64 U, .int .u32 Y0, .int .u32 Y1, .int .u16 0, .int .u16 (q : Nat), .slice (some ⟨w5.heap.size + 1, 0, none⟩) 0 0, .slice (some ⟨w5.heap.size + 1 + 1, 0, none⟩) 0 0] 119)).alloc (.cells #[] 22)).alloc (.cells #[] 23)) := (BB.out.trans C3).trans (by go_grown)
  have kl : Blk (((w5.alloc (.cells #[.slice A U c, .slice (cutA A c U) (n - U) (c - U), .int .u8 x0, .int .u8 x1, .int .u16 L, .int .i64 U, .int .u32 Y0, .int .u32 Y1, .int .u16 0, .int .u16 (q : Nat), .slice (some ⟨w5.heap.size + 1, 0, none⟩) 0 0, .slice (some ⟨w5.heap.size + 1 + 1, 0, none⟩) 0 0] 119)).alloc (.cells #[] 22)).alloc (.cells #[] 23)) w5.heap.size #[.slice A U c, .slice (cutA A c U) (n - U) (c - U), .int .u8 x0, .int .u8 x1, .int .u16 L, .int .i64 U, .int .u32 Y0, .int .u32 Y1, .int .u16 0, .int .u16 (q : Nat), .slice (some ⟨w5.heap.size + 1, 0, none⟩) 0 0, .slice (some ⟨w5.heap.size + 1 + 1, 0, none⟩) 0 0] 119 := ((Blk.new w5 _ _).alloc _).alloc _
  have how := World.ownsRow_lit (base := w.heap.size) (e := 23) (size := 1) ((w5.alloc (.cells #[.slice A U c, .slice (cutA A c U) (n - U) (c - U), .int .u8 x0, .int .u8 x1, .int .u16 L, .int .i64 U, .int .u32 Y0, .int .u32 Y1, .int .u16 0, .int .u16 (q : Nat), .slice (some ⟨w5.heap.size + 1, 0, none⟩) 0 0, .slice (some ⟨w5.heap.size + 1 + 1, 0, none⟩) 0 0] 119)).alloc (.cells #[] 22)) #[] 0 (by simp; omega) (by decide) rfl
  have hsz2 : ((w5.alloc (.cells #[.slice A U c, .slice (cutA A c U) (n - U) (c - U), .int .u8 x0, .int .u8 x1, .int .u16 L, .int .i64 U, .int .u32 Y0, .int .u32 Y1, .int .u16 0, .int .u16 (q : Nat), .slice (some ⟨w5.heap.size + 1, 0, none⟩) 0 0, .slice (some ⟨w5.heap.size + 1 + 1, 0, none⟩) 0 0] 119)).alloc (.cells #[] 22)).heap.size = w5.heap.size + 1 + 1 := by simp
  rw [hsz2] at how
  clear hsz2
  generalize (((w5.alloc (.cells #[.slice A U c, .slice (cutA A c U) (n - U) (c - U), .int .u8 x0, .int .u8 x1, .int .u16 L, .int .i64 U, .int .u32 Y0, .int .u32 Y1, .int .u16 0, .int .u16 (q : Nat), .slice (some ⟨w5.heap.size + 1, 0, none⟩) 0 0, .slice (some ⟨w5.heap.size + 1 + 1, 0, none⟩) 0 0] 119)).alloc (.cells #[] 22)).alloc (.cells #[] 23)) = W at *
  generalize w5.heap.size = gl at *
  have HOW := Lib.hid how
  clear how
  have kgl := kl.lt
  have kk := kl.cell
  have hB2 := B2.size
  have H16 := Lib.hid (H.out.cut 16 n (by omega) (Nat.le_refl _))
  have hA16 := cutA_inF (c := c) (lo := 16) (m := n - 16) H.out.inF (fun _ => by omega)
  go_loopw [10, 11] (fun b i wr => b = .slice (cutA A c 16) (n - 16) (c - 16) ∧ i = .int .i64 0 ∧ wr = W) (fun _ _ _ => 0)
  case atStart => exact ⟨rfl, rfl, rfl⟩
  case round =>
  obtain ⟨rfl, rfl, rfl⟩ := hrel
  clear mkA mkB hdd
  go_wp2_with fail
  clear kk
  go_loopw [10, 12] (fun b i wr => Hid (∃ (j : Nat) (A' : Option Addr) (n' c' : Nat) (v : Value), j ≤ q ∧ i = .int .i64 j ∧ b = .slice A' n' c' ∧ Rd .u8 wr A' n' c' (l.drop (16 + 4 * j)) ∧ InF (· < w.heap.size) A' n' ∧ Blk wr gl #[.slice A U c, .slice (cutA A c U) (n - U) (c - U), .int .u8 x0, .int .u8 x1, .int .u16 L, .int .i64 U, .int .u32 Y0, .int .u32 Y1, .int .u16 0, .int .u16 (q : Nat), .slice (some ⟨gl + 1, 0, none⟩) 0 0, v] 119 ∧ wr.ownsRow w.heap.size 23 1 v j ((fours l j).map (Value.int .u32)) ∧ v.ownBlock ≠ some gl ∧ Bl w wr)) (fun _ i _ => q - (intOf i).toNat)
  case atStart =>
    have r16 := H16.out.below B2
    have es : sub l 16 n = l.drop 16 := by rw [← hlen]; simp [sub]
    rw [es] at r16
    exact Lib.hid ⟨0, _, _, _, .slice (some ⟨gl + 1 + 1, 0, none⟩) 0 0, by omega, rfl, rfl, by simpa using r16, hA16, kl, by simpa [fours] using HOW.out, by (simp [Value.ownBlock]; omega), B2⟩
  case round =>
    obtain ⟨j, A', n', c', v, hj, rfl, rfl, h, hA, kv, ho, hne, hb⟩ := hrel.out
    clear hrel
    obtain ⟨A4, c4, rfl⟩ := ownsRow_form ho
    have hlen' := h.len
    have hcap' := h.cap
    rw [List.length_drop] at hlen'
    have HO := Lib.hid ho
    have KV := Lib.hid kv
    have kvc := kv.cell
    have kvl := kv.lt
    by_cases hjq : j = q
    · subst hjq
      have k2 := Blk.keep hb k
      clear h ho kv hA
      go_wp2_with fail
      clear kvc
      (with_reducible refine (addLayer_any _ _ _ _ _ k2).mono ?_)
      rintro e w3 ⟨rfl, rfl⟩
      go_wp2_with fail
      go_ret
      subst G0 G1 G2 G3 H0' H1'
      exact ⟨rfl, gl, _, _, ⟨(Below.ofBl hb (Nat.le_of_lt hk)).setCell (Nat.le_refl _) _, k2.set 0 _, KV.out.far (Nat.ne_of_gt hz) _⟩, ⟨_, _, rfl⟩, own_set HO.out k2 (by decide) 0 _⟩
    have hjq' : (j : Int) < (q : Int) := by omega
    have h4n : 4 ≤ n' := by have := HU.out; omega
    have R := Lib.hid h
    have HA1 := Lib.hid hA
    have R5 := Lib.hid (h.cut0 4 h4n)
    have s2 := run_cut_h A' n' c' 4 4 rfl (by omega) 24 Try.underlying24 size5
    have s3 := run_cut_l A' n' c' 4 4 rfl h4n 24 Try.underlying24 size5
    have hszr := hb.size
    have hbd : By (l.drop (16 + 4 * j)) := by rw [← sub_drop]; exact HB.out.sub _ _
    clear h ho kv hA
    go_wp2_with fail
    clear kvc
    have q0 : ∀ p : HoldT (PrmS gl A4 j c4), p.val.cell? ⟨gl, 11, none⟩ = some (.slice A4 j c4) := fun p => p.ok
    have mk : ∀ {V : World}, Blk V gl #[.slice A U c, .slice (cutA A c U) (n - U) (c - U), .int .u8 x0, .int .u8 x1, .int .u16 L, .int .i64 U, .int .u32 Y0, .int .u32 Y1, .int .u16 0, .int .u16 (q : Nat), .slice (some ⟨gl + 1, 0, none⟩) 0 0, .slice A4 j c4] 119 → HoldS (PrmS gl A4 j c4) V := fun k1 => HoldS.of (k1.cell 11)
    haveI hne9 : Nonempty (HoldT (PrmS gl A4 j c4)) := ⟨⟨wr, KV.out.cell 11⟩⟩
    refine wp_region_float (S := HoldS (PrmS gl A4 j c4)) [true, true, true, true, true, true, true, true, false, false, false, false, false, false] 11 (by kernel_rfl) (by kernel_rfl) (mk (KV.out.same rfl)) ?_
    simp only [selQ, selN, earlyN]
    repeat (first | go_big_quiet_skip | (go_big_quiet_want; go_big_quiet_op; go_big_quiet_on))
    refine wpQuiet_nil ?_
    clear q0
    have Bd : Bl wr wr.drew := (Bl.refl wr).drew
    refine wpN_want rfl (fun K hK => ?_)
    go_big_op
    (with_reducible refine (be32_any _ _ _ _ (R5.out.below Bd) (hbd.sub 0 4)).mono ?_)
    rintro e w6 ⟨rfl, hb6⟩
    have B6 : Bl wr w6 := Bd.trans hb6
    refine hK _ _ (mk (Blk.keep B6 KV.out)) ?_
    clear hK K hb6
    generalize hY : be (sub (l.drop (16 + 4 * j)) 0 4) = Y at *
    refine wpN_want rfl (fun K hK => ?_)
    go_big_op
    have B7 : Bl wr (w6.alloc (.cells #[.int .u32 Y] 23)) := B6.trans (by go_grown)
    have kn7 : Blk (w6.alloc (.cells #[.int .u32 Y] 23)) w6.heap.size #[.int .u32 Y] 23 := Blk.new w6 _ _
    refine hK _ _ (mk (Blk.keep B7 KV.out)) ?_
    clear hK K
    refine wpN_if rfl (fun K hK => ?_)
    have ho7 := own_bl HO.out B7
    have kv7 := Blk.keep B7 KV.out
    have hz7 := B7.size
    generalize w6.alloc (.cells #[.int .u32 Y] 23) = W7 at *
    refine step_app rfl _ _ 117 23 (.int .u32 0) 1 4 w.heap.size rfl ud117 info23 rfl (by decide) (by decide) (.slice A4 j c4) j _ (some ⟨w6.heap.size, 0, none⟩) 1 1 [.int .u32 Y] rfl rfl ho7 (Blk.src kn7 1 1 rfl (fun u hu => by simp at hu; subst hu; rfl)) (by omega) (by omega) ?_
    intro A9 c9 w8 hp
    have kv8 := hp.blk kv7 hne
    refine hK _ _ (mk kv8) ?_
    clear hK K
    have B8 : Bl w w8 := hp.bl ho7 (hb.trans B7)
    have hne8 : (Value.slice A9 (j + 1) c9).ownBlock ≠ some gl := by
      rcases hp.at_ with e | e
      · rw [e]; exact hne
      · rw [e]; intro e2; simp at e2; have := kv7.lt; omega
    have HO8 := Lib.hid hp.own
    have cg := kv8.cell
    have fg := kv8.frozen
    have zg := kv8.lt
    clear hp mk hne9 kv7 kn7 ho7
    refine wpN_late ?_
    go_wp2_with fail
    refine NoPanic.normal ?_
    go_wp2_with fail
    clear cg fg
    have k9 := kv8.set 11 (.slice A9 (j + 1) c9)
    simp only [List.setIfInBounds_toArray, List.set_cons_zero, List.set_cons_succ] at k9
    have ho9 := own_set HO8.out kv8 (by decide) 11 (.slice A9 (j + 1) c9)
    have B9 : Bl w (w8.setCell ⟨gl, 11, none⟩ (.slice A9 (j + 1) c9)) := Below.setCell B8 hzl _
    generalize w8.setCell ⟨gl, 11, none⟩ (.slice A9 (j + 1) c9) = W9 at *
    have hk9 : KeepF (· < w.heap.size) wr W9 := fun k hF _ => (B9.block k hF).trans (hb.block k hF).symm
    have r9 := (R.out.keepF HA1.out hk9).cut 4 n' h4n (Nat.le_refl _)
    have es : sub (l.drop (16 + 4 * j)) 4 n' = l.drop (16 + 4 * (j + 1)) := by
      have : n' = (l.drop (16 + 4 * j)).length := by rw [List.length_drop]; omega
      rw [this]
      simp only [sub, List.take_length, List.drop_drop]
      congr 1
    rw [es] at r9
    have eY : fours l j ++ [Y] = fours l (j + 1) := by
      rw [fours, ← hY]
      congr 2
      simp only [sub, List.drop_take, List.drop_zero]
      rw [show 20 + 4 * j - (16 + 4 * j) = 4 by omega]
    have ho9' : W9.ownsRow w.heap.size 23 1 (.slice A9 (j + 1) c9) (j + 1) ((fours l (j + 1)).map (Value.int .u32)) := by
      rw [← eY, List.map_append]
      exact ho9
    exact ⟨Lib.hid ⟨j + 1, _, _, _, _, by omega, by simp, rfl, r9, cutA_inF HA1.out (fun _ => by omega), k9, ho9', hne8, B9⟩, by simp [intOf]; omega⟩
end Go.Proofs.Ytoljdgfbkebgcaa
