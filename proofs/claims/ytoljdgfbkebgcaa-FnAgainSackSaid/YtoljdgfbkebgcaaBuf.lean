/- The buffer that layers are written into: its bytes, room ahead and behind. -/
import Derived.Test.YtoljdgfbkebgcaaTake
import Derived.Test.YtoljdgfbkebgcaaApp
import Derived.Test.YtoljdgfbkebgcaaFlo
import Derived.Laws.CopyOwn
import Derived.Laws.MakeOwn
namespace Go.Proofs.Ytoljdgfbkebgcaa
open Go.RowKit
/-- N bytes of 0. -/
def zs (N : Nat) : Array Value := (List.replicate N (Value.int .u8 0)).toArray
theorem zs_size (N : Nat) : (zs N).size = N := by simp [zs]
theorem run_mk (N : Nat) (i : Int) (hi : i = N) (hN : N ≤ 2147483647) (W : World) :
    (Instr.makeSlice 24 (.int .i64 i) (.int .i64 i)).run Try.prog W = .ok (.slice (some ⟨W.heap.size, 0, none⟩) N N) (W.alloc (.cells (zs N) 5)) := by
  subst hi
  obtain ⟨t, ht, hz0, hz1, hz2⟩ := info_parts (P := Try.prog) info5
  have := run_make (P := Try.prog) W 24 5 t _ Try.underlying24 ht hz0 .i64 .i64 (N : Int) (N : Int) (by omega) (Int.le_refl _) (by rw [hz2]; omega) (by omega)
  rw [this, hz1]
  simp only [Int.toNat_natCast, Nat.mul_one]
  have e : madeCells (Value.int IntKind.u8 0).cells N = zs N := by
    apply Array.toList_inj.1
    rw [show (Value.int IntKind.u8 0).cells = #[Value.int IntKind.u8 0] from rfl, toList_madeCells_one]
    simp [zs]
  rw [e]
theorem cutA_zero (A : Option Addr) (c : Nat) : cutA A c 0 = A := by unfold cutA; cases A <;> simp [Addr.add]
theorem run_cut_l0 {e : TypeId} (A : Option Addr) (n c : Nat) (t : TypeId) (ht : Try.prog.underlying t = some (.slice e)) (hs : ∀ W, (sizeOf e).run Try.prog W = .ok 1 W) (W : World) :
    (Instr.slice t (.slice A n c) (some (.int .i64 0)) none none).run Try.prog W = .ok (.slice A n c) W := by
  rw [run_cut_l A n c 0 0 rfl (Nat.zero_le _) t ht hs W, cutA_zero, Nat.sub_zero, Nat.sub_zero]
theorem run_cut_0 {e : TypeId} (A : Option Addr) (n c hi : Nat) (ihi : Int) (e2 : ihi = hi) (h2 : hi ≤ c) (t : TypeId) (ht : Try.prog.underlying t = some (.slice e)) (hs : ∀ W, (sizeOf e).run Try.prog W = .ok 1 W) (W : World) :
    (Instr.slice t (.slice A n c) (some (.int .i64 0)) (some (.int .i64 ihi)) none).run Try.prog W = .ok (.slice A hi c) W := by
  rw [run_cut A n c 0 hi 0 ihi rfl e2 (Nat.zero_le _) h2 t ht hs W, cutA_zero, Nat.sub_zero, Nat.sub_zero]
theorem info5s : (Try.prog.info? 5).map (·.size) = some 1 := by kernel_rfl
/-- A buffer's cells. -/
def bfC (A : Option Addr) (n c : Nat) (pre app : Int) : Array Value := #[.slice A n c, .int .i64 0, .int .i64 pre, .int .i64 app, .slice none 0 0]
theorem newBuf_any (w : World) : Calls Try.prog 41 #[] w fun e w' => e = .returned (.iface 141 (.pointer (some ⟨w.heap.size, 0, none⟩))) ∧ Bl w w' ∧ Blk w' w.heap.size (bfC none 0 0 0 0) 144 := by
  go_enter Try.func41, Try.ntmps41
  go_wp2
  go_ret
  exact ⟨rfl, by go_grown, Blk.new w _ _⟩
theorem bytesB (gb : Nat) (A : Option Addr) (n c : Nat) (pre app : Int) (w : World) (k : Blk w gb (bfC A n c pre app) 144) :
    Calls Try.prog 137 #[.pointer (some ⟨gb, 0, none⟩)] w fun e w' => e = .returned (.slice A n c) ∧ ∃ q, w' = w.drewN q := by
  have kc := k.cell
  unfold bfC at kc
  have s1 := run_cut_l0 A n c 24 Try.underlying24 size5
  clear k
  go_enter Try.func137, Try.ntmps137
  go_wp2_with fail
  go_quiet (fail)
  go_wp2_with fail
  go_ret
  exact ⟨rfl, _, rfl⟩
theorem run_cut_nil (W : World) : (Instr.slice 24 (.slice none 0 0) none (some (.int .i64 0)) none).run Try.prog W = .ok (.slice none 0 0) W := run_cut_h none 0 0 0 0 rfl (Nat.le_refl _) 24 Try.underlying24 size5 W
/-- No room behind an empty buffer. -/
theorem appendB0 (gb : Nat) (w : World) (k : Blk w gb (bfC none 0 0 0 0) 144) :
    Calls Try.prog 136 #[.pointer (some ⟨gb, 0, none⟩), .int .i64 0] w fun e w' => e = .returned (.tuple #[.slice none 0 0, .nilIface]) ∧ Chg gb w w' ∧ Blk w' gb (bfC none 0 0 0 0) 144 := by
  have kc := k.cell
  have kf := k.frozen
  have kz := k.lt
  unfold bfC at kc
  have s1 := run_cut_nil
  have s2 := run_cut_l0 none 0 0 24 Try.underlying24 size5
  have K := Lib.hid k
  clear k
  go_enter Try.func136, Try.ntmps136
  go_wp2_with fail
  go_ret2
  exact ⟨rfl, (Chg.refl gb w).set 0 _, K.out.set 0 _⟩
set_option maxHeartbeats 2000000 in
theorem prependB (gb : Nat) (A : Option Addr) (n c k : Nat) (ki app : Int) (l : List Int) (w : World) (kb : Blk w gb (bfC A n c 0 app) 144) (h : Rd .u8 w A n c l) (hA : InF (· ≠ gb) A n) (hki : ki = k) (hk : 0 < k) (hk2 : k ≤ 100000) (hc : c ≤ 100000) :
    Calls Try.prog 140 #[.pointer (some ⟨gb, 0, none⟩), .int .i64 ki] w fun e w' =>
      e = .returned (.tuple #[.slice (some ⟨w.heap.size, 0, none⟩) k (c + k), .nilIface]) ∧ Chg gb w w' ∧ Blk w' gb (bfC (some ⟨w.heap.size, 0, none⟩) (k + n) (c + k) k app) 144 ∧
        Blk w' w.heap.size (splice (zs (c + k)).toList k (l.map (Value.int .u8))).toArray 5 := by
  subst hki
  have H := Lib.hid h
  have HA := Lib.hid hA
  have K := Lib.hid kb
  have hcap := h.cap
  have kc := kb.cell
  have kf := kb.frozen
  have kz := kb.lt
  unfold bfC at kc
  have hk' : (0 : Int) < (k : Int) := by omega
  have m1 := run_mk (c + k) ((c : Int) + k) (by omega) (by omega)
  have s0 := run_cut_l0 A n c 24 Try.underlying24 size5
  clear h hA kb
  go_enter Try.func140, Try.ntmps140
  go_wp2_with fail
  have X1 : Chg gb w ((w.setCell ⟨gb, 2, none⟩ (.int .i64 k)).alloc (.cells (zs (c + k)) 5)) := ((Chg.refl gb w).set 2 (.int .i64 k)).trans (Chg.of (by go_grown))
  have k1 : Blk ((w.setCell ⟨gb, 2, none⟩ (.int .i64 k)).alloc (.cells (zs (c + k)) 5)) gb (bfC A n c k app) 144 := (K.out.set 2 (.int .i64 k)).alloc _
  have kd : Blk ((w.setCell ⟨gb, 2, none⟩ (.int .i64 k)).alloc (.cells (zs (c + k)) 5)) w.heap.size (zs (c + k)) 5 := Blk.newAt _ _ _ _ (by simp)
  have hsz : ((w.setCell ⟨gb, 2, none⟩ (.int .i64 k)).alloc (.cells (zs (c + k)) 5)).heap.size = w.heap.size + 1 := by simp
  have K1 := Lib.hid k1
  have HSZ := Lib.hid hsz
  clear kc kf k1 hsz m1
  generalize (w.setCell ⟨gb, 2, none⟩ (.int .i64 k)).alloc (.cells (zs (c + k)) 5) = W at *
  have q0 : ∀ d os, (Sort.grow (redrawn W d) os).cell? ⟨gb, 0, none⟩ = some (.slice A n c) := fun d os => cell_regrown (K1.out.cell 0) d os
  have q1 : ∀ d os, (Sort.grow (redrawn W d) os).cell? ⟨gb, 1, none⟩ = some (.int .i64 0) := fun d os => cell_regrown (K1.out.cell 1) d os
  have s2 : ∀ W, (Instr.slice 24 (.slice (some ⟨w.heap.size, 0, none⟩) (c + k) (c + k)) (some (.int .i64 k)) none none).run Try.prog W = .ok (.slice (cutA (some ⟨w.heap.size, 0, none⟩) (c + k) k) c c) W := fun W => by
    have := run_cut_l (some ⟨w.heap.size, 0, none⟩) (c + k) (c + k) k k rfl (by omega) 24 Try.underlying24 size5 W
    rwa [Nat.add_sub_cancel] at this
  refine wp_region_float (S := Grw W) [true, true, true, true, true, true, true, true, true, true, true, true, false] 12 (by kernel_rfl) (by kernel_rfl) (Grw.drew W) ?_
  simp only [selQ, selN, earlyN]
  repeat (first | go_big_quiet_skip | (go_big_quiet_want; go_big_quiet_op; go_big_quiet_on))
  refine wpQuiet_nil ?_
  refine wpN_late ?_
  clear q0 q1
  have hl := H.out.len
  refine wpList_copy_splice rfl _ _ 24 24 rfl 5 Try.underlying24 info5s (cutA (some ⟨w.heap.size, 0, none⟩) (c + k) k) A c c n c rfl rfl w.heap.size k (zs (c + k)).toList 5 (by rw [Array.toArray_toList]; exact kd.heap) (l.map (Value.int .u8)) (by rw [List.length_map, hl]; exact (Nat.min_eq_left hcap).symm) ?_ (by simp [zs_size, hl]; omega) (fun u hu => by simp at hu; obtain ⟨x, _, rfl⟩ := hu; rfl) w.heap.size W.drew (Below.refl _ _) (Nat.le_refl _) ?_
  · intro hpos
    have hn : 0 < n := by simpa [hl] using hpos
    refine ⟨by unfold cutA; rw [if_neg (by omega)]; simp [add_add], ?_⟩
    have R := (H.out.chg X1 HA.out).below ((Bl.refl W).drew)
    obtain ⟨g, o, rfl, _, hc⟩ := R.at hn
    refine ⟨_, rfl, fun j u hj => ?_⟩
    exact R.src.cell _ rfl j u hj
  · intro w2 hg2 hb2
    have hb2' : Below w.heap.size W w2 := ((Below.refl _ W).drew).trans hb2
    have k2 : Blk w2 gb (bfC A n c k app) 144 := ⟨(hb2'.block gb kz).trans K1.out.heap⟩
    have kd2 : Blk w2 w.heap.size (splice (zs (c + k)).toList k (l.map (Value.int .u8))).toArray 5 := ⟨hg2.out⟩
    have X2 : Chg gb w w2 := ⟨hb2'.os.trans X1.os, hb2'.tape.trans X1.tape, hb2'.output.trans X1.output, Nat.le_trans X1.size hb2'.size, fun i hi hlt => (hb2'.block i hlt).trans (X1.block i hi hlt)⟩
    have KD2 := Lib.hid kd2
    clear hg2 hb2 hb2' kd2 kd
    refine NoPanic.normal ?_
    have kc := k2.cell
    have kf := k2.frozen
    have kz2 := k2.lt
    have K2 := Lib.hid k2
    unfold bfC at kc
    have s3 := run_cut_h (some ⟨w.heap.size, 0, none⟩) (c + k) (c + k) (k + n) ((k : Int) + n) (by omega) (by omega) 24 Try.underlying24 size5
    clear k2 s2 s0
    go_wp2_with fail
    have k3 : Blk (((w2.setCell ⟨gb, 1, none⟩ (.int .i64 k)).setCell ⟨gb, 0, none⟩ (.slice (some ⟨w.heap.size, 0, none⟩) (k + n) (c + k))).setCell ⟨gb, 1, none⟩ (.int .i64 0)) gb (bfC (some ⟨w.heap.size, 0, none⟩) (k + n) (c + k) k app) 144 := ((K2.out.set 1 _).set 0 _).set 1 _
    have X3 : Chg gb w (((w2.setCell ⟨gb, 1, none⟩ (.int .i64 k)).setCell ⟨gb, 0, none⟩ (.slice (some ⟨w.heap.size, 0, none⟩) (k + n) (c + k))).setCell ⟨gb, 1, none⟩ (.int .i64 0)) := ((X2.set 1 _).set 0 _).set 1 _
    have kd3 : Blk (((w2.setCell ⟨gb, 1, none⟩ (.int .i64 k)).setCell ⟨gb, 0, none⟩ (.slice (some ⟨w.heap.size, 0, none⟩) (k + n) (c + k))).setCell ⟨gb, 1, none⟩ (.int .i64 0)) w.heap.size (splice (zs (c + k)).toList k (l.map (Value.int .u8))).toArray 5 := ((KD2.out.far (p := ⟨gb, 1, none⟩) (Nat.ne_of_gt kz) _).far (p := ⟨gb, 0, none⟩) (Nat.ne_of_gt kz) _).far (p := ⟨gb, 1, none⟩) (Nat.ne_of_gt kz) _
    have K3 := Lib.hid k3
    have KD3 := Lib.hid kd3
    clear kc kf kz2 kd3 s3
    generalize (((w2.setCell ⟨gb, 1, none⟩ (.int .i64 k)).setCell ⟨gb, 0, none⟩ (.slice (some ⟨w.heap.size, 0, none⟩) (k + n) (c + k))).setCell ⟨gb, 1, none⟩ (.int .i64 0)) = W3 at *
    have kc := k3.cell
    unfold bfC at kc
    clear k3
    have s4 := run_cut_0 (some ⟨w.heap.size, 0, none⟩) (k + n) (c + k) k k rfl (by omega) 24 Try.underlying24 size5
    go_quiet (fail)
    go_wp2_with fail
    go_ret2
    exact ⟨rfl, X3.drewN _, K3.out.same rfl, KD3.out.same rfl⟩
end Go.Proofs.Ytoljdgfbkebgcaa
