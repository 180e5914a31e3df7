/- The buffer: room behind what is written. -/
import Derived.Test.YtoljdgfbkebgcaaBuf
namespace Go.Proofs.Ytoljdgfbkebgcaa
open Go.RowKit
set_option maxHeartbeats 2000000 in
theorem appendB (gb : Nat) (A : Option Addr) (n c m app : Nat) (mi : Int) (l : List Int) (w : World) (kb : Blk w gb (bfC A n c 0 app) 144) (h : Rd .u8 w A n c l) (hA : InF (· ≠ gb) A n) (hmi : mi = m) (hm : 0 < m) (hm2 : m ≤ 100000) (hc : c ≤ 100000) (happ : app ≤ 100000) (hgr : c - n < m) (t : Nat) (ht : t = max app m) :
    Calls Try.prog 136 #[.pointer (some ⟨gb, 0, none⟩), .int .i64 mi] w fun e w' =>
      e = .returned (.tuple #[.slice (some ⟨w.heap.size, n, none⟩) m (c + t - n), .nilIface]) ∧ Chg gb w w' ∧ Blk w' gb (bfC (some ⟨w.heap.size, 0, none⟩) (n + m) (c + t) 0 (app + t : Nat)) 144 ∧
        Blk w' w.heap.size (splice (zs (c + t)).toList 0 (l.map (Value.int .u8))).toArray 5 := by
  subst hmi
  have H := Lib.hid h
  have HA := Lib.hid hA
  have K := Lib.hid kb
  have hcap := h.cap
  have kc := kb.cell
  have kf := kb.frozen
  have kz := kb.lt
  unfold bfC at kc
  have hm' : (0 : Int) < (m : Int) := by omega
  have hgr' : (c : Int) - n < m := by omega
  have hnc : (n : Int) ≤ c := by omega
  have ht1 : m ≤ t ∧ app ≤ t ∧ t ≤ 100000 := by omega
  have m1 := run_mk (c + t) ((c : Int) + t) (by omega) (by omega)
  have HT := Lib.hid ht
  clear h hA kb ht
  rcases Nat.lt_or_ge app m with hlt | hge
  · obtain rfl : t = m := by have := HT.out; omega
    have hlt' : (app : Int) < (t : Int) := by omega
    go_enter Try.func136, Try.ntmps136
    go_wp2_with fail
    have X1 : Chg gb w ((w.setCell ⟨gb, 3, none⟩ (.int .i64 ((app : Int) + t))).alloc (.cells (zs (c + t)) 5)) := ((Chg.refl gb w).set 3 (.int .i64 ((app : Int) + t))).trans (Chg.of (by go_grown))
    have k1 : Blk ((w.setCell ⟨gb, 3, none⟩ (.int .i64 ((app : Int) + t))).alloc (.cells (zs (c + t)) 5)) gb (bfC A n c 0 ((app : Int) + t)) 144 := (K.out.set 3 (.int .i64 ((app : Int) + t))).alloc _
    have kd : Blk ((w.setCell ⟨gb, 3, none⟩ (.int .i64 ((app : Int) + t))).alloc (.cells (zs (c + t)) 5)) w.heap.size (zs (c + t)) 5 := Blk.newAt _ _ _ _ (by simp)
    have hsz : ((w.setCell ⟨gb, 3, none⟩ (.int .i64 ((app : Int) + t))).alloc (.cells (zs (c + t)) 5)).heap.size = w.heap.size + 1 := by simp
    have K1 := Lib.hid k1
    have HSZ := Lib.hid hsz
    clear kc kf k1 hsz m1
    generalize ((w.setCell ⟨gb, 3, none⟩ (.int .i64 ((app : Int) + t))).alloc (.cells (zs (c + t)) 5)) = W at *
    have q0 : ∀ d os, (Sort.grow (redrawn W d) os).cell? ⟨gb, 0, none⟩ = some (.slice A n c) := fun d os => cell_regrown (K1.out.cell 0) d os
    have q1 : ∀ d os, (Sort.grow (redrawn W d) os).cell? ⟨gb, 1, none⟩ = some (.int .i64 0) := fun d os => cell_regrown (K1.out.cell 1) d os
    have s0 := run_cut_l0 A n c 24 Try.underlying24 size5
    have s2 := run_cut_l0 (some ⟨w.heap.size, 0, none⟩) (c + t) (c + t) 24 Try.underlying24 size5
    refine wp_region_float (S := Grw W) [true, true, true, true, true, true, true, true, true, true, true, true, true, true, true, false] 15 (by kernel_rfl) (by kernel_rfl) (Grw.drew W) ?_
    simp only [selQ, selN, earlyN]
    repeat (first | go_big_quiet_skip | (go_big_quiet_want; go_big_quiet_op; go_big_quiet_on))
    refine wpQuiet_nil ?_
    refine wpN_late ?_
    clear q0 q1 s0 s2
    have hl := H.out.len
    refine wpList_copy_splice rfl (.tmp 55) (.tmp 64) 24 24 rfl 5 Try.underlying24 info5s (some ⟨w.heap.size, 0, none⟩) A (c + t) (c + t) n c (by rfl) (by rfl) w.heap.size 0 (zs (c + t)).toList 5 (by rw [Array.toArray_toList]; exact kd.heap) (l.map (Value.int .u8)) (by rw [List.length_map, hl]; exact (Nat.min_eq_left (by omega)).symm) ?_ (by simp [zs_size, hl]; omega) (fun u hu => by simp at hu; obtain ⟨x, _, rfl⟩ := hu; rfl) w.heap.size W.drew (Below.refl _ _) (Nat.le_refl _) ?_
    · intro hpos
      have hn : 0 < n := by simpa [hl] using hpos
      refine ⟨rfl, ?_⟩
      have R := (H.out.chg X1 HA.out).below ((Bl.refl W).drew)
      obtain ⟨g, o, rfl, _, hc⟩ := R.at hn
      exact ⟨_, rfl, fun j u hj => R.src.cell _ rfl j u hj⟩
    · intro w2 hg2 hb2
      have hb2' : Below w.heap.size W w2 := ((Below.refl _ W).drew).trans hb2
      have k2 : Blk w2 gb (bfC A n c 0 ((app : Int) + t)) 144 := ⟨(hb2'.block gb kz).trans K1.out.heap⟩
      have kd2 : Blk w2 w.heap.size (splice (zs (c + t)).toList 0 (l.map (Value.int .u8))).toArray 5 := ⟨hg2.out⟩
      have X2 : Chg gb w w2 := ⟨hb2'.os.trans X1.os, hb2'.tape.trans X1.tape, hb2'.output.trans X1.output, Nat.le_trans X1.size hb2'.size, fun i hi hlt => (hb2'.block i hlt).trans (X1.block i hi hlt)⟩
      have KD2 := Lib.hid kd2
      have K2 := Lib.hid k2
      have kc := k2.cell
      have kf := k2.frozen
      have kz2 := k2.lt
      unfold bfC at kc
      clear hg2 hb2 hb2' kd2 kd k2
      refine NoPanic.normal ?_
      have s3 := run_cut_h (some ⟨w.heap.size, 0, none⟩) (c + t) (c + t) n n rfl (by omega) 24 Try.underlying24 size5
      have s4 := run_cut_h (some ⟨w.heap.size, 0, none⟩) n (c + t) (n + t) ((n : Int) + t) (by omega) (by omega) 24 Try.underlying24 size5
      have s5 : ∀ W, (Instr.slice 24 (.slice (some ⟨w.heap.size, 0, none⟩) (n + t) (c + t)) (some (.int .i64 n)) none none).run Try.prog W = .ok (.slice (some ⟨w.heap.size, n, none⟩) t (c + t - n)) W := fun W => by
        have := run_cut_l (some ⟨w.heap.size, 0, none⟩) (n + t) (c + t) n n rfl (by omega) 24 Try.underlying24 size5 W
        rw [this]
        unfold cutA
        rw [if_neg (by omega), Nat.add_sub_cancel_left]
        simp [add_add]
      go_wp2_with fail
      go_ret2
      refine ⟨rfl, (X2.set 0 _).set 0 _, ?_, (KD2.out.far (p := ⟨gb, 0, none⟩) (Nat.ne_of_gt kz) _).far (p := ⟨gb, 0, none⟩) (Nat.ne_of_gt kz) _⟩
      have := (K2.out.set 0 (.slice (some ⟨w.heap.size, 0, none⟩) n (c + t))).set 0 (.slice (some ⟨w.heap.size, 0, none⟩) (n + t) (c + t))
      simpa [bfC] using this
  · obtain rfl : t = app := by have := HT.out; omega
    have hge' : (m : Int) ≤ (t : Int) := by omega
    go_enter Try.func136, Try.ntmps136
    go_wp2_with fail
    have X1 : Chg gb w ((w.setCell ⟨gb, 3, none⟩ (.int .i64 ((t : Int) + t))).alloc (.cells (zs (c + t)) 5)) := ((Chg.refl gb w).set 3 (.int .i64 ((t : Int) + t))).trans (Chg.of (by go_grown))
    have k1 : Blk ((w.setCell ⟨gb, 3, none⟩ (.int .i64 ((t : Int) + t))).alloc (.cells (zs (c + t)) 5)) gb (bfC A n c 0 ((t : Int) + t)) 144 := (K.out.set 3 (.int .i64 ((t : Int) + t))).alloc _
    have kd : Blk ((w.setCell ⟨gb, 3, none⟩ (.int .i64 ((t : Int) + t))).alloc (.cells (zs (c + t)) 5)) w.heap.size (zs (c + t)) 5 := Blk.newAt _ _ _ _ (by simp)
    have hsz : ((w.setCell ⟨gb, 3, none⟩ (.int .i64 ((t : Int) + t))).alloc (.cells (zs (c + t)) 5)).heap.size = w.heap.size + 1 := by simp
    have K1 := Lib.hid k1
    have HSZ := Lib.hid hsz
    clear kc kf k1 hsz m1
    generalize ((w.setCell ⟨gb, 3, none⟩ (.int .i64 ((t : Int) + t))).alloc (.cells (zs (c + t)) 5)) = W at *
    have q0 : ∀ d os, (Sort.grow (redrawn W d) os).cell? ⟨gb, 0, none⟩ = some (.slice A n c) := fun d os => cell_regrown (K1.out.cell 0) d os
    have q1 : ∀ d os, (Sort.grow (redrawn W d) os).cell? ⟨gb, 1, none⟩ = some (.int .i64 0) := fun d os => cell_regrown (K1.out.cell 1) d os
    have s0 := run_cut_l0 A n c 24 Try.underlying24 size5
    have s2 := run_cut_l0 (some ⟨w.heap.size, 0, none⟩) (c + t) (c + t) 24 Try.underlying24 size5
    refine wp_region_float (S := Grw W) [true, true, true, true, true, true, true, true, true, true, true, true, true, true, true, false] 15 (by kernel_rfl) (by kernel_rfl) (Grw.drew W) ?_
    simp only [selQ, selN, earlyN]
    repeat (first | go_big_quiet_skip | (go_big_quiet_want; go_big_quiet_op; go_big_quiet_on))
    refine wpQuiet_nil ?_
    refine wpN_late ?_
    clear q0 q1 s0 s2
    have hl := H.out.len
    refine wpList_copy_splice rfl (.tmp 55) (.tmp 64) 24 24 rfl 5 Try.underlying24 info5s (some ⟨w.heap.size, 0, none⟩) A (c + t) (c + t) n c (by rfl) (by rfl) w.heap.size 0 (zs (c + t)).toList 5 (by rw [Array.toArray_toList]; exact kd.heap) (l.map (Value.int .u8)) (by rw [List.length_map, hl]; exact (Nat.min_eq_left (by omega)).symm) ?_ (by simp [zs_size, hl]; omega) (fun u hu => by simp at hu; obtain ⟨x, _, rfl⟩ := hu; rfl) w.heap.size W.drew (Below.refl _ _) (Nat.le_refl _) ?_
    · intro hpos
      have hn : 0 < n := by simpa [hl] using hpos
      refine ⟨rfl, ?_⟩
      have R := (H.out.chg X1 HA.out).below ((Bl.refl W).drew)
      obtain ⟨g, o, rfl, _, hc⟩ := R.at hn
      exact ⟨_, rfl, fun j u hj => R.src.cell _ rfl j u hj⟩
    · intro w2 hg2 hb2
      have hb2' : Below w.heap.size W w2 := ((Below.refl _ W).drew).trans hb2
      have k2 : Blk w2 gb (bfC A n c 0 ((t : Int) + t)) 144 := ⟨(hb2'.block gb kz).trans K1.out.heap⟩
      have kd2 : Blk w2 w.heap.size (splice (zs (c + t)).toList 0 (l.map (Value.int .u8))).toArray 5 := ⟨hg2.out⟩
      have X2 : Chg gb w w2 := ⟨hb2'.os.trans X1.os, hb2'.tape.trans X1.tape, hb2'.output.trans X1.output, Nat.le_trans X1.size hb2'.size, fun i hi hlt => (hb2'.block i hlt).trans (X1.block i hi hlt)⟩
      have KD2 := Lib.hid kd2
      have K2 := Lib.hid k2
      have kc := k2.cell
      have kf := k2.frozen
      have kz2 := k2.lt
      unfold bfC at kc
      clear hg2 hb2 hb2' kd2 kd k2
      refine NoPanic.normal ?_
      have s3 := run_cut_h (some ⟨w.heap.size, 0, none⟩) (c + t) (c + t) n n rfl (by omega) 24 Try.underlying24 size5
      have s4 := run_cut_h (some ⟨w.heap.size, 0, none⟩) n (c + t) (n + m) ((n : Int) + m) (by omega) (by omega) 24 Try.underlying24 size5
      have s5 : ∀ W, (Instr.slice 24 (.slice (some ⟨w.heap.size, 0, none⟩) (n + m) (c + t)) (some (.int .i64 n)) none none).run Try.prog W = .ok (.slice (some ⟨w.heap.size, n, none⟩) m (c + t - n)) W := fun W => by
        have := run_cut_l (some ⟨w.heap.size, 0, none⟩) (n + m) (c + t) n n rfl (by omega) 24 Try.underlying24 size5 W
        rw [this]
        unfold cutA
        rw [if_neg (by omega), Nat.add_sub_cancel_left]
        simp [add_add]
      go_wp2_with fail
      go_ret2
      refine ⟨rfl, (X2.set 0 _).set 0 _, ?_, (KD2.out.far (p := ⟨gb, 0, none⟩) (Nat.ne_of_gt kz) _).far (p := ⟨gb, 0, none⟩) (Nat.ne_of_gt kz) _⟩
      have := (K2.out.set 0 (.slice (some ⟨w.heap.size, 0, none⟩) n (c + t))).set 0 (.slice (some ⟨w.heap.size, 0, none⟩) (n + m) (c + t))
      simpa [bfC] using this
end Go.Proofs.Ytoljdgfbkebgcaa
