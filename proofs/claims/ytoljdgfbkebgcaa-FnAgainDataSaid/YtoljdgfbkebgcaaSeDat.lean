/- SerializeTo: sctpdata. -/
import Derived.Test.YtoljdgfbkebgcaaSpl
import Derived.Test.YtoljdgfbkebgcaaBuf2
import Derived.Deep.DeepCutAuto
namespace Go.Proofs.Ytoljdgfbkebgcaa
open Go.RowKit
theorem app_rd {w : World} {h N n r : Nat} {l : List Int} (K : Blk w h (splice (zs N).toList 0 (l.map (Value.int .u8))).toArray 5) (hl : l.length = n) (hN : n + r ≤ N) : Rd .u8 w (some ⟨h, 0, none⟩) (n + r) N (l ++ List.replicate r 0) :=
  ⟨by simp [hl], hN, fun i hi => ⟨h, 0, rfl, by
    rw [Nat.zero_add, K.cell, List.getElem?_toArray]
    by_cases h1 : i < n
    · have e := splice_mid (zs N).toList (l.map (Value.int .u8)) 0 i (Nat.zero_le _) (by simpa [hl] using h1)
      rw [Nat.zero_add] at e
      rw [e, List.getD_eq_getElem?_getD, List.getElem?_append_left (by omega)]
      simp [List.getElem?_eq_getElem (show i < l.length by omega)]
    · obtain ⟨j, rfl⟩ : ∃ j, i = n + j := ⟨i - n, by omega⟩
      have e := splice_hi (zs N).toList (l.map (Value.int .u8)) 0 j (Nat.zero_le _)
      rw [List.length_map, hl, Nat.zero_add] at e
      rw [e, List.getD_eq_getElem?_getD, List.getElem?_append_right (by omega)]
      simp [zs, hl, show n + j < N by omega, show j < r by omega]⟩⟩
/-- What fills up to four bytes. -/
def padn (n : Nat) : Nat := (4 - n % 4) % 4
def flag (b : Bool) (x : Int) : Int := if b then x else 0
set_option maxHeartbeats 4000000 in
set_option maxRecDepth 100000 in
theorem seDat_any (gb : Nat) (A : Option Addr) (n app : Nat) (l : List Int) (x1 L U Y0 Y1 Y2 Y3 : Int) (t0 t1 t2 : Bool) (o1 o2 : Bool) (w : World) (kb : Blk w gb (bfC A n n 0 app) 144) (h : Rd .u8 w A n n l) (hA : InF (· ≠ gb) A n) (hn0 : 0 < n) (hc : n ≤ 10000) (happ : app ≤ 10000)
    (bY0 : 0 ≤ Y0 ∧ Y0 ≤ 4294967295) (bY1 : 0 ≤ Y1 ∧ Y1 ≤ 65535) (bY2 : 0 ≤ Y2 ∧ Y2 ≤ 65535) (bY3 : 0 ≤ Y3 ∧ Y3 ≤ 4294967295) :
    Calls Try.prog 118 #[.agg #[.slice none 0 0, .slice none 0 0, .int .u8 0, .int .u8 x1, .int .u16 L, .int .i64 U, .bool t0, .bool t1, .bool t2, .int .u32 Y0, .int .u16 Y1, .int .u16 Y2, .int .u32 Y3], .iface 141 (.pointer (some ⟨gb, 0, none⟩)), .agg #[.bool o1, .bool o2]] w fun e w' =>
      ∃ h' c' pre app', e = .returned .nilIface ∧ w.heap.size ≤ h' ∧ Chg gb w w' ∧ Blk w' gb (bfC (some ⟨h', 0, none⟩) (16 + (n + padn n)) c' pre app') 144 ∧
        Rd .u8 w' (some ⟨h', 0, none⟩) (16 + (n + padn n)) c' ([0, flag t0 4 + flag t1 2 + flag t2 1, (16 + (n : Int)) / 256, (16 + (n : Int)) % 256, Y0 / 16777216, Y0 / 65536 % 256, Y0 / 256 % 256, Y0 % 256, Y1 / 256, Y1 % 256, Y2 / 256, Y2 % 256, Y3 / 16777216, Y3 / 65536 % 256, Y3 / 256 % 256, Y3 % 256] ++ (l ++ List.replicate (padn n) 0)) := by
  have H := Lib.hid h
  have HA := Lib.hid hA
  have K := Lib.hid kb
  have hl := h.len
  have kz := kb.lt
  clear h hA kb
  go_enter Try.func118, Try.ntmps118
  go_wp2_with fail
  have B0 : Bl w ((w.alloc (.cells #[.slice none 0 0, .slice none 0 0, .int .u8 0, .int .u8 x1, .int .u16 L, .int .i64 U, .bool t0, .bool t1, .bool t2, .int .u32 Y0, .int .u16 Y1, .int .u16 Y2, .int .u32 Y3] 103)).alloc (.cells #[.bool o1, .bool o2] 71)) := by go_grown
  have ks : Blk ((w.alloc (.cells #[.slice none 0 0, .slice none 0 0, .int .u8 0, .int .u8 x1, .int .u16 L, .int .i64 U, .bool t0, .bool t1, .bool t2, .int .u32 Y0, .int .u16 Y1, .int .u16 Y2, .int .u32 Y3] 103)).alloc (.cells #[.bool o1, .bool o2] 71)) w.heap.size #[.slice none 0 0, .slice none 0 0, .int .u8 0, .int .u8 x1, .int .u16 L, .int .i64 U, .bool t0, .bool t1, .bool t2, .int .u32 Y0, .int .u16 Y1, .int .u16 Y2, .int .u32 Y3] 103 := (Blk.new w _ _).alloc _
  generalize hW : ((w.alloc (.cells #[.slice none 0 0, .slice none 0 0, .int .u8 0, .int .u8 x1, .int .u16 L, .int .i64 U, .bool t0, .bool t1, .bool t2, .int .u32 Y0, .int .u16 Y1, .int .u16 Y2, .int .u32 Y3] 103)).alloc (.cells #[.bool o1, .bool o2] 71)) = W at *
  have hgs : w.heap.size ≠ gb := Nat.ne_of_gt kz
  have hgW : w.heap.size < W.heap.size := ks.lt
  clear hW
  (with_reducible refine (bytesB gb A n n _ _ W (K.out.below B0)).mono ?_)
  rintro e w1 ⟨rfl, q, rfl⟩
  have B1 : Bl w (W.drewN q) := B0.drewN q
  have K1 := Lib.hid (K.out.below B1)
  have R1 := Lib.hid (H.out.below B1)
  have ks1 := ks.same (w' := W.drewN q) rfl
  have hz1 : W.heap.size = (W.drewN q).heap.size := rfl
  rw [hz1] at hgW
  clear B0 ks hz1
  generalize W.drewN q = W1 at *
  go_upto_if 19 with fail
  go_cut [8] (fun s8 wx => Hid (∃ A' c' app', s8 = .int .i64 ((n : Int) % 4) ∧ Chg gb w wx ∧ Blk wx gb (bfC A' (n + padn n) c' 0 app') 144 ∧ Rd .u8 wx A' (n + padn n) c' (l ++ List.replicate (padn n) 0) ∧ InF (· ≠ gb) A' (n + padn n) ∧ c' ≤ 30000 ∧ Blk wx w.heap.size #[.slice none 0 0, .slice none 0 0, .int .u8 0, .int .u8 x1, .int .u16 L, .int .i64 U, .bool t0, .bool t1, .bool t2, .int .u32 Y0, .int .u16 Y1, .int .u16 Y2, .int .u32 Y3] 103))
  case first =>
    by_cases hr : n % 4 = 0
    · have hp : padn n = 0 := by unfold padn; omega
      have HPP := Lib.hid hp
      have HR := Lib.hid hr
      have hr' : ((n : Int) % 4 != 0) = false := by simp; omega
      clear hp hr
      go_wp2_with fail
      go_meet
      case rel =>
        refine Lib.hid ⟨A, n, app, rfl, Chg.of B1, ?_⟩
        rw [HPP.out]
        simp only [Nat.add_zero, List.replicate_zero, List.append_nil]
        exact ⟨K1.out, R1.out, HA.out, by omega, ks1⟩
    · have hp : padn n = 4 - n % 4 := by unfold padn; omega
      have HPP := Lib.hid hp
      have hr' : ((n : Int) % 4 != 0) = true := by simp; omega
      have hmi : (4 : Int) - (n : Int) % 4 = ((4 - n % 4 : Nat) : Int) := by omega
      have hm4 : 0 < 4 - n % 4 ∧ 4 - n % 4 ≤ 4 := by omega
      obtain ⟨m, hm⟩ : ∃ m, m = 4 - n % 4 := ⟨_, rfl⟩
      rw [← hm] at hmi hm4
      have HM := Lib.hid hm
      have HMI := Lib.hid hmi
      clear hp hr hm hmi
      go_wp2_with fail
      (with_reducible refine (appendB gb A n n m app _ l W1 K1.out R1.out HA.out HMI.out hm4.1 (by omega) (by omega) (by omega) (by omega) (max app m) rfl).mono ?_)
      rintro e w2 ⟨rfl, ch2, kb2, kd2⟩
      have ks2 := ks1.chg ch2 hgs
      have r2 := Lib.hid (app_rd (r := m) kd2 hl (by omega))
      have KB2 := Lib.hid kb2
      have X2 : Chg gb w w2 := (Chg.of B1).trans ch2
      have hgb1 : W1.heap.size ≠ gb := by omega
      clear kb2 kd2 ch2
      go_wp2_with fail
      go_meet
      case rel =>
        refine Lib.hid ⟨some ⟨W1.heap.size, 0, none⟩, n + max app m, ((app + max app m : Nat) : Int), rfl, X2, ?_⟩
        rw [HPP.out, ← HM.out]
        refine ⟨KB2.out, r2.out, fun _ x hx => ?_, by omega, ks2⟩
        simp at hx
        subst hx
        exact hgb1
  case rest =>
    obtain ⟨A', c', app', rfl, X2, kb2, r2, hA2, hc2, ks2⟩ := hcut.out
    have HA2 := Lib.hid hA2
    have KB2 := Lib.hid kb2
    have R2 := Lib.hid r2
    have hl2 := r2.len
    have hcap2 := r2.cap
    clear hA2 kb2 r2 ks1
    generalize hn' : n + padn n = n' at *
    generalize hl' : l ++ List.replicate (padn n) 0 = l' at *
    have HN := Lib.hid hn'
    have HL := Lib.hid hl'
    clear hn' hl'
    have hwz : w.heap.size < wc.heap.size := ks2.lt
    have hgbz : gb < wc.heap.size := KB2.out.lt
    go_wp2_with fail
    (with_reducible refine (prependB gb A' n' c' 16 16 app' l' wc KB2.out R2.out HA2.out rfl (by omega) (by omega) (by omega)).mono ?_)
    rintro e w3 ⟨rfl, ch3, kb3, kd3⟩
    have X3 := X2.trans ch3
    have ks3 := ks2.chg ch3 hgs
    have hgh : wc.heap.size ≠ gb := by omega
    have hgh2 : w.heap.size ≠ wc.heap.size := by omega
    have hle : w.heap.size ≤ wc.heap.size := by omega
    have hsz := splice_size c' 16 n' l' hl2 hcap2
    generalize hcs : (splice (zs (c' + 16)).toList 16 (l'.map (Value.int .u8))).toArray = cs at *
    have HCS := Lib.hid hcs
    obtain ⟨u0, e0⟩ : ∃ u, cs[0]? = some u := ⟨_, Array.getElem?_eq_getElem (by omega)⟩
    obtain ⟨u1, e1⟩ : ∃ u, cs[1]? = some u := ⟨_, Array.getElem?_eq_getElem (by omega)⟩
    have c0 : w3.cell? ⟨wc.heap.size, 0, none⟩ = some u0 := (kd3.cell 0).trans e0
    have c1 : w3.cell? ⟨wc.heap.size, 1, none⟩ = some u1 := (kd3.cell 1).trans e1
    have f0 := kd3.frozen 0
    have f1 := kd3.frozen 1
    have cs1 := ks3.cell
    have zs1 := ks3.lt
    have zd1 := kd3.lt
    have KB3 := Lib.hid kb3
    have KD3 := Lib.hid kd3
    have KS3 := Lib.hid ks3
    clear kb3 kd3 ks3 hcs e0 e1 ks2 ch3 hcut
    generalize wc.heap.size = h' at *
    go_upto_if 39 with fail
    have X4 : Chg gb w (w3.setCell ⟨h', 0, none⟩ (.int .u8 0)) := X3.new (p := ⟨h', 0, none⟩) hle _
    have kd4 := KD3.out.set 0 (.int .u8 0)
    have kb4 := KB3.out.far (p := ⟨h', 0, none⟩) (Ne.symm hgh) (.int .u8 0)
    have ks4 := KS3.out.far (p := ⟨h', 0, none⟩) hgh2 (.int .u8 0)
    have c1' : (w3.setCell ⟨h', 0, none⟩ (.int .u8 0)).cell? ⟨h', 1, none⟩ = some u1 := by rw [World.cell?_setCell_other _ _ _ _ (by simp)]; exact c1
    clear c0 c1 f0 f1 cs1 zs1 zd1
    generalize w3.setCell ⟨h', 0, none⟩ (.int .u8 0) = W4 at *
    have cs4 := ks4.cell
    have fd4 := kd4.frozen
    have zd4 := kd4.lt
    go_cut [12] (fun s12 wx => s12 = .int .u8 (flag t0 4) ∧ wx = W4)
    case first =>
      cases t0
      all_goals
        go_wp2_with fail
        go_meet
        case rel => exact ⟨by rfl, rfl⟩
    case rest =>
    obtain ⟨rfl, hw⟩ := hcut
    rw [hw]
    clear hw wc
    go_upto_if 43 with fail
    go_cut [12] (fun s12 wx => s12 = .int .u8 (flag t0 4 + flag t1 2) ∧ wx = W4)
    case first =>
      cases t1
      all_goals
        go_wp2_with fail
        go_meet
        case rel => exact ⟨by cases t0 <;> rfl, rfl⟩
    case rest =>
    obtain ⟨rfl, hw⟩ := hcut
    rw [hw]
    clear hw wc
    go_upto_if 47 with fail
    go_cut [12] (fun s12 wx => s12 = .int .u8 (flag t0 4 + flag t1 2 + flag t2 1) ∧ wx = W4)
    case first =>
      cases t2
      all_goals
        go_wp2_with fail
        go_meet
        case rel => exact ⟨by cases t0 <;> cases t1 <;> rfl, rfl⟩
    case rest =>
    obtain ⟨rfl, hw⟩ := hcut
    rw [hw]
    clear hw wc
    generalize hFL : flag t0 4 + flag t1 2 + flag t2 1 = FL at *
    have HFL := Lib.hid hFL
    clear hFL
    clear cs4
    have fd4' := kd4.frozen 1
    clear fd4
    go_wp2_with fail
    have X5 : Chg gb w (W4.setCell ⟨h', 1, none⟩ (.int .u8 FL)) := X4.new (p := ⟨h', 1, none⟩) hle _
    have kd5 := kd4.set 1 (.int .u8 FL)
    have kb5 := kb4.far (p := ⟨h', 1, none⟩) (Ne.symm hgh) (.int .u8 FL)
    have ks5 := ks4.far (p := ⟨h', 1, none⟩) hgh2 (.int .u8 FL)
    clear c1' fd4' zd4 kd4 kb4 ks4
    generalize W4.setCell ⟨h', 1, none⟩ (.int .u8 FL) = V0 at *
    have s0 := run_cut (some ⟨h', 0, none⟩) 16 (c' + 16) 2 4 2 4 rfl rfl (by omega) (by omega) 24 Try.underlying24 size5
    have sa0 : cutA (some ⟨h', 0, none⟩) (c' + 16) 2 = some ⟨h', 2, none⟩ := by unfold cutA; rw [if_neg (by omega)]; rfl
    rw [sa0] at s0
    refine wp_region_float (S := Grw V0) [true, true, true, true, true, false, false, false, false] 8 (by kernel_rfl) (by kernel_rfl) (Grw.drew V0) ?_
    simp only [selQ, selN, earlyN]
    repeat (first | go_big_quiet_skip | (go_big_quiet_want; go_big_quiet_op; go_big_quiet_on))
    refine wpQuiet_nil ?_
    have Bd : Bl V0 V0.drew := (Bl.refl V0).drew
    refine wpN_want rfl (fun K hK => ?_)
    go_big_op
    refine hK _ _ (Grw.of Bd) ?_
    clear hK K
    refine wpN_want rfl (fun K hK => ?_)
    go_big_op
    refine hK _ _ (Grw.of Bd) ?_
    clear hK K
    refine wpN_want rfl (fun K hK => ?_)
    go_big_op
    refine hK _ _ (Grw.of Bd) ?_
    clear hK K
    refine wpN_late ?_
    go_wp2_with fail
    (with_reducible refine (put16_any h' 2 _ (16 + (n : Int)) _ _ (kd5.same (w' := V0.drew) rfl) (by simp only [Array.size_setIfInBounds]; omega) (by omega)).mono ?_)
    rintro e v1 ⟨rfl, ch5, kd6⟩
    have X6 : Chg gb w v1 := by
      have := ch5
      exact ⟨this.os.trans X5.os, this.tape.trans X5.tape, this.output.trans X5.output, Nat.le_trans X5.size this.size, fun i hi hlt => (this.block i (by omega) (Nat.lt_of_lt_of_le hlt X5.size)).trans (X5.block i hi hlt)⟩
    have kb6 := (kb5.same (w' := V0.drew) rfl).chg ch5 (Ne.symm hgh)
    have ks6 := (ks5.same (w' := V0.drew) rfl).chg ch5 hgh2
    clear s0 sa0 ch5
    go_wp2_with fail
    refine NoPanic.normal ?_
    go_wp2_with fail
    generalize v1 = V1 at *
    have s1 := run_cut (some ⟨h', 0, none⟩) 16 (c' + 16) 4 8 4 8 rfl rfl (by omega) (by omega) 24 Try.underlying24 size5
    have sa1 : cutA (some ⟨h', 0, none⟩) (c' + 16) 4 = some ⟨h', 4, none⟩ := by unfold cutA; rw [if_neg (by omega)]; rfl
    rw [sa1] at s1
    have g1 : ∀ d os, (Sort.grow (redrawn V1 d) os).cell? ⟨w.heap.size, 9, none⟩ = some (.int .u32 Y0) := fun d os => cell_regrown (ks6.cell 9) d os
    refine wp_region_float (S := Grw V1) [true, true, true, true, true, false] 5 (by kernel_rfl) (by kernel_rfl) (Grw.drew V1) ?_
    simp only [selQ, selN, earlyN]
    repeat (first | go_big_quiet_skip | (go_big_quiet_want; go_big_quiet_op; go_big_quiet_on))
    refine wpQuiet_nil ?_
    refine wpN_late ?_
    go_wp2_with fail
    (with_reducible refine (put32_any h' 4 _ (Y0) _ _ (kd6.same (w' := V1.drew) rfl) (by simp only [Array.size_setIfInBounds]; omega) (by omega)).mono ?_)
    rintro e v2 ⟨rfl, ch6, kd7⟩
    have X7 : Chg gb w v2 := by
      have := ch6
      exact ⟨this.os.trans X6.os, this.tape.trans X6.tape, this.output.trans X6.output, Nat.le_trans X6.size this.size, fun i hi hlt => (this.block i (by omega) (Nat.lt_of_lt_of_le hlt X6.size)).trans (X6.block i hi hlt)⟩
    have kb7 := (kb6.same (w' := V1.drew) rfl).chg ch6 (Ne.symm hgh)
    have ks7 := (ks6.same (w' := V1.drew) rfl).chg ch6 hgh2
    clear s1 sa1 ch6 g1
    go_wp2_with fail
    refine NoPanic.normal ?_
    go_wp2_with fail
    generalize v2 = V2 at *
    have s2 := run_cut (some ⟨h', 0, none⟩) 16 (c' + 16) 8 10 8 10 rfl rfl (by omega) (by omega) 24 Try.underlying24 size5
    have sa2 : cutA (some ⟨h', 0, none⟩) (c' + 16) 8 = some ⟨h', 8, none⟩ := by unfold cutA; rw [if_neg (by omega)]; rfl
    rw [sa2] at s2
    have g2 : ∀ d os, (Sort.grow (redrawn V2 d) os).cell? ⟨w.heap.size, 10, none⟩ = some (.int .u16 Y1) := fun d os => cell_regrown (ks7.cell 10) d os
    refine wp_region_float (S := Grw V2) [true, true, true, true, true, false] 5 (by kernel_rfl) (by kernel_rfl) (Grw.drew V2) ?_
    simp only [selQ, selN, earlyN]
    repeat (first | go_big_quiet_skip | (go_big_quiet_want; go_big_quiet_op; go_big_quiet_on))
    refine wpQuiet_nil ?_
    refine wpN_late ?_
    go_wp2_with fail
    (with_reducible refine (put16_any h' 8 _ (Y1) _ _ (kd7.same (w' := V2.drew) rfl) (by simp only [Array.size_setIfInBounds]; omega) (by omega)).mono ?_)
    rintro e v3 ⟨rfl, ch7, kd8⟩
    have X8 : Chg gb w v3 := by
      have := ch7
      exact ⟨this.os.trans X7.os, this.tape.trans X7.tape, this.output.trans X7.output, Nat.le_trans X7.size this.size, fun i hi hlt => (this.block i (by omega) (Nat.lt_of_lt_of_le hlt X7.size)).trans (X7.block i hi hlt)⟩
    have kb8 := (kb7.same (w' := V2.drew) rfl).chg ch7 (Ne.symm hgh)
    have ks8 := (ks7.same (w' := V2.drew) rfl).chg ch7 hgh2
    clear s2 sa2 ch7 g2
    go_wp2_with fail
    refine NoPanic.normal ?_
    go_wp2_with fail
    generalize v3 = V3 at *
    have s3 := run_cut (some ⟨h', 0, none⟩) 16 (c' + 16) 10 12 10 12 rfl rfl (by omega) (by omega) 24 Try.underlying24 size5
    have sa3 : cutA (some ⟨h', 0, none⟩) (c' + 16) 10 = some ⟨h', 10, none⟩ := by unfold cutA; rw [if_neg (by omega)]; rfl
    rw [sa3] at s3
    have g3 : ∀ d os, (Sort.grow (redrawn V3 d) os).cell? ⟨w.heap.size, 11, none⟩ = some (.int .u16 Y2) := fun d os => cell_regrown (ks8.cell 11) d os
    refine wp_region_float (S := Grw V3) [true, true, true, true, true, false] 5 (by kernel_rfl) (by kernel_rfl) (Grw.drew V3) ?_
    simp only [selQ, selN, earlyN]
    repeat (first | go_big_quiet_skip | (go_big_quiet_want; go_big_quiet_op; go_big_quiet_on))
    refine wpQuiet_nil ?_
    refine wpN_late ?_
    go_wp2_with fail
    (with_reducible refine (put16_any h' 10 _ (Y2) _ _ (kd8.same (w' := V3.drew) rfl) (by simp only [Array.size_setIfInBounds]; omega) (by omega)).mono ?_)
    rintro e v4 ⟨rfl, ch8, kd9⟩
    have X9 : Chg gb w v4 := by
      have := ch8
      exact ⟨this.os.trans X8.os, this.tape.trans X8.tape, this.output.trans X8.output, Nat.le_trans X8.size this.size, fun i hi hlt => (this.block i (by omega) (Nat.lt_of_lt_of_le hlt X8.size)).trans (X8.block i hi hlt)⟩
    have kb9 := (kb8.same (w' := V3.drew) rfl).chg ch8 (Ne.symm hgh)
    have ks9 := (ks8.same (w' := V3.drew) rfl).chg ch8 hgh2
    clear s3 sa3 ch8 g3
    go_wp2_with fail
    refine NoPanic.normal ?_
    go_wp2_with fail
    generalize v4 = V4 at *
    have s4 := run_cut (some ⟨h', 0, none⟩) 16 (c' + 16) 12 16 12 16 rfl rfl (by omega) (by omega) 24 Try.underlying24 size5
    have sa4 : cutA (some ⟨h', 0, none⟩) (c' + 16) 12 = some ⟨h', 12, none⟩ := by unfold cutA; rw [if_neg (by omega)]; rfl
    rw [sa4] at s4
    have g4 : ∀ d os, (Sort.grow (redrawn V4 d) os).cell? ⟨w.heap.size, 12, none⟩ = some (.int .u32 Y3) := fun d os => cell_regrown (ks9.cell 12) d os
    refine wp_region_float (S := Grw V4) [true, true, true, true, true, false] 5 (by kernel_rfl) (by kernel_rfl) (Grw.drew V4) ?_
    simp only [selQ, selN, earlyN]
    repeat (first | go_big_quiet_skip | (go_big_quiet_want; go_big_quiet_op; go_big_quiet_on))
    refine wpQuiet_nil ?_
    refine wpN_late ?_
    go_wp2_with fail
    (with_reducible refine (put32_any h' 12 _ (Y3) _ _ (kd9.same (w' := V4.drew) rfl) (by simp only [Array.size_setIfInBounds]; omega) (by omega)).mono ?_)
    rintro e v5 ⟨rfl, ch9, kd10⟩
    have X10 : Chg gb w v5 := by
      have := ch9
      exact ⟨this.os.trans X9.os, this.tape.trans X9.tape, this.output.trans X9.output, Nat.le_trans X9.size this.size, fun i hi hlt => (this.block i (by omega) (Nat.lt_of_lt_of_le hlt X9.size)).trans (X9.block i hi hlt)⟩
    have kb10 := (kb9.same (w' := V4.drew) rfl).chg ch9 (Ne.symm hgh)
    have ks10 := (ks9.same (w' := V4.drew) rfl).chg ch9 hgh2
    clear s4 sa4 ch9 g4
    go_wp2_with fail
    refine NoPanic.normal ?_
    have KBF := Lib.hid kb10
    have KDF := Lib.hid kd10
    clear kb10 kd10 ks10
    go_wp2_with fail
    go_ret
    have hn' := HN.out
    have hl' := HL.out
    have hFL := HFL.out
    clear HN HL HFL
    subst hn' hl' hFL
    refine ⟨h', c' + 16, 16, app', rfl, hle, X10, KBF.out, ser_rd (k := 16) (l := l ++ List.replicate (padn n) 0) (hd := [0, flag t0 4 + flag t1 2 + flag t2 1, (16 + (n : Int)) / 256, (16 + (n : Int)) % 256, Y0 / 16777216, Y0 / 65536 % 256, Y0 / 256 % 256, Y0 % 256, Y1 / 256, Y1 % 256, Y2 / 256, Y2 % 256, Y3 / 16777216, Y3 / 65536 % 256, Y3 / 256 % 256, Y3 % 256]) KDF.out hl2 hcap2 rfl ?_ ?_⟩
    · intro i hi
      match i, hi with
      | 0, _ =>
        repeat rw [Array.getElem?_setIfInBounds_ne (by omega)]
        rw [Array.getElem?_setIfInBounds_self_of_lt (by first | omega | (simp only [Array.size_setIfInBounds]; omega))]
        rfl
      | 1, _ =>
        repeat rw [Array.getElem?_setIfInBounds_ne (by omega)]
        rw [Array.getElem?_setIfInBounds_self_of_lt (by first | omega | (simp only [Array.size_setIfInBounds]; omega))]
        rfl
      | 2, _ =>
        repeat rw [Array.getElem?_setIfInBounds_ne (by omega)]
        rw [Array.getElem?_setIfInBounds_self_of_lt (by first | omega | (simp only [Array.size_setIfInBounds]; omega))]
        rfl
      | 3, _ =>
        repeat rw [Array.getElem?_setIfInBounds_ne (by omega)]
        rw [Array.getElem?_setIfInBounds_self_of_lt (by first | omega | (simp only [Array.size_setIfInBounds]; omega))]
        rfl
      | 4, _ =>
        repeat rw [Array.getElem?_setIfInBounds_ne (by omega)]
        rw [Array.getElem?_setIfInBounds_self_of_lt (by first | omega | (simp only [Array.size_setIfInBounds]; omega))]
        rfl
      | 5, _ =>
        repeat rw [Array.getElem?_setIfInBounds_ne (by omega)]
        rw [Array.getElem?_setIfInBounds_self_of_lt (by first | omega | (simp only [Array.size_setIfInBounds]; omega))]
        rfl
      | 6, _ =>
        repeat rw [Array.getElem?_setIfInBounds_ne (by omega)]
        rw [Array.getElem?_setIfInBounds_self_of_lt (by first | omega | (simp only [Array.size_setIfInBounds]; omega))]
        rfl
      | 7, _ =>
        repeat rw [Array.getElem?_setIfInBounds_ne (by omega)]
        rw [Array.getElem?_setIfInBounds_self_of_lt (by first | omega | (simp only [Array.size_setIfInBounds]; omega))]
        rfl
      | 8, _ =>
        repeat rw [Array.getElem?_setIfInBounds_ne (by omega)]
        rw [Array.getElem?_setIfInBounds_self_of_lt (by first | omega | (simp only [Array.size_setIfInBounds]; omega))]
        rfl
      | 9, _ =>
        repeat rw [Array.getElem?_setIfInBounds_ne (by omega)]
        rw [Array.getElem?_setIfInBounds_self_of_lt (by first | omega | (simp only [Array.size_setIfInBounds]; omega))]
        rfl
      | 10, _ =>
        repeat rw [Array.getElem?_setIfInBounds_ne (by omega)]
        rw [Array.getElem?_setIfInBounds_self_of_lt (by first | omega | (simp only [Array.size_setIfInBounds]; omega))]
        rfl
      | 11, _ =>
        repeat rw [Array.getElem?_setIfInBounds_ne (by omega)]
        rw [Array.getElem?_setIfInBounds_self_of_lt (by first | omega | (simp only [Array.size_setIfInBounds]; omega))]
        rfl
      | 12, _ =>
        repeat rw [Array.getElem?_setIfInBounds_ne (by omega)]
        rw [Array.getElem?_setIfInBounds_self_of_lt (by first | omega | (simp only [Array.size_setIfInBounds]; omega))]
        rfl
      | 13, _ =>
        repeat rw [Array.getElem?_setIfInBounds_ne (by omega)]
        rw [Array.getElem?_setIfInBounds_self_of_lt (by first | omega | (simp only [Array.size_setIfInBounds]; omega))]
        rfl
      | 14, _ =>
        repeat rw [Array.getElem?_setIfInBounds_ne (by omega)]
        rw [Array.getElem?_setIfInBounds_self_of_lt (by first | omega | (simp only [Array.size_setIfInBounds]; omega))]
        rfl
      | 15, _ =>
        rw [Array.getElem?_setIfInBounds_self_of_lt (by first | omega | (simp only [Array.size_setIfInBounds]; omega))]
        rfl
      | i + 16, hi => exact absurd hi (by omega)
    · intro i
      rw [HCS.out]
      repeat rw [Array.getElem?_setIfInBounds_ne (by omega)]
end Go.Proofs.Ytoljdgfbkebgcaa
