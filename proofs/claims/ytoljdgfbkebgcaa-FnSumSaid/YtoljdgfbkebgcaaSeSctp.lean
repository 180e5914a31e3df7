/- SerializeTo: sctp. -/
import Derived.Test.YtoljdgfbkebgcaaSpl
import Derived.Test.YtoljdgfbkebgcaaCrc
namespace Go.Proofs.Ytoljdgfbkebgcaa
open Go.RowKit
def le4 (x : Int) : List Int := [x % 256, x / 256 % 256, x / 65536 % 256, x / 16777216]
def hd8 (S D T : Int) : List Int := [S / 256, S % 256, D / 256, D % 256, T / 16777216, T / 65536 % 256, T / 256 % 256, T % 256]
def sctpOut (b : Bool) (S D T : Int) (l : List Int) : List Int := hd8 S D T ++ (if b then le4 (crcSum (hd8 S D T ++ [0, 0, 0, 0] ++ l)) else [0, 0, 0, 0]) ++ l
theorem splice_zero (c k : Nat) (l : List Value) (i : Nat) (hi : i < k) (hk : k ≤ c + k) : (splice (zs (c + k)).toList k l).toArray[i]? = some (.int .u8 0) := by
  rw [List.getElem?_toArray, splice_lo _ _ _ _ (by simp [zs]) hi]
  simp [zs, show i < c + k by omega]
theorem methBytes (a : Addr) (w : World) : (method 307 141 (.pointer (some a)) "Bytes").run Try.prog w = .ok (137, .pointer (some a)) w := by kernel_rfl
set_option maxHeartbeats 4000000 in
set_option maxRecDepth 100000 in
theorem seSctp_any (gb : Nat) (A : Option Addr) (n c : Nat) (app : Int) (l : List Int) (S D T C : Int) (o1 o2 : Bool) (w : World) (kb : Blk w gb (bfC A n c 0 app) 144) (h : Rd .u8 w A n c l) (hA : InF (· ≠ gb) A n) (hc : c ≤ 100000) (bS : 0 ≤ S ∧ S ≤ 65535) (bD : 0 ≤ D ∧ D ≤ 65535) (bT : 0 ≤ T ∧ T ≤ 4294967295) :
    Calls Try.prog 112 #[.agg #[.slice none 0 0, .slice none 0 0, .int .u16 S, .int .u16 D, .int .u32 T, .int .u32 C], .iface 141 (.pointer (some ⟨gb, 0, none⟩)), .agg #[.bool o1, .bool o2]] w fun e w' =>
      ∃ h', e = .returned .nilIface ∧ w.heap.size ≤ h' ∧ Chg gb w w' ∧ Blk w' gb (bfC (some ⟨h', 0, none⟩) (12 + n) (c + 12) (12 : Nat) app) 144 ∧ Rd .u8 w' (some ⟨h', 0, none⟩) (12 + n) (c + 12) (sctpOut o2 S D T l) := by
  have H := Lib.hid h
  have HA := Lib.hid hA
  have K := Lib.hid kb
  have hcap := h.cap
  have hl := h.len
  have kz := kb.lt
  clear h hA kb
  go_enter Try.func112, Try.ntmps112
  go_wp2_with fail
  have B0 : Bl w ((w.alloc (.cells #[.slice none 0 0, .slice none 0 0, .int .u16 S, .int .u16 D, .int .u32 T, .int .u32 C] 95)).alloc (.cells #[.bool o1, .bool o2] 71)) := by go_grown
  have ks : Blk ((w.alloc (.cells #[.slice none 0 0, .slice none 0 0, .int .u16 S, .int .u16 D, .int .u32 T, .int .u32 C] 95)).alloc (.cells #[.bool o1, .bool o2] 71)) w.heap.size #[.slice none 0 0, .slice none 0 0, .int .u16 S, .int .u16 D, .int .u32 T, .int .u32 C] 95 := (Blk.new w _ _).alloc _
  have ko : Blk ((w.alloc (.cells #[.slice none 0 0, .slice none 0 0, .int .u16 S, .int .u16 D, .int .u32 T, .int .u32 C] 95)).alloc (.cells #[.bool o1, .bool o2] 71)) (w.heap.size + 1) #[.bool o1, .bool o2] 71 := Blk.newAt _ _ _ _ (by simp)
  generalize hW : ((w.alloc (.cells #[.slice none 0 0, .slice none 0 0, .int .u16 S, .int .u16 D, .int .u32 T, .int .u32 C] 95)).alloc (.cells #[.bool o1, .bool o2] 71)) = W at *
  have hgs : w.heap.size ≠ gb := Nat.ne_of_gt kz
  have hgo : w.heap.size + 1 ≠ gb := by omega
  have hgW : w.heap.size + 1 < W.heap.size := ko.lt
  clear hW
  (with_reducible refine (prependB gb A n c 12 12 app l W (K.out.below B0) (H.out.below B0) HA.out rfl (by omega) (by omega) hc).mono ?_)
  rintro e w1 ⟨rfl, ch1, kb1, kd1⟩
  have X1 : Chg gb w w1 := (Chg.of B0).trans ch1
  have ks1 := ks.chg ch1 hgs
  have ko1 := ko.chg ch1 hgo
  have hgh : W.heap.size ≠ gb := by omega
  have hgh2 : w.heap.size ≠ W.heap.size := by omega
  have hgh3 : w.heap.size + 1 ≠ W.heap.size := by omega
  have hle : w.heap.size ≤ W.heap.size := by omega
  have hsz := splice_size c 12 n l hl hcap
  generalize hcs : (splice (zs (c + 12)).toList 12 (l.map (Value.int .u8))).toArray = cs at *
  have HCS := Lib.hid hcs
  have zd1 := kd1.lt
  have KB1 := Lib.hid kb1
  have KS1 := Lib.hid ks1
  have KO1 := Lib.hid ko1
  clear kb1 ks1 ko1 ks ko hcs ch1
  generalize W.heap.size = h' at *
  go_wp2_with fail
  generalize w1 = W0 at *
  have s0 := run_cut (some ⟨h', 0, none⟩) 12 (c + 12) 0 2 0 2 rfl rfl (by omega) (by omega) 24 Try.underlying24 size5
  have sa0 : cutA (some ⟨h', 0, none⟩) (c + 12) 0 = some ⟨h', 0, none⟩ := by unfold cutA; rw [if_neg (by omega)]; rfl
  rw [sa0] at s0
  have g0 : ∀ d os, (Sort.grow (redrawn W0 d) os).cell? ⟨w.heap.size, 2, none⟩ = some (.int .u16 S) := fun d os => cell_regrown (KS1.out.cell 2) d os
  refine wp_region_float (S := Grw W0) [true, true, true, true, true, false] 5 (by kernel_rfl) (by kernel_rfl) (Grw.drew W0) ?_
  simp only [selQ, selN, earlyN]
  repeat (first | go_big_quiet_skip | (go_big_quiet_want; go_big_quiet_op; go_big_quiet_on))
  refine wpQuiet_nil ?_
  refine wpN_late ?_
  go_wp2_with fail
  (with_reducible refine (put16_any h' 0 _ S _ _ (kd1.same (w' := W0.drew) rfl) (by first | omega | (simp only [Array.size_setIfInBounds]; omega)) (by omega)).mono ?_)
  rintro e v0 ⟨rfl, ch2, kd2⟩
  have X2 : Chg gb w v0 := by
    have := ch2
    exact ⟨this.os.trans X1.os, this.tape.trans X1.tape, this.output.trans X1.output, Nat.le_trans X1.size this.size, fun i hi hlt => (this.block i (by omega) (Nat.lt_of_lt_of_le hlt X1.size)).trans (X1.block i hi hlt)⟩
  have KB2 := Lib.hid ((KB1.out.same (w' := W0.drew) rfl).chg ch2 (Ne.symm hgh))
  have KS2 := Lib.hid ((KS1.out.same (w' := W0.drew) rfl).chg ch2 hgh2)
  have KO2 := Lib.hid ((KO1.out.same (w' := W0.drew) rfl).chg ch2 hgh3)
  clear s0 sa0 g0 ch2
  go_wp2_with fail
  refine NoPanic.normal ?_
  go_wp2_with fail
  generalize v0 = W1 at *
  have s1 := run_cut (some ⟨h', 0, none⟩) 12 (c + 12) 2 4 2 4 rfl rfl (by omega) (by omega) 24 Try.underlying24 size5
  have sa1 : cutA (some ⟨h', 0, none⟩) (c + 12) 2 = some ⟨h', 2, none⟩ := by unfold cutA; rw [if_neg (by omega)]; rfl
  rw [sa1] at s1
  have g1 : ∀ d os, (Sort.grow (redrawn W1 d) os).cell? ⟨w.heap.size, 3, none⟩ = some (.int .u16 D) := fun d os => cell_regrown (KS2.out.cell 3) d os
  refine wp_region_float (S := Grw W1) [true, true, true, true, true, false] 5 (by kernel_rfl) (by kernel_rfl) (Grw.drew W1) ?_
  simp only [selQ, selN, earlyN]
  repeat (first | go_big_quiet_skip | (go_big_quiet_want; go_big_quiet_op; go_big_quiet_on))
  refine wpQuiet_nil ?_
  refine wpN_late ?_
  go_wp2_with fail
  (with_reducible refine (put16_any h' 2 _ D _ _ (kd2.same (w' := W1.drew) rfl) (by first | omega | (simp only [Array.size_setIfInBounds]; omega)) (by omega)).mono ?_)
  rintro e v1 ⟨rfl, ch3, kd3⟩
  have X3 : Chg gb w v1 := by
    have := ch3
    exact ⟨this.os.trans X2.os, this.tape.trans X2.tape, this.output.trans X2.output, Nat.le_trans X2.size this.size, fun i hi hlt => (this.block i (by omega) (Nat.lt_of_lt_of_le hlt X2.size)).trans (X2.block i hi hlt)⟩
  have KB3 := Lib.hid ((KB2.out.same (w' := W1.drew) rfl).chg ch3 (Ne.symm hgh))
  have KS3 := Lib.hid ((KS2.out.same (w' := W1.drew) rfl).chg ch3 hgh2)
  have KO3 := Lib.hid ((KO2.out.same (w' := W1.drew) rfl).chg ch3 hgh3)
  clear s1 sa1 g1 ch3
  go_wp2_with fail
  refine NoPanic.normal ?_
  go_wp2_with fail
  generalize v1 = W2 at *
  have s2 := run_cut (some ⟨h', 0, none⟩) 12 (c + 12) 4 8 4 8 rfl rfl (by omega) (by omega) 24 Try.underlying24 size5
  have sa2 : cutA (some ⟨h', 0, none⟩) (c + 12) 4 = some ⟨h', 4, none⟩ := by unfold cutA; rw [if_neg (by omega)]; rfl
  rw [sa2] at s2
  have g2 : ∀ d os, (Sort.grow (redrawn W2 d) os).cell? ⟨w.heap.size, 4, none⟩ = some (.int .u32 T) := fun d os => cell_regrown (KS3.out.cell 4) d os
  refine wp_region_float (S := Grw W2) [true, true, true, true, true, false] 5 (by kernel_rfl) (by kernel_rfl) (Grw.drew W2) ?_
  simp only [selQ, selN, earlyN]
  repeat (first | go_big_quiet_skip | (go_big_quiet_want; go_big_quiet_op; go_big_quiet_on))
  refine wpQuiet_nil ?_
  refine wpN_late ?_
  go_wp2_with fail
  (with_reducible refine (put32_any h' 4 _ T _ _ (kd3.same (w' := W2.drew) rfl) (by first | omega | (simp only [Array.size_setIfInBounds]; omega)) (by omega)).mono ?_)
  rintro e v2 ⟨rfl, ch4, kd4⟩
  have X4 : Chg gb w v2 := by
    have := ch4
    exact ⟨this.os.trans X3.os, this.tape.trans X3.tape, this.output.trans X3.output, Nat.le_trans X3.size this.size, fun i hi hlt => (this.block i (by omega) (Nat.lt_of_lt_of_le hlt X3.size)).trans (X3.block i hi hlt)⟩
  have KB4 := Lib.hid ((KB3.out.same (w' := W2.drew) rfl).chg ch4 (Ne.symm hgh))
  have KS4 := Lib.hid ((KS3.out.same (w' := W2.drew) rfl).chg ch4 hgh2)
  have KO4 := Lib.hid ((KO3.out.same (w' := W2.drew) rfl).chg ch4 hgh3)
  clear s2 sa2 g2 ch4
  have R4 : Hid (Rd .u8 v2 (some ⟨h', 0, none⟩) (12 + n) (c + 12) ([S / 256, S % 256, D / 256, D % 256, T / 16777216, T / 65536 % 256, T / 256 % 256, T % 256, 0, 0, 0, 0] ++ l)) := Lib.hid (by
    refine ser_rd (k := 12) (l := l) (hd := [S / 256, S % 256, D / 256, D % 256, T / 16777216, T / 65536 % 256, T / 256 % 256, T % 256, 0, 0, 0, 0]) kd4 hl hcap rfl ?_ ?_
    · intro i hi
      match i, hi with
      | 0, _ =>
        repeat rw [Array.getElem?_setIfInBounds_ne (by omega)]
        rw [Array.getElem?_setIfInBounds_self_of_lt (by first | omega | (simp only [Array.size_setIfInBounds]; omega))]
        rfl
      | 1, _ =>
        repeat rw [Array.getElem?_setIfInBounds_ne (by omega)]
        rw [Array.getElem?_setIfInBounds_self_of_lt (by first | omega | (simp only [Array.size_setIfInBounds]; omega))]
        rfl
      | 2, _ =>
        repeat rw [Array.getElem?_setIfInBounds_ne (by omega)]
        rw [Array.getElem?_setIfInBounds_self_of_lt (by first | omega | (simp only [Array.size_setIfInBounds]; omega))]
        rfl
      | 3, _ =>
        repeat rw [Array.getElem?_setIfInBounds_ne (by omega)]
        rw [Array.getElem?_setIfInBounds_self_of_lt (by first | omega | (simp only [Array.size_setIfInBounds]; omega))]
        rfl
      | 4, _ =>
        repeat rw [Array.getElem?_setIfInBounds_ne (by omega)]
        rw [Array.getElem?_setIfInBounds_self_of_lt (by first | omega | (simp only [Array.size_setIfInBounds]; omega))]
        rfl
      | 5, _ =>
        repeat rw [Array.getElem?_setIfInBounds_ne (by omega)]
        rw [Array.getElem?_setIfInBounds_self_of_lt (by first | omega | (simp only [Array.size_setIfInBounds]; omega))]
        rfl
      | 6, _ =>
        repeat rw [Array.getElem?_setIfInBounds_ne (by omega)]
        rw [Array.getElem?_setIfInBounds_self_of_lt (by first | omega | (simp only [Array.size_setIfInBounds]; omega))]
        rfl
      | 7, _ =>
        repeat rw [Array.getElem?_setIfInBounds_ne (by omega)]
        rw [Array.getElem?_setIfInBounds_self_of_lt (by first | omega | (simp only [Array.size_setIfInBounds]; omega))]
        rfl
      | 8, _ =>
        repeat rw [Array.getElem?_setIfInBounds_ne (by omega)]
        rw [← HCS.out]
        exact splice_zero c 12 _ 8 (by omega) (by omega)
      | 9, _ =>
        repeat rw [Array.getElem?_setIfInBounds_ne (by omega)]
        rw [← HCS.out]
        exact splice_zero c 12 _ 9 (by omega) (by omega)
      | 10, _ =>
        repeat rw [Array.getElem?_setIfInBounds_ne (by omega)]
        rw [← HCS.out]
        exact splice_zero c 12 _ 10 (by omega) (by omega)
      | 11, _ =>
        repeat rw [Array.getElem?_setIfInBounds_ne (by omega)]
        rw [← HCS.out]
        exact splice_zero c 12 _ 11 (by omega) (by omega)
      | i + 12, hi => exact absurd hi (by omega)
    · intro i
      rw [HCS.out]
      repeat rw [Array.getElem?_setIfInBounds_ne (by omega)])
  have co := KO4.out.cell
  cases o2 with
  | false =>
    go_wp2_with fail
    refine NoPanic.normal ?_
    go_wp2_with fail
    go_ret
    exact ⟨h', rfl, hle, X4, KB4.out, R4.out⟩
  | true =>
    go_wp2_with fail
    refine NoPanic.normal ?_
    go_wp2_with fail
    clear co
    generalize v2 = W3 at *
    have s3 := run_cut (some ⟨h', 0, none⟩) 12 (c + 12) 8 12 8 12 rfl rfl (by omega) (by omega) 24 Try.underlying24 size5
    have sa3 : cutA (some ⟨h', 0, none⟩) (c + 12) 8 = some ⟨h', 8, none⟩ := by unfold cutA; rw [if_neg (by omega)]; rfl
    rw [sa3] at s3
    refine wp_region_float (S := Grw W3) [true, true, true, true, false, false, false] 6 (by kernel_rfl) (by kernel_rfl) (Grw.drew W3) ?_
    simp only [selQ, selN, earlyN]
    repeat (first | go_big_quiet_skip | (go_big_quiet_want; go_big_quiet_op; go_big_quiet_on))
    refine wpQuiet_nil ?_
    have Bd : Bl W3 W3.drew := (Bl.refl W3).drew
    have hmt : ∀ V, (method 307 141 (.pointer (some ⟨gb, 0, none⟩)) "Bytes").run Try.prog V = .ok (137, .pointer (some ⟨gb, 0, none⟩)) V := fun V => methBytes _ V
    refine wpN_want rfl (fun K hK => ?_)
    go_big_op
    clear hmt
    (with_reducible refine (bytesB gb _ _ _ _ _ _ (KB4.out.below Bd)).mono ?_)
    rintro e v3 ⟨rfl, q, hv3⟩
    have Bq : Bl W3 v3 := by rw [hv3]; exact Bd.drewN q
    have kq := Lib.hid (kd4.same (w' := v3) (by rw [hv3]; rfl))
    have KBq := Lib.hid (KB4.out.same (w' := v3) (by rw [hv3]; rfl))
    have X5 : Chg gb w v3 := X4.trans (Chg.of Bq)
    clear hv3
    refine hK _ _ (Grw.of Bq) ?_
    clear hK K
    refine wpN_want rfl (fun K hK => ?_)
    go_big_op
    (with_reducible refine (zcrc_any _ _ _ _ _ (R4.out.below Bq) (by omega)).mono ?_)
    rintro e v4 ⟨rfl, rfl⟩
    refine hK _ _ (Grw.of Bq) ?_
    clear hK K
    refine wpN_late ?_
    have hX := crcSum_bd ([S / 256, S % 256, D / 256, D % 256, T / 16777216, T / 65536 % 256, T / 256 % 256, T % 256, 0, 0, 0, 0] ++ l)
    have hCR : Hid (crcSum (hd8 S D T ++ [0, 0, 0, 0] ++ l) = crcSum ([S / 256, S % 256, D / 256, D % 256, T / 16777216, T / 65536 % 256, T / 256 % 256, T % 256, 0, 0, 0, 0] ++ l)) := Lib.hid rfl
    generalize crcSum ([S / 256, S % 256, D / 256, D % 256, T / 16777216, T / 65536 % 256, T / 256 % 256, T % 256, 0, 0, 0, 0] ++ l) = X at *
    go_wp2_with fail
    (with_reducible refine (putLE_any h' 8 _ X _ _ kq.out (by first | omega | (simp only [Array.size_setIfInBounds]; omega)) hX).mono ?_)
    rintro e v5 ⟨rfl, ch6, kd6⟩
    have X6 : Chg gb w v5 := by
      have := ch6
      exact ⟨this.os.trans X5.os, this.tape.trans X5.tape, this.output.trans X5.output, Nat.le_trans X5.size this.size, fun i hi hlt => (this.block i (by omega) (Nat.lt_of_lt_of_le hlt X5.size)).trans (X5.block i hi hlt)⟩
    have KB6 := Lib.hid (KBq.out.chg ch6 (Ne.symm hgh))
    have KD6 := Lib.hid kd6
    clear s3 sa3 ch6 kd6
    go_wp2_with fail
    refine NoPanic.normal ?_
    go_wp2_with fail
    go_ret
    refine ⟨h', rfl, hle, X6, KB6.out, ?_⟩
    show Rd .u8 v5 _ _ _ (hd8 S D T ++ le4 (crcSum (hd8 S D T ++ [0, 0, 0, 0] ++ l)) ++ l)
    rw [hCR.out]
    exact (by
      refine ser_rd (k := 12) (l := l) (hd := [S / 256, S % 256, D / 256, D % 256, T / 16777216, T / 65536 % 256, T / 256 % 256, T % 256, X % 256, X / 256 % 256, X / 65536 % 256, X / 16777216]) KD6.out hl hcap rfl ?_ ?_
      · intro i hi
        match i, hi with
        | 0, _ =>
          repeat rw [Array.getElem?_setIfInBounds_ne (by omega)]
          rw [Array.getElem?_setIfInBounds_self_of_lt (by first | omega | (simp only [Array.size_setIfInBounds]; omega))]
          rfl
        | 1, _ =>
          repeat rw [Array.getElem?_setIfInBounds_ne (by omega)]
          rw [Array.getElem?_setIfInBounds_self_of_lt (by first | omega | (simp only [Array.size_setIfInBounds]; omega))]
          rfl
        | 2, _ =>
          repeat rw [Array.getElem?_setIfInBounds_ne (by omega)]
          rw [Array.getElem?_setIfInBounds_self_of_lt (by first | omega | (simp only [Array.size_setIfInBounds]; omega))]
          rfl
        | 3, _ =>
          repeat rw [Array.getElem?_setIfInBounds_ne (by omega)]
          rw [Array.getElem?_setIfInBounds_self_of_lt (by first | omega | (simp only [Array.size_setIfInBounds]; omega))]
          rfl
        | 4, _ =>
          repeat rw [Array.getElem?_setIfInBounds_ne (by omega)]
          rw [Array.getElem?_setIfInBounds_self_of_lt (by first | omega | (simp only [Array.size_setIfInBounds]; omega))]
          rfl
        | 5, _ =>
          repeat rw [Array.getElem?_setIfInBounds_ne (by omega)]
          rw [Array.getElem?_setIfInBounds_self_of_lt (by first | omega | (simp only [Array.size_setIfInBounds]; omega))]
          rfl
        | 6, _ =>
          repeat rw [Array.getElem?_setIfInBounds_ne (by omega)]
          rw [Array.getElem?_setIfInBounds_self_of_lt (by first | omega | (simp only [Array.size_setIfInBounds]; omega))]
          rfl
        | 7, _ =>
          repeat rw [Array.getElem?_setIfInBounds_ne (by omega)]
          rw [Array.getElem?_setIfInBounds_self_of_lt (by first | omega | (simp only [Array.size_setIfInBounds]; omega))]
          rfl
        | 8, _ =>
          repeat rw [Array.getElem?_setIfInBounds_ne (by omega)]
          rw [Array.getElem?_setIfInBounds_self_of_lt (by first | omega | (simp only [Array.size_setIfInBounds]; omega))]
          rfl
        | 9, _ =>
          repeat rw [Array.getElem?_setIfInBounds_ne (by omega)]
          rw [Array.getElem?_setIfInBounds_self_of_lt (by first | omega | (simp only [Array.size_setIfInBounds]; omega))]
          rfl
        | 10, _ =>
          repeat rw [Array.getElem?_setIfInBounds_ne (by omega)]
          rw [Array.getElem?_setIfInBounds_self_of_lt (by first | omega | (simp only [Array.size_setIfInBounds]; omega))]
          rfl
        | 11, _ =>
          rw [Array.getElem?_setIfInBounds_self_of_lt (by first | omega | (simp only [Array.size_setIfInBounds]; omega))]
          rfl
        | i + 12, hi => exact absurd hi (by omega)
      · intro i
        rw [HCS.out]
        repeat rw [Array.getElem?_setIfInBounds_ne (by omega)])
end Go.Proofs.Ytoljdgfbkebgcaa
