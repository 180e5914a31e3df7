/- spec.Read: sctpsack, where there is one. -/
import Derived.Test.YtoljdgfbkebgcaaPq10
import Derived.Test.YtoljdgfbkebgcaaPq07
import Derived.Test.YtoljdgfbkebgcaaPq03
import Derived.Test.YtoljdgfbkebgcaaPq08
import Derived.Test.YtoljdgfbkebgcaaPq04
import Derived.Test.YtoljdgfbkebgcaaPp10
import Derived.Test.YtoljdgfbkebgcaaPp11
import Derived.Test.YtoljdgfbkebgcaaPq06
import Derived.LoopTactic
namespace Go.Proofs.Ytoljdgfbkebgcaa
open Go.RowKit
set_option linter.unusedVariables false
theorem u31s : Try.prog.underlying 31 = some (.slice 26) := by kernel_rfl
theorem u33s : Try.prog.underlying 33 = some (.slice 57) := by kernel_rfl
theorem fours_at (l : List Int) (q : Nat) : ∀ j, j < q → (fours l q).getD j 0 = be (sub l (16 + 4 * j) (20 + 4 * j)) := by
  induction q with
  | zero => intro j hj; omega
  | succ q ih =>
    intro j hj
    rw [fours, List.getD_eq_getElem?_getD]
    by_cases h : j < q
    · rw [List.getElem?_append_left (by rw [fours_len]; exact h), ← List.getD_eq_getElem?_getD]
      exact ih j h
    · obtain rfl : j = q := by omega
      rw [List.getElem?_append_right (by rw [fours_len]; omega), fours_len, Nat.sub_self]
      rfl
theorem sacPs_at (l : List Int) (q j : Nat) (hj : j < q) : (sacPs l q).getD j Prt.nil = ⟨[1, be (sub l (16 + 4 * j) (20 + 4 * j))], []⟩ := by
  rw [← fours_at l q j hj]
  unfold sacPs
  simp [List.getD_eq_getElem?_getD, List.getElem?_eq_getElem (show j < (fours l q).length by rw [fours_len]; exact hj)]
set_option maxHeartbeats 4000000 in
set_option maxRecDepth 100000 in
theorem srSac_some (l : List Int) (hl : By l) (h4' : 4 ≤ chL l) (hup : up4 (chL l) ≤ l.length) (hn2 : l.length ≤ 2147483647) (q : Nat) (hV16 : chL l = 16 + 4 * q) (hgz : be (sub l 12 14) = 0) (hq : be (sub l 14 16) = (q : Int)) (hk : kindOf (l.getD 0 0) = ⟨#[115, 99, 116, 112, 115, 97, 99, 107]⟩) :
    SpecAt ⟨#[115, 99, 116, 112, 115, 97, 99, 107]⟩ l ⟨[l.getD 0 0, l.getD 1 0, be (sub l 2 4), (up4 (chL l) : Int), be (sub l 4 8), be (sub l 8 12), 0, (q : Int)], [], sacPs l q, sub l (up4 (chL l)) l.length⟩ true true := by
  intro A n c B w h hA hBw
  have u4 : chL l ≤ up4 (chL l) := by unfold up4; omega
  have hlen := h.len
  have h4 : 4 ≤ n := by omega
  have h5 : n ≤ 2147483647 := by omega
  have hcap := h.cap
  have HH := Lib.hid h
  have HA := Lib.hid hA
  have s1 := run_cut A n c 2 4 2 4 rfl rfl (by omega) (by omega) 24 Try.underlying24 size5
  have s2 := run_cut_l A n c (up4 (chL l)) _ rfl (by omega) 24 Try.underlying24 size5
  have s3 := run_cut A n c 4 (chL l) 4 (be (sub l 2 4)) rfl (chL_int l hl) h4' (by omega) 24 Try.underlying24 size5
  have R1 := Lib.hid (h.cutm 2 4 2 (by omega) (by omega))
  have HB := Lib.hid hl
  have b1 := be_bd2 (sub l 2 4) (hl.sub _ _) (by rw [sub_length _ _ _ (by omega)])
  have b0 := hl.getD 0
  have b0' := hl.getD 1
  have e1 := chL_int l hl
  have b16 : 16 ≤ be (sub l 2 4) := by omega
  have bL1 : be (sub l 2 4) ≤ 16 + 4 * (q : Int) := by omega
  have bL2 : 16 + 4 * (q : Int) ≤ be (sub l 2 4) := by omega
  have hqn : 16 + 4 * q ≤ n := by omega
  have hqn' : 16 + 4 * (q : Int) ≤ (n : Int) := by omega
  have g0 := be_bd2 (sub l 12 14) (hl.sub _ _) (by rw [sub_length _ _ _ (by omega)])
  have g1 := be_bd2 (sub l 14 16) (hl.sub _ _) (by rw [sub_length _ _ _ (by omega)])
  have q0 := run_cut A n c 4 8 4 8 rfl rfl (by omega) (by omega) 24 Try.underlying24 size5
  have P0 := Lib.hid (h.cutm 4 8 4 (by omega) (by omega))
  have q1 := run_cut A n c 8 12 8 12 rfl rfl (by omega) (by omega) 24 Try.underlying24 size5
  have P1 := Lib.hid (h.cutm 8 12 4 (by omega) (by omega))
  have q2 := run_cut A n c 12 14 12 14 rfl rfl (by omega) (by omega) 24 Try.underlying24 size5
  have P2 := Lib.hid (h.cutm 12 14 2 (by omega) (by omega))
  have q3 := run_cut A n c 14 16 14 16 rfl rfl (by omega) (by omega) 24 Try.underlying24 size5
  have P3 := Lib.hid (h.cutm 14 16 2 (by omega) (by omega))
  have HGZ := Lib.hid hgz
  have HQ := Lib.hid hq
  obtain ⟨ps, hps⟩ : ∃ ps, ps = sacPs l q := ⟨_, rfl⟩
  have HLEN : Hid (ps.length = q) := Lib.hid (by rw [hps, sacPs_len])
  have HPE : Hid (∀ j, j < q → ps.getD j Prt.nil = ⟨[1, be (sub l (16 + 4 * j) (20 + 4 * j))], []⟩) := Lib.hid (fun j hj => by rw [hps]; exact sacPs_at l q j hj)
  rw [← hps]
  clear hgz hq hps hV16
  have b2 : 4 ≤ be (sub l 2 4) := by omega
  have b3 : be (sub l 2 4) ≤ (n : Int) := by omega
  have e2 : (be (sub l 2 4) + 3) / 4 * 4 = (up4 (chL l) : Int) := by rw [e1]; unfold up4; omega
  have b4 : (up4 (chL l) : Int) ≤ (n : Int) := by omega
  obtain ⟨g, o, rfl, hg, hc⟩ := h.at (by omega)
  have d0 := hc 0 (by omega)
  have d1 := hc 1 (by omega)
  simp only [Nat.add_zero] at d0
  have HK := Lib.hid hk
  generalize l.getD 0 0 = x0 at *
  generalize l.getD 1 0 = x1 at *
  generalize up4 (chL l) = U at *
  generalize chL l = V at *
  clear h hn2 hc hl hk e1 hA
  go_enter Try.func43, Try.ntmps43
  go_wp2_with fail
  (with_reducible refine (num_any _ _ _ _ _ (R1.out.below (by go_grown)) (HB.out.sub 2 4) (by omega) (by omega)).mono ?_)
  rintro e w1 ⟨rfl, rfl⟩
  generalize G2 : be (sub l 2 4) = L at *
  go_wp2_with fail
  (with_reducible refine (sup_any _ (by omega) (by omega) _).mono ?_)
  rintro e w1 ⟨rfl, rfl⟩
  rw [e2]
  go_wp2_with fail
  (with_reducible refine (kind_any _ _).mono ?_)
  rintro e w1 ⟨rfl, hb1⟩
  rw [HK.out]
  have kr := Blk.keep hb1 (Blk.new w _ _)
  have cr := kr.cell
  have fr := kr.frozen
  have zr := kr.lt
  have B1 : Bl w w1 := Bl.trans (by go_grown) hb1
  have d0' := (B1.cell (p := ⟨g, o, none⟩) hg).trans d0
  have d1' := (B1.cell (p := ⟨g, o + 1, none⟩) hg).trans d1
  have zg : g < w1.heap.size := Nat.lt_of_lt_of_le hg B1.size
  have HX := Lib.hid HH
  clear d0 d1 hb1
  go_wp2_with fail
  go_region
  · have B2 : Bl w (((w1.alloc (.cells #[.int .u64 x0, .int .u64 x1, .int .u64 L, .int .u64 U] 26)).alloc (.cells #[.slice (some ⟨w1.heap.size, 0, none⟩) 4 4, .slice none 0 0, .slice none 0 0, .slice (cutA (some ⟨g, o, none⟩) c U) (n - U) (c - U)] 35)).drew) := ((B1.alloc (by (try simp); omega) _).alloc (by (try simp); omega) _).drew
    have kr2 : Blk (((w1.alloc (.cells #[.int .u64 x0, .int .u64 x1, .int .u64 L, .int .u64 U] 26)).alloc (.cells #[.slice (some ⟨w1.heap.size, 0, none⟩) 4 4, .slice none 0 0, .slice none 0 0, .slice (cutA (some ⟨g, o, none⟩) c U) (n - U) (c - U)] 35)).drew) w.heap.size #[.slice none 0 0, .slice none 0 0, .slice none 0 0, .slice none 0 0] 35 := (((kr.alloc _).alloc _).same rfl)
    have kn : Blk (((w1.alloc (.cells #[.int .u64 x0, .int .u64 x1, .int .u64 L, .int .u64 U] 26)).alloc (.cells #[.slice (some ⟨w1.heap.size, 0, none⟩) 4 4, .slice none 0 0, .slice none 0 0, .slice (cutA (some ⟨g, o, none⟩) c U) (n - U) (c - U)] 35)).drew) w1.heap.size #[.int .u64 x0, .int .u64 x1, .int .u64 L, .int .u64 U] 26 := (((Blk.newAt w1 #[.int .u64 x0, .int .u64 x1, .int .u64 L, .int .u64 U] 26 w1.heap.size rfl).alloc (.cells #[.slice (some ⟨w1.heap.size, 0, none⟩) 4 4, .slice none 0 0, .slice none 0 0, .slice (cutA (some ⟨g, o, none⟩) c U) (n - U) (c - U)] 35)).same rfl)
    have kl : Blk (((w1.alloc (.cells #[.int .u64 x0, .int .u64 x1, .int .u64 L, .int .u64 U] 26)).alloc (.cells #[.slice (some ⟨w1.heap.size, 0, none⟩) 4 4, .slice none 0 0, .slice none 0 0, .slice (cutA (some ⟨g, o, none⟩) c U) (n - U) (c - U)] 35)).drew) (w1.heap.size + 1) #[.slice (some ⟨w1.heap.size, 0, none⟩) 4 4, .slice none 0 0, .slice none 0 0, .slice (cutA (some ⟨g, o, none⟩) c U) (n - U) (c - U)] 35 := ((Blk.newAt (w1.alloc (.cells #[.int .u64 x0, .int .u64 x1, .int .u64 L, .int .u64 U] 26)) #[.slice (some ⟨w1.heap.size, 0, none⟩) 4 4, .slice none 0 0, .slice none 0 0, .slice (cutA (some ⟨g, o, none⟩) c U) (n - U) (c - U)] 35 (w1.heap.size + 1) (by simp)).same rfl)
    have n1 : w1.heap.size ≠ (w1.heap.size + 1) := by omega
    have n2 : w.heap.size < w1.heap.size := by omega
    have n3 : w.heap.size < (w1.heap.size + 1) := by omega
    clear cr fr
    generalize ((w1.alloc (.cells #[.int .u64 x0, .int .u64 x1, .int .u64 L, .int .u64 U] 26)).alloc (.cells #[.slice (some ⟨w1.heap.size, 0, none⟩) 4 4, .slice none 0 0, .slice none 0 0, .slice (cutA (some ⟨g, o, none⟩) c U) (n - U) (c - U)] 35)).drew = W at *
    generalize H2 : (w1.heap.size + 1) = gl at *
    generalize H1 : w1.heap.size = gn at *
    have cr := kr2.cell
    have fr := kr2.frozen
    have zr2 := kr2.lt
    have cl := kl.cell
    have fl := kl.frozen
    have zl := kl.lt
    have zn := kn.lt
    clear H1 H2
    go_wp2_with fail
    refine wp_region_plan (S := Grw W) [([0, 1, 4, 5], 2), ([3], 6)] [7, 8, 9] (by kernel_rfl) (by kernel_rfl) (Grw.drew W) ?_
    have Bd : Bl W W.drew := (Bl.refl W).drew
    refine wpGr_cons ?_
    simp only [getL, pickL, List.cons_append, List.nil_append]
    repeat (first | go_big_quiet_skip | (go_big_quiet_want; go_big_quiet_op; go_big_quiet_on))
    refine wpQuiet_nil ?_
    refine wpAct_want rfl (fun K hK => ?_)
    go_big_op
    (with_reducible refine (num_any _ _ _ _ _ (P2.out.below (B2.trans Bd)) (HB.out.sub 12 14) (by omega) (by omega)).mono ?_)
    rintro e w2 ⟨rfl, rfl⟩
    rw [HGZ.out]
    refine hK _ _ (Grw.of Bd) ?_
    clear hK K
    refine wpGr_cons ?_
    simp only [getL, pickL, List.cons_append, List.nil_append]
    repeat (first | go_big_quiet_skip | (go_big_quiet_want; go_big_quiet_op; go_big_quiet_on))
    refine wpQuiet_nil ?_
    refine wpAct_want rfl (fun K hK => ?_)
    go_big_op
    (with_reducible refine (num_any _ _ _ _ _ (P3.out.below (B2.trans Bd)) (HB.out.sub 14 16) (by omega) (by omega)).mono ?_)
    rintro e w2 ⟨rfl, rfl⟩
    rw [HQ.out]
    refine hK _ _ (Grw.of Bd) ?_
    clear hK K
    refine wpGr_nil ?_
    simp only [getL, pickL, List.cons_append, List.nil_append]
    repeat (first | go_big_quiet_skip | (go_big_quiet_want; go_big_quiet_op; go_big_quiet_on))
    refine wpQuiet_nil ?_
    have kr2' := kr2.same (w' := W.drew) rfl
    have kl2' := kl.same (w' := W.drew) rfl
    have kn2' := kn.same (w' := W.drew) rfl
    have B2' := B2.trans Bd
    have cr' := kr2'.cell
    have fr' := kr2'.frozen
    have zr' := kr2'.lt
    have cl' := kl2'.cell
    have fl' := kl2'.frozen
    have zl' := kl2'.lt
    clear cr fr cl fl zl zr2 zn Bd
    refine NoPanic.normal ?_
    go_wp2_with fail
    generalize W.drew = WD at *
    have kl0 : ∀ d os, (Sort.grow (redrawn WD d) os).cell? ⟨gl, 0, none⟩ = some (.slice (some ⟨gn, 0, none⟩) 4 4) := fun d os => cell_regrown (kl2'.cell 0) d os
    refine wp_region_float (S := Grw WD) [true, true, true, true, false, true, true, false, true, true, true, true, false, false, false, false] 13 (by kernel_rfl) (by kernel_rfl) (Grw.drew WD) ?_
    simp only [selQ, selN, earlyN]
    repeat (first | go_big_quiet_skip | (go_big_quiet_want; go_big_quiet_op; go_big_quiet_on))
    refine wpQuiet_nil ?_
    have Bd : Bl WD WD.drew := (Bl.refl WD).drew
    refine wpN_want rfl (fun K hK => ?_)
    go_big_op
    (with_reducible refine (num_any _ _ _ _ _ (P0.out.below (B2'.trans Bd)) (HB.out.sub 4 8) (by omega) (by omega)).mono ?_)
    rintro e w2 ⟨rfl, rfl⟩
    refine hK _ _ (Grw.of Bd) ?_
    clear hK K
    refine wpN_want rfl (fun K hK => ?_)
    go_big_op
    (with_reducible refine (num_any _ _ _ _ _ (P1.out.below (B2'.trans Bd)) (HB.out.sub 8 12) (by omega) (by omega)).mono ?_)
    rintro e w2 ⟨rfl, rfl⟩
    refine hK _ _ (Grw.of Bd) ?_
    clear hK K
    refine wpN_want rfl (fun K hK => ?_)
    go_big_op
    have X3 : Bl WD (WD.alloc (.cells #[.int .u64 (be (sub l 4 8)), .int .u64 (be (sub l 8 12)), .int .u64 0, .int .u64 (q : Int)] 26)).drew := ((Bl.refl WD).trans (by go_grown)).drew
    refine hK _ _ (Grw.of X3) ?_
    clear hK K
    refine wpN_late ?_
    have ow := kn2'.own (B := w.heap.size) (Nat.le_of_lt n2) rfl (by show 4 ≤ maxLen; decide)
    have OW := Lib.hid ((ow.alloc (.cells #[.int .u64 (be (sub l 4 8)), .int .u64 (be (sub l 8 12)), .int .u64 0, .int .u64 (q : Int)] 26)).drew)
    have BX := B2'.trans X3
    clear ow
    refine wpList_app rfl _ _ 31 26 (.int .u64 0) 1 8 w.heap.size rfl u31s info26 rfl (by decide) (by decide) (.slice (some ⟨gn, 0, none⟩) 4 4) 4 _ _ 4 _ _ rfl rfl OW.out ((Blk.src (Blk.new WD #[.int .u64 (be (sub l 4 8)), .int .u64 (be (sub l 8 12)), .int .u64 0, .int .u64 (q : Int)] 26) 4 1 rfl (fun u hu => by simp at hu; rcases hu with rfl | rfl | rfl | rfl <;> rfl)).below ((Bl.refl _).drew)) (by omega) BX.size ?_
    intro A5 c5 w3 hp
    have hgl : (Value.slice (some ⟨gn, 0, none⟩) 4 4).ownBlock ≠ some gl := by simp [Value.ownBlock]; omega
    have hgr : (Value.slice (some ⟨gn, 0, none⟩) 4 4).ownBlock ≠ some w.heap.size := by simp [Value.ownBlock]; omega
    have kl3 := hp.blk (kl2'.below X3) hgl
    have kr3 := hp.blk (kr2'.below X3) hgr
    have B4 := hp.bl OW.out BX
    obtain ⟨g5, cs, rfl, hg5, k5, hcs1, hcs2, hcs⟩ := own_split hp.own (by omega)
    have m1 := k5.ne kl3 (by decide)
    have m2 := k5.ne kr3 (by decide)
    have hv3 : Hid (NumV (· = g5) w3 (.slice (some ⟨g5, 0, none⟩) 8 c5) [x0, x1, L, (U : Int), be (sub l 4 8), be (sub l 8 12), 0, (q : Int)]) := Lib.hid (k5.numsV (F := (· = g5)) rfl [x0, x1, L, (U : Int), be (sub l 4 8), be (sub l 8 12), 0, (q : Int)] rfl (by omega) (fun i hi => by
      have h := hcs i hi
      match i, hi with
      | 0, _ => exact h
      | 1, _ => exact h
      | 2, _ => exact h
      | 3, _ => exact h
      | 4, _ => exact h
      | 5, _ => exact h
      | 6, _ => exact h
      | 7, _ => exact h
      | i + 8, hi => simp at hi; omega))
    have z5 := k5.lt
    have cl3 := kl3.cell
    have fl3 := kl3.frozen
    have zl3 := kl3.lt
    have cr3 := kr3.cell
    have fr3 := kr3.frozen
    have zr3 := kr3.lt
    clear cr' fr' zr' cl' fl' zl' kr2' kl2' kn2' hp kl0 hcs hcs1 hcs2 k5 OW BX X3 Bd B2'
    go_wp2_with fail
    refine NoPanic.normal ?_
    go_wp2_with fail
    have hgne : w.heap.size ≠ gl := Nat.ne_of_lt n3
    have kl4 := kl3.set 0 (.slice (some ⟨g5, 0, none⟩) 8 c5)
    simp only [List.setIfInBounds_toArray, List.set_cons_zero] at kl4
    have kr4 := kr3.far (p := ⟨gl, 0, none⟩) hgne (.slice (some ⟨g5, 0, none⟩) 8 c5)
    have hv4 := Lib.hid (hv3.out.keepF ((KeepF.refl _ w3).setCell (p := ⟨gl, 0, none⟩) (by show ¬ gl = g5; exact Ne.symm m1) (.slice (some ⟨g5, 0, none⟩) 8 c5)))
    have B5 : Bl w (w3.setCell ⟨gl, 0, none⟩ (.slice (some ⟨g5, 0, none⟩) 8 c5)) := Below.setCell B4 (Nat.le_of_lt n3) _
    have z54 : g5 < (w3.setCell ⟨gl, 0, none⟩ (.slice (some ⟨g5, 0, none⟩) 8 c5)).heap.size := by simpa using z5
    clear cl3 fl3 zl3 cr3 fr3 zr3 kl3 kr3 B4 hv3 z5 n1
    generalize w3.setCell ⟨gl, 0, none⟩ (.slice (some ⟨g5, 0, none⟩) 8 c5) = W4 at *
    have zl4 := kl4.lt
    go_loopw [293] (fun i wr => Hid (∃ (j : Nat) (v : Value), j ≤ q ∧ i = .int .i64 j ∧ Bl w wr ∧ W4.heap.size ≤ wr.heap.size ∧ Blk wr w.heap.size #[.slice none 0 0, .slice none 0 0, .slice none 0 0, .slice none 0 0] 35 ∧ Blk wr gl #[.slice (some ⟨g5, 0, none⟩) 8 c5, .slice none 0 0, v, .slice (cutA (some ⟨g, o, none⟩) c U) (n - U) (c - U)] 35 ∧ v.ownBlock ≠ some gl ∧ PRow (fun k => W4.heap.size ≤ k) W4.heap.size wr v (ps.take j) ∧ NumV (· = g5) wr (.slice (some ⟨g5, 0, none⟩) 8 c5) [x0, x1, L, (U : Int), be (sub l 4 8), be (sub l 8 12), 0, (q : Int)])) (fun i _ => q - (intOf i).toNat)
    case atStart => exact Lib.hid ⟨0, .slice none 0 0, by omega, rfl, B5, Nat.le_refl _, kr4, kl4, by simp [Value.ownBlock], by simpa using PRow.nil _ _ _, hv4.out⟩
    case round =>
      obtain ⟨j, v, hj, rfl, hb, hsz, krr, klr, hvg, hpr, hv⟩ := hrel.out
      clear hrel kr4 kl4
      obtain ⟨A6, c6, rfl⟩ := hpr.form
      have hlt : (ps.take j).length = j := by rw [List.length_take]; have := HLEN.out; omega
      rw [hlt] at klr hvg hpr
      have HPR := Lib.hid hpr
      have HV := Lib.hid hv
      have HKL := Lib.hid klr
      have HKR := Lib.hid krr
      have HB2 := Lib.hid hb
      by_cases hjq : j = q
      · have cr := krr.cell
        have fr := krr.frozen
        have zr := krr.lt
        have cl := klr.cell
        clear hpr hv klr krr hb
        go_wp2_with fail
        have hpt : ps.take q = ps := by rw [← HLEN.out]; exact List.take_length
        have HPP := HPR.out
        rw [hjq, hpt] at HPP
        have hPV := HPP.parts (fun k h1 _ => h1)
        have hkf : KeepF (fun k => W4.heap.size ≤ k) wr ((((wr.setCell ⟨w.heap.size, 0, none⟩ (.slice (some ⟨g5, 0, none⟩) 8 c5)).setCell ⟨w.heap.size, 1, none⟩ (.slice none 0 0)).setCell ⟨w.heap.size, 2, none⟩ (.slice A6 q c6)).setCell ⟨w.heap.size, 3, none⟩ (.slice (cutA (some ⟨g, o, none⟩) c U) (n - U) (c - U))) := ((((KeepF.refl _ wr).setCell (p := ⟨w.heap.size, 0, none⟩) (by show ¬ (W4.heap.size ≤ w.heap.size); omega) (.slice (some ⟨g5, 0, none⟩) 8 c5)).setCell (p := ⟨w.heap.size, 1, none⟩) (by show ¬ (W4.heap.size ≤ w.heap.size); omega) (.slice none 0 0)).setCell (p := ⟨w.heap.size, 2, none⟩) (by show ¬ (W4.heap.size ≤ w.heap.size); omega) (.slice A6 q c6)).setCell (p := ⟨w.heap.size, 3, none⟩) (by show ¬ (W4.heap.size ≤ w.heap.size); omega) (.slice (cutA (some ⟨g, o, none⟩) c U) (n - U) (c - U))
        have hkn : KeepF (· = g5) wr ((((wr.setCell ⟨w.heap.size, 0, none⟩ (.slice (some ⟨g5, 0, none⟩) 8 c5)).setCell ⟨w.heap.size, 1, none⟩ (.slice none 0 0)).setCell ⟨w.heap.size, 2, none⟩ (.slice A6 q c6)).setCell ⟨w.heap.size, 3, none⟩ (.slice (cutA (some ⟨g, o, none⟩) c U) (n - U) (c - U))) := ((((KeepF.refl _ wr).setCell (p := ⟨w.heap.size, 0, none⟩) (by show ¬ (w.heap.size = g5); exact Ne.symm m2) (.slice (some ⟨g5, 0, none⟩) 8 c5)).setCell (p := ⟨w.heap.size, 1, none⟩) (by show ¬ (w.heap.size = g5); exact Ne.symm m2) (.slice none 0 0)).setCell (p := ⟨w.heap.size, 2, none⟩) (by show ¬ (w.heap.size = g5); exact Ne.symm m2) (.slice A6 q c6)).setCell (p := ⟨w.heap.size, 3, none⟩) (by show ¬ (w.heap.size = g5); exact Ne.symm m2) (.slice (cutA (some ⟨g, o, none⟩) c U) (n - U) (c - U))
        have hPF := hPV.keepF hkf
        have hNF := HV.out.keepF hkn
        have BF : Bl w (((((wr.setCell ⟨w.heap.size, 0, none⟩ (.slice (some ⟨g5, 0, none⟩) 8 c5)).setCell ⟨w.heap.size, 1, none⟩ (.slice none 0 0)).setCell ⟨w.heap.size, 2, none⟩ (.slice A6 q c6)).setCell ⟨w.heap.size, 3, none⟩ (.slice (cutA (some ⟨g, o, none⟩) c U) (n - U) (c - U)))) := (((Below.setCell HB2.out (Nat.le_refl _) _).setCell (Nat.le_refl _) _).setCell (Nat.le_refl _) _).setCell (Nat.le_refl _) _
        have kf := (((HKR.out.set 0 (.slice (some ⟨g5, 0, none⟩) 8 c5)).set 1 (.slice none 0 0)).set 2 (.slice A6 q c6)).set 3 (.slice (cutA (some ⟨g, o, none⟩) c U) (n - U) (c - U))
        have cf := kf.cell
        clear kf hPV hkf hkn
        generalize ((((wr.setCell ⟨w.heap.size, 0, none⟩ (.slice (some ⟨g5, 0, none⟩) 8 c5)).setCell ⟨w.heap.size, 1, none⟩ (.slice none 0 0)).setCell ⟨w.heap.size, 2, none⟩ (.slice A6 q c6)).setCell ⟨w.heap.size, 3, none⟩ (.slice (cutA (some ⟨g, o, none⟩) c U) (n - U) (c - U))) = WF at *
        refine bodyPost_ret (v := .tuple #[.agg #[.slice (some ⟨g5, 0, none⟩) 8 c5, .slice none 0 0, .slice A6 q c6, .slice (cutA (some ⟨g, o, none⟩) c U) (n - U) (c - U)], .bool true, .bool true]) (by simp [results, Try.results43, go_sem, cf]) rfl ?_
        subst hlen G2
        exact ⟨_, rfl, ⟨_, _, _, _, rfl, hNF.mono (fun k hk => .inr (by rw [hk]; exact hg5)), DataV.nil _ _, hPF.mono (fun k hk => .inr (by omega)), ((HH.out.below BF).cut U l.length (by omega) (by omega)).bytV (cutA_inF (HA.out.mono fun _ h => .inl h) (fun _ => by omega)) (HB.out.sub _ _)⟩, BF⟩
      · have hjq' : (j : Int) < (q : Int) := by omega
        have s5 : ∀ W, (Instr.slice 24 (.slice (some ⟨g, o, none⟩) n c) (some (.int .i64 (16 + 4 * (j : Int)))) (some (.int .i64 (16 + 4 * (j : Int) + 4))) none).run Try.prog W = .ok (.slice (cutA (some ⟨g, o, none⟩) c (16 + 4 * j)) 4 (c - (16 + 4 * j))) W := fun W => by
          have := run_cut (some ⟨g, o, none⟩) n c (16 + 4 * j) (20 + 4 * j) (16 + 4 * (j : Int)) (16 + 4 * (j : Int) + 4) (by omega) (by omega) (by omega) (by omega) 24 Try.underlying24 size5 W
          rwa [show 20 + 4 * j - (16 + 4 * j) = 4 by omega] at this
        have RY := Lib.hid ((HH.out.cutm (16 + 4 * j) (20 + 4 * j) 4 (by omega) (by omega)).below hb)
        have HYE := Lib.hid (HPE.out j (by omega))
        have BY := HB.out.sub (16 + 4 * j) (20 + 4 * j)
        have HBY := Lib.hid BY
        have hownr : ∀ k, (Value.slice A6 j c6).ownBlock = some k → W4.heap.size ≤ k ∧ k < wr.heap.size := fun k hk => by
          obtain ⟨_, ho, _⟩ := HPR.out
          exact ho.lt k hk
        have hgr : gl < wr.heap.size := HKL.out.lt
        generalize hYY : be (sub l (16 + 4 * j) (20 + 4 * j)) = Y at *
        clear hpr hv klr krr hb BY
        go_wp2_with fail
        have q0 : ∀ d os, (Sort.grow (redrawn wr d) os).cell? ⟨gl, 2, none⟩ = some (.slice A6 j c6) := fun d os => cell_regrown (HKL.out.cell 2) d os
        refine wp_region_float (S := Grw wr) [true, true, true, true, true, true, true, false, false, false, false, false, false, false] 11 (by kernel_rfl) (by kernel_rfl) (Grw.drew wr) ?_
        simp only [selQ, selN, earlyN]
        repeat (first | go_big_quiet_skip | (go_big_quiet_want; go_big_quiet_op; go_big_quiet_on))
        refine wpQuiet_nil ?_
        clear q0 s5
        have Bd : Bl wr wr.drew := (Bl.refl wr).drew
        refine wpN_want rfl (fun K hK => ?_)
        go_big_op
        (with_reducible refine (num_any _ _ _ _ _ (RY.out.below Bd) HBY.out (by omega) (by omega)).mono ?_)
        rintro e w6 ⟨rfl, rfl⟩
        rw [hYY]
        refine hK _ _ (Grw.of Bd) ?_
        clear hK K
        refine wpN_want rfl (fun K hK => ?_)
        go_big_op
        have X1 : Bl wr (wr.alloc (.cells #[.int .u64 1, .int .u64 Y] 26)).drew := ((Bl.refl wr).trans (by go_grown)).drew
        refine hK _ _ (Grw.of X1) ?_
        clear hK K
        refine wpN_want rfl (fun K hK => ?_)
        go_big_op
        refine hK _ _ (Grw.of X1) ?_
        clear hK K
        refine wpN_want rfl (fun K hK => ?_)
        go_big_op
        have B7 : Bl wr ((wr.alloc (.cells #[.int .u64 1, .int .u64 Y] 26)).alloc (.cells #[.slice (some ⟨wr.heap.size, 0, none⟩) 2 2, .slice none 0 0] 57)).drew := ((Bl.refl wr).trans (by go_grown)).drew
        have kn1 : Blk ((wr.alloc (.cells #[.int .u64 1, .int .u64 Y] 26)).alloc (.cells #[.slice (some ⟨wr.heap.size, 0, none⟩) 2 2, .slice none 0 0] 57)).drew wr.heap.size #[.int .u64 1, .int .u64 Y] 26 := ((Blk.new wr _ _).alloc _).same rfl
        have kn7 : Blk ((wr.alloc (.cells #[.int .u64 1, .int .u64 Y] 26)).alloc (.cells #[.slice (some ⟨wr.heap.size, 0, none⟩) 2 2, .slice none 0 0] 57)).drew (wr.heap.size + 1) #[.slice (some ⟨wr.heap.size, 0, none⟩) 2 2, .slice none 0 0] 57 := (Blk.newAt (wr.alloc (.cells #[.int .u64 1, .int .u64 Y] 26)) _ _ _ (by simp)).same rfl
        refine hK _ _ (Grw.of B7) ?_
        clear hK K
        refine wpN_late ?_
        obtain ⟨vs6, ho6', hes6⟩ := PRow.below HPR.out B7
        have ho6 := ho6'
        rw [hlt] at ho6
        have kl7 := Blk.keep B7 HKL.out
        have kr7 := Blk.keep B7 HKR.out
        have hz7 := B7.size
        have hv7 := NumV.below HV.out B7
        generalize ((wr.alloc (.cells #[.int .u64 1, .int .u64 Y] 26)).alloc (.cells #[.slice (some ⟨wr.heap.size, 0, none⟩) 2 2, .slice none 0 0] 57)).drew = W7 at *
        refine wpList_app rfl _ _ 33 57 (.agg #[.slice none 0 0, .slice none 0 0]) 2 48 W4.heap.size rfl u33s info57 rfl (by decide) (by decide) (.slice A6 j c6) j vs6 (some ⟨wr.heap.size + 1, 0, none⟩) 1 1 [.slice (some ⟨wr.heap.size, 0, none⟩) 2 2, .slice none 0 0] rfl rfl ho6 (Blk.src kn7 1 2 rfl (by simp [Value.oneCell'])) (by omega) (by omega) ?_
        intro A9 c9 w8 hp
        have kl8 := hp.blk kl7 hvg
        have kr8 := hp.blk kr7 (fun e => by have := hownr _ e; omega)
        have hnF : ∀ k, wr.heap.size ≤ k → W4.heap.size ≤ k ∧ (Value.slice A6 j c6).ownBlock ≠ some k := fun k hk => ⟨by omega, fun e => by have := hownr _ e; omega⟩
        have hpa := PRow.app (P := ps.getD j Prt.nil) hes6 ho6' (by rw [hlt]; exact hp) (by rw [HYE.out]; exact Blk.numV (F := fun k => W4.heap.size ≤ k ∧ (Value.slice A6 j c6).ownBlock ≠ some k) kn1 (hnF _ (Nat.le_refl _)) [1, Y] rfl) (by rw [HYE.out]; exact BytV.nil _ _)
        rw [hlt] at hpa
        have hts : ps.take j ++ [ps.getD j Prt.nil] = ps.take (j + 1) := by
          have := HLEN.out
          rw [List.take_add_one, List.getElem?_eq_getElem (by omega)]
          simp [List.getD_eq_getElem?_getD, List.getElem?_eq_getElem (show j < ps.length by omega)]
        rw [hts] at hpa
        have hpb := hpa.set kl8 (by decide) (by show ¬ (W4.heap.size ≤ gl); omega) 2 (.slice A9 (j + 1) c9)
        have B8 : Bl w w8 := Below.grown (HB2.out.trans B7) hp.grown (HB2.out.trans B7).size (fun k hk => by have := hownr _ hk; have := B5.size; omega)
        have hne8 : (Value.slice A9 (j + 1) c9).ownBlock ≠ some gl := by
          rcases hp.at_ with e | e
          · rw [e]; exact hvg
          · rw [e]; intro e2; simp at e2; have := kl7.lt; omega
        have hkf : KeepF (· = g5) W7 (w8.setCell ⟨gl, 2, none⟩ (.slice A9 (j + 1) c9)) := fun k hF hlt' => by
          subst hF
          exact (Below.heap_setCell w8 ⟨gl, 2, none⟩ _ k m1).trans (hp.grown.block k hlt' (fun e => by have := hownr _ e.symm; omega))
        have hv9 := Lib.hid (hv7.keepF hkf)
        have hz8 : W7.heap.size ≤ w8.heap.size := hp.grown.size
        have HPB := Lib.hid hpb
        have cg := kl8.cell
        have fg := kl8.frozen
        have zg := kl8.lt
        clear hpb hpa hes6 ho6 ho6' hkf hnF hp kl7 kr7 hv7 kn1 kn7
        go_wp2_with fail
        refine NoPanic.normal ?_
        go_wp2_with fail
        have k9 := kl8.set 2 (.slice A9 (j + 1) c9)
        simp only [List.setIfInBounds_toArray, List.set_cons_zero, List.set_cons_succ] at k9
        have kr9 := kr8.far (p := ⟨gl, 2, none⟩) hgne (.slice A9 (j + 1) c9)
        have B9 : Bl w (w8.setCell ⟨gl, 2, none⟩ (.slice A9 (j + 1) c9)) := Below.setCell B8 (Nat.le_of_lt n3) _
        have hz9 : W4.heap.size ≤ (w8.setCell ⟨gl, 2, none⟩ (.slice A9 (j + 1) c9)).heap.size := by simp; omega
        exact ⟨Lib.hid ⟨j + 1, .slice A9 (j + 1) c9, by omega, by simp, B9, hz9, kr9, k9, hne8, HPB.out, hv9.out⟩, by simp [intOf]; omega⟩
  · have B2 : Bl w (((w1.alloc (.cells #[.slice (some ⟨w1.heap.size + 1, 0, none⟩) 4 4, .slice none 0 0, .slice none 0 0, .slice (cutA (some ⟨g, o, none⟩) c U) (n - U) (c - U)] 35)).alloc (.cells #[.int .u64 x0, .int .u64 x1, .int .u64 L, .int .u64 U] 26)).drew) := ((B1.alloc (by (try simp); omega) _).alloc (by (try simp); omega) _).drew
    have kr2 : Blk (((w1.alloc (.cells #[.slice (some ⟨w1.heap.size + 1, 0, none⟩) 4 4, .slice none 0 0, .slice none 0 0, .slice (cutA (some ⟨g, o, none⟩) c U) (n - U) (c - U)] 35)).alloc (.cells #[.int .u64 x0, .int .u64 x1, .int .u64 L, .int .u64 U] 26)).drew) w.heap.size #[.slice none 0 0, .slice none 0 0, .slice none 0 0, .slice none 0 0] 35 := (((kr.alloc _).alloc _).same rfl)
    have kn : Blk (((w1.alloc (.cells #[.slice (some ⟨w1.heap.size + 1, 0, none⟩) 4 4, .slice none 0 0, .slice none 0 0, .slice (cutA (some ⟨g, o, none⟩) c U) (n - U) (c - U)] 35)).alloc (.cells #[.int .u64 x0, .int .u64 x1, .int .u64 L, .int .u64 U] 26)).drew) (w1.heap.size + 1) #[.int .u64 x0, .int .u64 x1, .int .u64 L, .int .u64 U] 26 := ((Blk.newAt (w1.alloc (.cells #[.slice (some ⟨w1.heap.size + 1, 0, none⟩) 4 4, .slice none 0 0, .slice none 0 0, .slice (cutA (some ⟨g, o, none⟩) c U) (n - U) (c - U)] 35)) #[.int .u64 x0, .int .u64 x1, .int .u64 L, .int .u64 U] 26 (w1.heap.size + 1) (by simp)).same rfl)
    have kl : Blk (((w1.alloc (.cells #[.slice (some ⟨w1.heap.size + 1, 0, none⟩) 4 4, .slice none 0 0, .slice none 0 0, .slice (cutA (some ⟨g, o, none⟩) c U) (n - U) (c - U)] 35)).alloc (.cells #[.int .u64 x0, .int .u64 x1, .int .u64 L, .int .u64 U] 26)).drew) w1.heap.size #[.slice (some ⟨w1.heap.size + 1, 0, none⟩) 4 4, .slice none 0 0, .slice none 0 0, .slice (cutA (some ⟨g, o, none⟩) c U) (n - U) (c - U)] 35 := (((Blk.newAt w1 #[.slice (some ⟨w1.heap.size + 1, 0, none⟩) 4 4, .slice none 0 0, .slice none 0 0, .slice (cutA (some ⟨g, o, none⟩) c U) (n - U) (c - U)] 35 w1.heap.size rfl).alloc (.cells #[.int .u64 x0, .int .u64 x1, .int .u64 L, .int .u64 U] 26)).same rfl)
    have n1 : (w1.heap.size + 1) ≠ w1.heap.size := by omega
    have n2 : w.heap.size < (w1.heap.size + 1) := by omega
    have n3 : w.heap.size < w1.heap.size := by omega
    clear cr fr
    generalize ((w1.alloc (.cells #[.slice (some ⟨w1.heap.size + 1, 0, none⟩) 4 4, .slice none 0 0, .slice none 0 0, .slice (cutA (some ⟨g, o, none⟩) c U) (n - U) (c - U)] 35)).alloc (.cells #[.int .u64 x0, .int .u64 x1, .int .u64 L, .int .u64 U] 26)).drew = W at *
    generalize H1 : (w1.heap.size + 1) = gn at *
    generalize H2 : w1.heap.size = gl at *
    have cr := kr2.cell
    have fr := kr2.frozen
    have zr2 := kr2.lt
    have cl := kl.cell
    have fl := kl.frozen
    have zl := kl.lt
    have zn := kn.lt
    clear H1 H2
    go_wp2_with fail
    refine wp_region_plan (S := Grw W) [([0, 1, 4, 5], 2), ([3], 6)] [7, 8, 9] (by kernel_rfl) (by kernel_rfl) (Grw.drew W) ?_
    have Bd : Bl W W.drew := (Bl.refl W).drew
    refine wpGr_cons ?_
    simp only [getL, pickL, List.cons_append, List.nil_append]
    repeat (first | go_big_quiet_skip | (go_big_quiet_want; go_big_quiet_op; go_big_quiet_on))
    refine wpQuiet_nil ?_
    refine wpAct_want rfl (fun K hK => ?_)
    go_big_op
    (with_reducible refine (num_any _ _ _ _ _ (P2.out.below (B2.trans Bd)) (HB.out.sub 12 14) (by omega) (by omega)).mono ?_)
    rintro e w2 ⟨rfl, rfl⟩
    rw [HGZ.out]
    refine hK _ _ (Grw.of Bd) ?_
    clear hK K
    refine wpGr_cons ?_
    simp only [getL, pickL, List.cons_append, List.nil_append]
    repeat (first | go_big_quiet_skip | (go_big_quiet_want; go_big_quiet_op; go_big_quiet_on))
    refine wpQuiet_nil ?_
    refine wpAct_want rfl (fun K hK => ?_)
    go_big_op
    (with_reducible refine (num_any _ _ _ _ _ (P3.out.below (B2.trans Bd)) (HB.out.sub 14 16) (by omega) (by omega)).mono ?_)
    rintro e w2 ⟨rfl, rfl⟩
    rw [HQ.out]
    refine hK _ _ (Grw.of Bd) ?_
    clear hK K
    refine wpGr_nil ?_
    simp only [getL, pickL, List.cons_append, List.nil_append]
    repeat (first | go_big_quiet_skip | (go_big_quiet_want; go_big_quiet_op; go_big_quiet_on))
    refine wpQuiet_nil ?_
    have kr2' := kr2.same (w' := W.drew) rfl
    have kl2' := kl.same (w' := W.drew) rfl
    have kn2' := kn.same (w' := W.drew) rfl
    have B2' := B2.trans Bd
    have cr' := kr2'.cell
    have fr' := kr2'.frozen
    have zr' := kr2'.lt
    have cl' := kl2'.cell
    have fl' := kl2'.frozen
    have zl' := kl2'.lt
    clear cr fr cl fl zl zr2 zn Bd
    refine NoPanic.normal ?_
    go_wp2_with fail
    generalize W.drew = WD at *
    have kl0 : ∀ d os, (Sort.grow (redrawn WD d) os).cell? ⟨gl, 0, none⟩ = some (.slice (some ⟨gn, 0, none⟩) 4 4) := fun d os => cell_regrown (kl2'.cell 0) d os
    refine wp_region_float (S := Grw WD) [true, true, true, true, false, true, true, false, true, true, true, true, false, false, false, false] 13 (by kernel_rfl) (by kernel_rfl) (Grw.drew WD) ?_
    simp only [selQ, selN, earlyN]
    repeat (first | go_big_quiet_skip | (go_big_quiet_want; go_big_quiet_op; go_big_quiet_on))
    refine wpQuiet_nil ?_
    have Bd : Bl WD WD.drew := (Bl.refl WD).drew
    refine wpN_want rfl (fun K hK => ?_)
    go_big_op
    (with_reducible refine (num_any _ _ _ _ _ (P0.out.below (B2'.trans Bd)) (HB.out.sub 4 8) (by omega) (by omega)).mono ?_)
    rintro e w2 ⟨rfl, rfl⟩
    refine hK _ _ (Grw.of Bd) ?_
    clear hK K
    refine wpN_want rfl (fun K hK => ?_)
    go_big_op
    (with_reducible refine (num_any _ _ _ _ _ (P1.out.below (B2'.trans Bd)) (HB.out.sub 8 12) (by omega) (by omega)).mono ?_)
    rintro e w2 ⟨rfl, rfl⟩
    refine hK _ _ (Grw.of Bd) ?_
    clear hK K
    refine wpN_want rfl (fun K hK => ?_)
    go_big_op
    have X3 : Bl WD (WD.alloc (.cells #[.int .u64 (be (sub l 4 8)), .int .u64 (be (sub l 8 12)), .int .u64 0, .int .u64 (q : Int)] 26)).drew := ((Bl.refl WD).trans (by go_grown)).drew
    refine hK _ _ (Grw.of X3) ?_
    clear hK K
    refine wpN_late ?_
    have ow := kn2'.own (B := w.heap.size) (Nat.le_of_lt n2) rfl (by show 4 ≤ maxLen; decide)
    have OW := Lib.hid ((ow.alloc (.cells #[.int .u64 (be (sub l 4 8)), .int .u64 (be (sub l 8 12)), .int .u64 0, .int .u64 (q : Int)] 26)).drew)
    have BX := B2'.trans X3
    clear ow
    refine wpList_app rfl _ _ 31 26 (.int .u64 0) 1 8 w.heap.size rfl u31s info26 rfl (by decide) (by decide) (.slice (some ⟨gn, 0, none⟩) 4 4) 4 _ _ 4 _ _ rfl rfl OW.out ((Blk.src (Blk.new WD #[.int .u64 (be (sub l 4 8)), .int .u64 (be (sub l 8 12)), .int .u64 0, .int .u64 (q : Int)] 26) 4 1 rfl (fun u hu => by simp at hu; rcases hu with rfl | rfl | rfl | rfl <;> rfl)).below ((Bl.refl _).drew)) (by omega) BX.size ?_
    intro A5 c5 w3 hp
    have hgl : (Value.slice (some ⟨gn, 0, none⟩) 4 4).ownBlock ≠ some gl := by simp [Value.ownBlock]; omega
    have hgr : (Value.slice (some ⟨gn, 0, none⟩) 4 4).ownBlock ≠ some w.heap.size := by simp [Value.ownBlock]; omega
    have kl3 := hp.blk (kl2'.below X3) hgl
    have kr3 := hp.blk (kr2'.below X3) hgr
    have B4 := hp.bl OW.out BX
    obtain ⟨g5, cs, rfl, hg5, k5, hcs1, hcs2, hcs⟩ := own_split hp.own (by omega)
    have m1 := k5.ne kl3 (by decide)
    have m2 := k5.ne kr3 (by decide)
    have hv3 : Hid (NumV (· = g5) w3 (.slice (some ⟨g5, 0, none⟩) 8 c5) [x0, x1, L, (U : Int), be (sub l 4 8), be (sub l 8 12), 0, (q : Int)]) := Lib.hid (k5.numsV (F := (· = g5)) rfl [x0, x1, L, (U : Int), be (sub l 4 8), be (sub l 8 12), 0, (q : Int)] rfl (by omega) (fun i hi => by
      have h := hcs i hi
      match i, hi with
      | 0, _ => exact h
      | 1, _ => exact h
      | 2, _ => exact h
      | 3, _ => exact h
      | 4, _ => exact h
      | 5, _ => exact h
      | 6, _ => exact h
      | 7, _ => exact h
      | i + 8, hi => simp at hi; omega))
    have z5 := k5.lt
    have cl3 := kl3.cell
    have fl3 := kl3.frozen
    have zl3 := kl3.lt
    have cr3 := kr3.cell
    have fr3 := kr3.frozen
    have zr3 := kr3.lt
    clear cr' fr' zr' cl' fl' zl' kr2' kl2' kn2' hp kl0 hcs hcs1 hcs2 k5 OW BX X3 Bd B2'
    go_wp2_with fail
    refine NoPanic.normal ?_
    go_wp2_with fail
    have hgne : w.heap.size ≠ gl := Nat.ne_of_lt n3
    have kl4 := kl3.set 0 (.slice (some ⟨g5, 0, none⟩) 8 c5)
    simp only [List.setIfInBounds_toArray, List.set_cons_zero] at kl4
    have kr4 := kr3.far (p := ⟨gl, 0, none⟩) hgne (.slice (some ⟨g5, 0, none⟩) 8 c5)
    have hv4 := Lib.hid (hv3.out.keepF ((KeepF.refl _ w3).setCell (p := ⟨gl, 0, none⟩) (by show ¬ gl = g5; exact Ne.symm m1) (.slice (some ⟨g5, 0, none⟩) 8 c5)))
    have B5 : Bl w (w3.setCell ⟨gl, 0, none⟩ (.slice (some ⟨g5, 0, none⟩) 8 c5)) := Below.setCell B4 (Nat.le_of_lt n3) _
    have z54 : g5 < (w3.setCell ⟨gl, 0, none⟩ (.slice (some ⟨g5, 0, none⟩) 8 c5)).heap.size := by simpa using z5
    clear cl3 fl3 zl3 cr3 fr3 zr3 kl3 kr3 B4 hv3 z5 n1
    generalize w3.setCell ⟨gl, 0, none⟩ (.slice (some ⟨g5, 0, none⟩) 8 c5) = W4 at *
    have zl4 := kl4.lt
    go_loopw [293] (fun i wr => Hid (∃ (j : Nat) (v : Value), j ≤ q ∧ i = .int .i64 j ∧ Bl w wr ∧ W4.heap.size ≤ wr.heap.size ∧ Blk wr w.heap.size #[.slice none 0 0, .slice none 0 0, .slice none 0 0, .slice none 0 0] 35 ∧ Blk wr gl #[.slice (some ⟨g5, 0, none⟩) 8 c5, .slice none 0 0, v, .slice (cutA (some ⟨g, o, none⟩) c U) (n - U) (c - U)] 35 ∧ v.ownBlock ≠ some gl ∧ PRow (fun k => W4.heap.size ≤ k) W4.heap.size wr v (ps.take j) ∧ NumV (· = g5) wr (.slice (some ⟨g5, 0, none⟩) 8 c5) [x0, x1, L, (U : Int), be (sub l 4 8), be (sub l 8 12), 0, (q : Int)])) (fun i _ => q - (intOf i).toNat)
    case atStart => exact Lib.hid ⟨0, .slice none 0 0, by omega, rfl, B5, Nat.le_refl _, kr4, kl4, by simp [Value.ownBlock], by simpa using PRow.nil _ _ _, hv4.out⟩
    case round =>
      obtain ⟨j, v, hj, rfl, hb, hsz, krr, klr, hvg, hpr, hv⟩ := hrel.out
      clear hrel kr4 kl4
      obtain ⟨A6, c6, rfl⟩ := hpr.form
      have hlt : (ps.take j).length = j := by rw [List.length_take]; have := HLEN.out; omega
      rw [hlt] at klr hvg hpr
      have HPR := Lib.hid hpr
      have HV := Lib.hid hv
      have HKL := Lib.hid klr
      have HKR := Lib.hid krr
      have HB2 := Lib.hid hb
      by_cases hjq : j = q
      · have cr := krr.cell
        have fr := krr.frozen
        have zr := krr.lt
        have cl := klr.cell
        clear hpr hv klr krr hb
        go_wp2_with fail
        have hpt : ps.take q = ps := by rw [← HLEN.out]; exact List.take_length
        have HPP := HPR.out
        rw [hjq, hpt] at HPP
        have hPV := HPP.parts (fun k h1 _ => h1)
        have hkf : KeepF (fun k => W4.heap.size ≤ k) wr ((((wr.setCell ⟨w.heap.size, 0, none⟩ (.slice (some ⟨g5, 0, none⟩) 8 c5)).setCell ⟨w.heap.size, 1, none⟩ (.slice none 0 0)).setCell ⟨w.heap.size, 2, none⟩ (.slice A6 q c6)).setCell ⟨w.heap.size, 3, none⟩ (.slice (cutA (some ⟨g, o, none⟩) c U) (n - U) (c - U))) := ((((KeepF.refl _ wr).setCell (p := ⟨w.heap.size, 0, none⟩) (by show ¬ (W4.heap.size ≤ w.heap.size); omega) (.slice (some ⟨g5, 0, none⟩) 8 c5)).setCell (p := ⟨w.heap.size, 1, none⟩) (by show ¬ (W4.heap.size ≤ w.heap.size); omega) (.slice none 0 0)).setCell (p := ⟨w.heap.size, 2, none⟩) (by show ¬ (W4.heap.size ≤ w.heap.size); omega) (.slice A6 q c6)).setCell (p := ⟨w.heap.size, 3, none⟩) (by show ¬ (W4.heap.size ≤ w.heap.size); omega) (.slice (cutA (some ⟨g, o, none⟩) c U) (n - U) (c - U))
        have hkn : KeepF (· = g5) wr ((((wr.setCell ⟨w.heap.size, 0, none⟩ (.slice (some ⟨g5, 0, none⟩) 8 c5)).setCell ⟨w.heap.size, 1, none⟩ (.slice none 0 0)).setCell ⟨w.heap.size, 2, none⟩ (.slice A6 q c6)).setCell ⟨w.heap.size, 3, none⟩ (.slice (cutA (some ⟨g, o, none⟩) c U) (n - U) (c - U))) := ((((KeepF.refl _ wr).setCell (p := ⟨w.heap.size, 0, none⟩) (by show ¬ (w.heap.size = g5); exact Ne.symm m2) (.slice (some ⟨g5, 0, none⟩) 8 c5)).setCell (p := ⟨w.heap.size, 1, none⟩) (by show ¬ (w.heap.size = g5); exact Ne.symm m2) (.slice none 0 0)).setCell (p := ⟨w.heap.size, 2, none⟩) (by show ¬ (w.heap.size = g5); exact Ne.symm m2) (.slice A6 q c6)).setCell (p := ⟨w.heap.size, 3, none⟩) (by show ¬ (w.heap.size = g5); exact Ne.symm m2) (.slice (cutA (some ⟨g, o, none⟩) c U) (n - U) (c - U))
        have hPF := hPV.keepF hkf
        have hNF := HV.out.keepF hkn
        have BF : Bl w (((((wr.setCell ⟨w.heap.size, 0, none⟩ (.slice (some ⟨g5, 0, none⟩) 8 c5)).setCell ⟨w.heap.size, 1, none⟩ (.slice none 0 0)).setCell ⟨w.heap.size, 2, none⟩ (.slice A6 q c6)).setCell ⟨w.heap.size, 3, none⟩ (.slice (cutA (some ⟨g, o, none⟩) c U) (n - U) (c - U)))) := (((Below.setCell HB2.out (Nat.le_refl _) _).setCell (Nat.le_refl _) _).setCell (Nat.le_refl _) _).setCell (Nat.le_refl _) _
        have kf := (((HKR.out.set 0 (.slice (some ⟨g5, 0, none⟩) 8 c5)).set 1 (.slice none 0 0)).set 2 (.slice A6 q c6)).set 3 (.slice (cutA (some ⟨g, o, none⟩) c U) (n - U) (c - U))
        have cf := kf.cell
        clear kf hPV hkf hkn
        generalize ((((wr.setCell ⟨w.heap.size, 0, none⟩ (.slice (some ⟨g5, 0, none⟩) 8 c5)).setCell ⟨w.heap.size, 1, none⟩ (.slice none 0 0)).setCell ⟨w.heap.size, 2, none⟩ (.slice A6 q c6)).setCell ⟨w.heap.size, 3, none⟩ (.slice (cutA (some ⟨g, o, none⟩) c U) (n - U) (c - U))) = WF at *
        refine bodyPost_ret (v := .tuple #[.agg #[.slice (some ⟨g5, 0, none⟩) 8 c5, .slice none 0 0, .slice A6 q c6, .slice (cutA (some ⟨g, o, none⟩) c U) (n - U) (c - U)], .bool true, .bool true]) (by simp [results, Try.results43, go_sem, cf]) rfl ?_
        subst hlen G2
        exact ⟨_, rfl, ⟨_, _, _, _, rfl, hNF.mono (fun k hk => .inr (by rw [hk]; exact hg5)), DataV.nil _ _, hPF.mono (fun k hk => .inr (by omega)), ((HH.out.below BF).cut U l.length (by omega) (by omega)).bytV (cutA_inF (HA.out.mono fun _ h => .inl h) (fun _ => by omega)) (HB.out.sub _ _)⟩, BF⟩
      · have hjq' : (j : Int) < (q : Int) := by omega
        have s5 : ∀ W, (Instr.slice 24 (.slice (some ⟨g, o, none⟩) n c) (some (.int .i64 (16 + 4 * (j : Int)))) (some (.int .i64 (16 + 4 * (j : Int) + 4))) none).run Try.prog W = .ok (.slice (cutA (some ⟨g, o, none⟩) c (16 + 4 * j)) 4 (c - (16 + 4 * j))) W := fun W => by
          have := run_cut (some ⟨g, o, none⟩) n c (16 + 4 * j) (20 + 4 * j) (16 + 4 * (j : Int)) (16 + 4 * (j : Int) + 4) (by omega) (by omega) (by omega) (by omega) 24 Try.underlying24 size5 W
          rwa [show 20 + 4 * j - (16 + 4 * j) = 4 by omega] at this
        have RY := Lib.hid ((HH.out.cutm (16 + 4 * j) (20 + 4 * j) 4 (by omega) (by omega)).below hb)
        have HYE := Lib.hid (HPE.out j (by omega))
        have BY := HB.out.sub (16 + 4 * j) (20 + 4 * j)
        have HBY := Lib.hid BY
        have hownr : ∀ k, (Value.slice A6 j c6).ownBlock = some k → W4.heap.size ≤ k ∧ k < wr.heap.size := fun k hk => by
          obtain ⟨_, ho, _⟩ := HPR.out
          exact ho.lt k hk
        have hgr : gl < wr.heap.size := HKL.out.lt
        generalize hYY : be (sub l (16 + 4 * j) (20 + 4 * j)) = Y at *
        clear hpr hv klr krr hb BY
        go_wp2_with fail
        have q0 : ∀ d os, (Sort.grow (redrawn wr d) os).cell? ⟨gl, 2, none⟩ = some (.slice A6 j c6) := fun d os => cell_regrown (HKL.out.cell 2) d os
        refine wp_region_float (S := Grw wr) [true, true, true, true, true, true, true, false, false, false, false, false, false, false] 11 (by kernel_rfl) (by kernel_rfl) (Grw.drew wr) ?_
        simp only [selQ, selN, earlyN]
        repeat (first | go_big_quiet_skip | (go_big_quiet_want; go_big_quiet_op; go_big_quiet_on))
        refine wpQuiet_nil ?_
        clear q0 s5
        have Bd : Bl wr wr.drew := (Bl.refl wr).drew
        refine wpN_want rfl (fun K hK => ?_)
        go_big_op
        (with_reducible refine (num_any _ _ _ _ _ (RY.out.below Bd) HBY.out (by omega) (by omega)).mono ?_)
        rintro e w6 ⟨rfl, rfl⟩
        rw [hYY]
        refine hK _ _ (Grw.of Bd) ?_
        clear hK K
        refine wpN_want rfl (fun K hK => ?_)
        go_big_op
        have X1 : Bl wr (wr.alloc (.cells #[.int .u64 1, .int .u64 Y] 26)).drew := ((Bl.refl wr).trans (by go_grown)).drew
        refine hK _ _ (Grw.of X1) ?_
        clear hK K
        refine wpN_want rfl (fun K hK => ?_)
        go_big_op
        refine hK _ _ (Grw.of X1) ?_
        clear hK K
        refine wpN_want rfl (fun K hK => ?_)
        go_big_op
        have B7 : Bl wr ((wr.alloc (.cells #[.int .u64 1, .int .u64 Y] 26)).alloc (.cells #[.slice (some ⟨wr.heap.size, 0, none⟩) 2 2, .slice none 0 0] 57)).drew := ((Bl.refl wr).trans (by go_grown)).drew
        have kn1 : Blk ((wr.alloc (.cells #[.int .u64 1, .int .u64 Y] 26)).alloc (.cells #[.slice (some ⟨wr.heap.size, 0, none⟩) 2 2, .slice none 0 0] 57)).drew wr.heap.size #[.int .u64 1, .int .u64 Y] 26 := ((Blk.new wr _ _).alloc _).same rfl
        have kn7 : Blk ((wr.alloc (.cells #[.int .u64 1, .int .u64 Y] 26)).alloc (.cells #[.slice (some ⟨wr.heap.size, 0, none⟩) 2 2, .slice none 0 0] 57)).drew (wr.heap.size + 1) #[.slice (some ⟨wr.heap.size, 0, none⟩) 2 2, .slice none 0 0] 57 := (Blk.newAt (wr.alloc (.cells #[.int .u64 1, .int .u64 Y] 26)) _ _ _ (by simp)).same rfl
        refine hK _ _ (Grw.of B7) ?_
        clear hK K
        refine wpN_late ?_
        obtain ⟨vs6, ho6', hes6⟩ := PRow.below HPR.out B7
        have ho6 := ho6'
        rw [hlt] at ho6
        have kl7 := Blk.keep B7 HKL.out
        have kr7 := Blk.keep B7 HKR.out
        have hz7 := B7.size
        have hv7 := NumV.below HV.out B7
        generalize ((wr.alloc (.cells #[.int .u64 1, .int .u64 Y] 26)).alloc (.cells #[.slice (some ⟨wr.heap.size, 0, none⟩) 2 2, .slice none 0 0] 57)).drew = W7 at *
        refine wpList_app rfl _ _ 33 57 (.agg #[.slice none 0 0, .slice none 0 0]) 2 48 W4.heap.size rfl u33s info57 rfl (by decide) (by decide) (.slice A6 j c6) j vs6 (some ⟨wr.heap.size + 1, 0, none⟩) 1 1 [.slice (some ⟨wr.heap.size, 0, none⟩) 2 2, .slice none 0 0] rfl rfl ho6 (Blk.src kn7 1 2 rfl (by simp [Value.oneCell'])) (by omega) (by omega) ?_
        intro A9 c9 w8 hp
        have kl8 := hp.blk kl7 hvg
        have kr8 := hp.blk kr7 (fun e => by have := hownr _ e; omega)
        have hnF : ∀ k, wr.heap.size ≤ k → W4.heap.size ≤ k ∧ (Value.slice A6 j c6).ownBlock ≠ some k := fun k hk => ⟨by omega, fun e => by have := hownr _ e; omega⟩
        have hpa := PRow.app (P := ps.getD j Prt.nil) hes6 ho6' (by rw [hlt]; exact hp) (by rw [HYE.out]; exact Blk.numV (F := fun k => W4.heap.size ≤ k ∧ (Value.slice A6 j c6).ownBlock ≠ some k) kn1 (hnF _ (Nat.le_refl _)) [1, Y] rfl) (by rw [HYE.out]; exact BytV.nil _ _)
        rw [hlt] at hpa
        have hts : ps.take j ++ [ps.getD j Prt.nil] = ps.take (j + 1) := by
          have := HLEN.out
          rw [List.take_add_one, List.getElem?_eq_getElem (by omega)]
          simp [List.getD_eq_getElem?_getD, List.getElem?_eq_getElem (show j < ps.length by omega)]
        rw [hts] at hpa
        have hpb := hpa.set kl8 (by decide) (by show ¬ (W4.heap.size ≤ gl); omega) 2 (.slice A9 (j + 1) c9)
        have B8 : Bl w w8 := Below.grown (HB2.out.trans B7) hp.grown (HB2.out.trans B7).size (fun k hk => by have := hownr _ hk; have := B5.size; omega)
        have hne8 : (Value.slice A9 (j + 1) c9).ownBlock ≠ some gl := by
          rcases hp.at_ with e | e
          · rw [e]; exact hvg
          · rw [e]; intro e2; simp at e2; have := kl7.lt; omega
        have hkf : KeepF (· = g5) W7 (w8.setCell ⟨gl, 2, none⟩ (.slice A9 (j + 1) c9)) := fun k hF hlt' => by
          subst hF
          exact (Below.heap_setCell w8 ⟨gl, 2, none⟩ _ k m1).trans (hp.grown.block k hlt' (fun e => by have := hownr _ e.symm; omega))
        have hv9 := Lib.hid (hv7.keepF hkf)
        have hz8 : W7.heap.size ≤ w8.heap.size := hp.grown.size
        have HPB := Lib.hid hpb
        have cg := kl8.cell
        have fg := kl8.frozen
        have zg := kl8.lt
        clear hpb hpa hes6 ho6 ho6' hkf hnF hp kl7 kr7 hv7 kn1 kn7
        go_wp2_with fail
        refine NoPanic.normal ?_
        go_wp2_with fail
        have k9 := kl8.set 2 (.slice A9 (j + 1) c9)
        simp only [List.setIfInBounds_toArray, List.set_cons_zero, List.set_cons_succ] at k9
        have kr9 := kr8.far (p := ⟨gl, 2, none⟩) hgne (.slice A9 (j + 1) c9)
        have B9 : Bl w (w8.setCell ⟨gl, 2, none⟩ (.slice A9 (j + 1) c9)) := Below.setCell B8 (Nat.le_of_lt n3) _
        have hz9 : W4.heap.size ≤ (w8.setCell ⟨gl, 2, none⟩ (.slice A9 (j + 1) c9)).heap.size := by simp; omega
        exact ⟨Lib.hid ⟨j + 1, .slice A9 (j + 1) c9, by omega, by simp, B9, hz9, kr9, k9, hne8, HPB.out, hv9.out⟩, by simp [intOf]; omega⟩
end Go.Proofs.Ytoljdgfbkebgcaa
