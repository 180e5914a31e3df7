/- spec.Read: sctpinit, where there is none. spec.Read and decoded, of a chunk of the kind sctpinit. The taker: numbers and truths of a layer, one by one. -/
import Derived.Test.YtoljdgfbkebgcaaPq10
import Derived.Test.YtoljdgfbkebgcaaPq07
import Derived.Test.YtoljdgfbkebgcaaPq04
import Derived.Test.YtoljdgfbkebgcaaPq08
import Derived.Test.YtoljdgfbkebgcaaPp06
import Derived.Test.YtoljdgfbkebgcaaPp07
import Derived.Test.YtoljdgfbkebgcaaPp08
import Derived.Test.YtoljdgfbkebgcaaPq01
namespace Go.Proofs.Ytoljdgfbkebgcaa
open Go.RowKit
set_option linter.unusedVariables false
theorem u31j : Try.prog.underlying 31 = some (.slice 26) := by kernel_rfl
set_option maxHeartbeats 4000000 in
set_option maxRecDepth 100000 in
theorem srIni_bad (l : List Int) (hl : By l) (h4' : 4 ≤ chL l) (h20 : 20 ≤ chL l) (hup : up4 (chL l) ≤ l.length) (hn2 : l.length ≤ 2147483647) (hm : chL l % 4 = 0) (hps : prmsOf (sub l 20 (chL l)) = none) (hk : kindOf (l.getD 0 0) = ⟨#[115, 99, 116, 112, 105, 110, 105, 116]⟩) :
    SpecAt ⟨#[115, 99, 116, 112, 105, 110, 105, 116]⟩ l nilLyr false true := by
  intro A n c B w h hA hBw
  have u4 : chL l ≤ up4 (chL l) := by unfold up4; omega
  have hlen := h.len
  have h4 : 4 ≤ n := by omega
  have h5 : n ≤ 2147483647 := by omega
  have hcap := h.cap
  have HH := Lib.hid h
  have HA := Lib.hid hA
  have s1 := run_cut A n c 2 4 2 4 rfl rfl (by omega) (by omega) 24 Try.underlying24 size5
  have s2 := run_cut_l A n c (up4 (chL l)) _ rfl (by omega) 24 Try.underlying24 size5
  have s3 := run_cut A n c 4 (chL l) 4 (be (sub l 2 4)) rfl (chL_int l hl) h4' (by omega) 24 Try.underlying24 size5
  have R1 := Lib.hid (h.cutm 2 4 2 (by omega) (by omega))
  have HB := Lib.hid hl
  have b1 := be_bd2 (sub l 2 4) (hl.sub _ _) (by rw [sub_length _ _ _ (by omega)])
  have b0 := hl.getD 0
  have b0' := hl.getD 1
  have e1 := chL_int l hl
  have b9 : be (sub l 2 4) % 4 = 0 := by omega
  have b20 : 20 ≤ be (sub l 2 4) := by omega
  have hV : chL l ≤ n := by omega
  have s20 := run_cut A n c 20 (chL l) 20 (be (sub l 2 4)) rfl e1 h20 (by omega) 24 Try.underlying24 size5
  have q0 := run_cut A n c 4 8 4 8 rfl rfl (by omega) (by omega) 24 Try.underlying24 size5
  have P0 := Lib.hid (h.cutm 4 8 4 (by omega) (by omega))
  have q1 := run_cut A n c 8 12 8 12 rfl rfl (by omega) (by omega) 24 Try.underlying24 size5
  have P1 := Lib.hid (h.cutm 8 12 4 (by omega) (by omega))
  have q2 := run_cut A n c 12 14 12 14 rfl rfl (by omega) (by omega) 24 Try.underlying24 size5
  have P2 := Lib.hid (h.cutm 12 14 2 (by omega) (by omega))
  have q3 := run_cut A n c 14 16 14 16 rfl rfl (by omega) (by omega) 24 Try.underlying24 size5
  have P3 := Lib.hid (h.cutm 14 16 2 (by omega) (by omega))
  have q4 := run_cut A n c 16 20 16 20 rfl rfl (by omega) (by omega) 24 Try.underlying24 size5
  have P4 := Lib.hid (h.cutm 16 20 4 (by omega) (by omega))
  have HPS := Lib.hid hps
  clear hps
  have b2 : 4 ≤ be (sub l 2 4) := by omega
  have b3 : be (sub l 2 4) ≤ (n : Int) := by omega
  have e2 : (be (sub l 2 4) + 3) / 4 * 4 = (up4 (chL l) : Int) := by rw [e1]; unfold up4; omega
  have b4 : (up4 (chL l) : Int) ≤ (n : Int) := by omega
  obtain ⟨g, o, rfl, hg, hc⟩ := h.at (by omega)
  have d0 := hc 0 (by omega)
  have d1 := hc 1 (by omega)
  simp only [Nat.add_zero] at d0
  have HK := Lib.hid hk
  generalize l.getD 0 0 = x0 at *
  generalize l.getD 1 0 = x1 at *
  generalize up4 (chL l) = U at *
  generalize chL l = V at *
  clear h hn2 hc hl hk e1 hA
  go_enter Try.func43, Try.ntmps43
  go_wp2_with fail
  (with_reducible refine (num_any _ _ _ _ _ (R1.out.below (by go_grown)) (HB.out.sub 2 4) (by omega) (by omega)).mono ?_)
  rintro e w1 ⟨rfl, rfl⟩
  generalize G2 : be (sub l 2 4) = L at *
  go_wp2_with fail
  (with_reducible refine (sup_any _ (by omega) (by omega) _).mono ?_)
  rintro e w1 ⟨rfl, rfl⟩
  rw [e2]
  go_wp2_with fail
  (with_reducible refine (kind_any _ _).mono ?_)
  rintro e w1 ⟨rfl, hb1⟩
  rw [HK.out]
  have kr := Blk.keep hb1 (Blk.new w _ _)
  have cr := kr.cell
  have fr := kr.frozen
  have zr := kr.lt
  have B1 : Bl w w1 := Bl.trans (by go_grown) hb1
  have d0' := (B1.cell (p := ⟨g, o, none⟩) hg).trans d0
  have d1' := (B1.cell (p := ⟨g, o + 1, none⟩) hg).trans d1
  have zg : g < w1.heap.size := Nat.lt_of_lt_of_le hg B1.size
  have HX := Lib.hid HH
  clear d0 d1 hb1
  go_wp2_with fail
  go_region
  · have B2 : Bl w (((w1.alloc (.cells #[.int .u64 x0, .int .u64 x1, .int .u64 L, .int .u64 U] 26)).alloc (.cells #[.slice (some ⟨w1.heap.size, 0, none⟩) 4 4, .slice none 0 0, .slice none 0 0, .slice (cutA (some ⟨g, o, none⟩) c U) (n - U) (c - U)] 35)).drew) := ((B1.alloc (by (try simp); omega) _).alloc (by (try simp); omega) _).drew
    have kr2 : Blk (((w1.alloc (.cells #[.int .u64 x0, .int .u64 x1, .int .u64 L, .int .u64 U] 26)).alloc (.cells #[.slice (some ⟨w1.heap.size, 0, none⟩) 4 4, .slice none 0 0, .slice none 0 0, .slice (cutA (some ⟨g, o, none⟩) c U) (n - U) (c - U)] 35)).drew) w.heap.size #[.slice none 0 0, .slice none 0 0, .slice none 0 0, .slice none 0 0] 35 := (((kr.alloc _).alloc _).same rfl)
    have kn : Blk (((w1.alloc (.cells #[.int .u64 x0, .int .u64 x1, .int .u64 L, .int .u64 U] 26)).alloc (.cells #[.slice (some ⟨w1.heap.size, 0, none⟩) 4 4, .slice none 0 0, .slice none 0 0, .slice (cutA (some ⟨g, o, none⟩) c U) (n - U) (c - U)] 35)).drew) w1.heap.size #[.int .u64 x0, .int .u64 x1, .int .u64 L, .int .u64 U] 26 := (((Blk.newAt w1 #[.int .u64 x0, .int .u64 x1, .int .u64 L, .int .u64 U] 26 w1.heap.size rfl).alloc (.cells #[.slice (some ⟨w1.heap.size, 0, none⟩) 4 4, .slice none 0 0, .slice none 0 0, .slice (cutA (some ⟨g, o, none⟩) c U) (n - U) (c - U)] 35)).same rfl)
    have kl : Blk (((w1.alloc (.cells #[.int .u64 x0, .int .u64 x1, .int .u64 L, .int .u64 U] 26)).alloc (.cells #[.slice (some ⟨w1.heap.size, 0, none⟩) 4 4, .slice none 0 0, .slice none 0 0, .slice (cutA (some ⟨g, o, none⟩) c U) (n - U) (c - U)] 35)).drew) (w1.heap.size + 1) #[.slice (some ⟨w1.heap.size, 0, none⟩) 4 4, .slice none 0 0, .slice none 0 0, .slice (cutA (some ⟨g, o, none⟩) c U) (n - U) (c - U)] 35 := ((Blk.newAt (w1.alloc (.cells #[.int .u64 x0, .int .u64 x1, .int .u64 L, .int .u64 U] 26)) #[.slice (some ⟨w1.heap.size, 0, none⟩) 4 4, .slice none 0 0, .slice none 0 0, .slice (cutA (some ⟨g, o, none⟩) c U) (n - U) (c - U)] 35 (w1.heap.size + 1) (by simp)).same rfl)
    have n1 : w1.heap.size ≠ (w1.heap.size + 1) := by omega
    have n2 : w.heap.size < w1.heap.size := by omega
    have n3 : w.heap.size < (w1.heap.size + 1) := by omega
    clear cr fr
    generalize ((w1.alloc (.cells #[.int .u64 x0, .int .u64 x1, .int .u64 L, .int .u64 U] 26)).alloc (.cells #[.slice (some ⟨w1.heap.size, 0, none⟩) 4 4, .slice none 0 0, .slice none 0 0, .slice (cutA (some ⟨g, o, none⟩) c U) (n - U) (c - U)] 35)).drew = W at *
    generalize H2 : (w1.heap.size + 1) = gl at *
    generalize H1 : w1.heap.size = gn at *
    have cr := kr2.cell
    have fr := kr2.frozen
    have zr2 := kr2.lt
    have cl := kl.cell
    have fl := kl.frozen
    have zl := kl.lt
    have zn := kn.lt
    clear H1 H2
    go_wp2_with fail
    have kl0 : ∀ d os, (Sort.grow (redrawn W d) os).cell? ⟨gl, 0, none⟩ = some (.slice (some ⟨gn, 0, none⟩) 4 4) := fun d os => cell_regrown (kl.cell 0) d os
    refine wp_region_float (S := Grw W) [true, true, true, true, false, true, true, false, true, true, false, true, true, false, true, true, false, false, false, false, false] 18 (by kernel_rfl) (by kernel_rfl) (Grw.drew W) ?_
    simp only [selQ, selN, earlyN]
    repeat (first | go_big_quiet_skip | (go_big_quiet_want; go_big_quiet_op; go_big_quiet_on))
    refine wpQuiet_nil ?_
    have Bd : Bl W W.drew := (Bl.refl W).drew
    refine wpN_want rfl (fun K hK => ?_)
    go_big_op
    (with_reducible refine (num_any _ _ _ _ _ (P0.out.below (B2.trans Bd)) (HB.out.sub 4 8) (by omega) (by omega)).mono ?_)
    rintro e w2 ⟨rfl, rfl⟩
    refine hK _ _ (Grw.of Bd) ?_
    clear hK K
    refine wpN_want rfl (fun K hK => ?_)
    go_big_op
    (with_reducible refine (num_any _ _ _ _ _ (P1.out.below (B2.trans Bd)) (HB.out.sub 8 12) (by omega) (by omega)).mono ?_)
    rintro e w2 ⟨rfl, rfl⟩
    refine hK _ _ (Grw.of Bd) ?_
    clear hK K
    refine wpN_want rfl (fun K hK => ?_)
    go_big_op
    (with_reducible refine (num_any _ _ _ _ _ (P2.out.below (B2.trans Bd)) (HB.out.sub 12 14) (by omega) (by omega)).mono ?_)
    rintro e w2 ⟨rfl, rfl⟩
    refine hK _ _ (Grw.of Bd) ?_
    clear hK K
    refine wpN_want rfl (fun K hK => ?_)
    go_big_op
    (with_reducible refine (num_any _ _ _ _ _ (P3.out.below (B2.trans Bd)) (HB.out.sub 14 16) (by omega) (by omega)).mono ?_)
    rintro e w2 ⟨rfl, rfl⟩
    refine hK _ _ (Grw.of Bd) ?_
    clear hK K
    refine wpN_want rfl (fun K hK => ?_)
    go_big_op
    (with_reducible refine (num_any _ _ _ _ _ (P4.out.below (B2.trans Bd)) (HB.out.sub 16 20) (by omega) (by omega)).mono ?_)
    rintro e w2 ⟨rfl, rfl⟩
    refine hK _ _ (Grw.of Bd) ?_
    clear hK K
    refine wpN_want rfl (fun K hK => ?_)
    go_big_op
    have X3 : Bl W (W.alloc (.cells #[.int .u64 (be (sub l 4 8)), .int .u64 (be (sub l 8 12)), .int .u64 (be (sub l 12 14)), .int .u64 (be (sub l 14 16)), .int .u64 (be (sub l 16 20))] 26)).drew := ((Bl.refl W).trans (by go_grown)).drew
    refine hK _ _ (Grw.of X3) ?_
    clear hK K
    refine wpN_late ?_
    have ow := kn.own (B := w.heap.size) (Nat.le_of_lt n2) rfl (by show 4 ≤ maxLen; decide)
    have OW := Lib.hid ((ow.alloc (.cells #[.int .u64 (be (sub l 4 8)), .int .u64 (be (sub l 8 12)), .int .u64 (be (sub l 12 14)), .int .u64 (be (sub l 14 16)), .int .u64 (be (sub l 16 20))] 26)).drew)
    have BX := B2.trans X3
    clear ow
    refine wpList_app rfl _ _ 31 26 (.int .u64 0) 1 8 w.heap.size rfl u31j info26 rfl (by decide) (by decide) (.slice (some ⟨gn, 0, none⟩) 4 4) 4 _ _ 5 _ _ rfl rfl OW.out ((Blk.src (Blk.new W #[.int .u64 (be (sub l 4 8)), .int .u64 (be (sub l 8 12)), .int .u64 (be (sub l 12 14)), .int .u64 (be (sub l 14 16)), .int .u64 (be (sub l 16 20))] 26) 5 1 rfl (fun u hu => by simp at hu; rcases hu with rfl | rfl | rfl | rfl | rfl <;> rfl)).below ((Bl.refl _).drew)) (by omega) BX.size ?_
    intro A5 c5 w3 hp
    have hgl : (Value.slice (some ⟨gn, 0, none⟩) 4 4).ownBlock ≠ some gl := by simp [Value.ownBlock]; omega
    have hgr : (Value.slice (some ⟨gn, 0, none⟩) 4 4).ownBlock ≠ some w.heap.size := by simp [Value.ownBlock]; omega
    have kl3 := hp.blk (kl.below X3) hgl
    have kr3 := hp.blk (kr2.below X3) hgr
    have B4 := hp.bl OW.out BX
    have ho3 := Lib.hid hp.own
    have cl3 := kl3.cell
    have fl3 := kl3.frozen
    have zl3 := kl3.lt
    have cr3 := kr3.cell
    have fr3 := kr3.frozen
    have zr3 := kr3.lt
    clear cl fl zl zn cr fr zr2 hp kl0
    go_wp2_with fail
    refine NoPanic.normal ?_
    go_wp2_with fail
    have hgne : w.heap.size ≠ gl := Nat.ne_of_lt n3
    have kl4 := kl3.set 0 (.slice A5 9 c5)
    simp only [List.setIfInBounds_toArray, List.set_cons_zero] at kl4
    have kr4 := kr3.far (p := ⟨gl, 0, none⟩) hgne (.slice A5 9 c5)
    have ho4 := own_set ho3.out kl3 (by decide) 0 (.slice A5 9 c5)
    have B5 : Bl w (w3.setCell ⟨gl, 0, none⟩ (.slice A5 9 c5)) := Below.setCell B4 (Nat.le_of_lt n3) _
    have HO4 := Lib.hid ho4
    clear cl3 fl3 zl3 cr3 fr3 zr3 kl3 kr3 ho4 ho3 B4
    generalize w3.setCell ⟨gl, 0, none⟩ (.slice A5 9 c5) = W4 at *
    have RB := Lib.hid ((HH.out.below B5).cut 20 V (by omega) (by omega))
    have zl4 := kl4.lt
    have zr4 := kr4.lt
    (with_reducible refine (prm_any (fun k => k < B ∨ W4.heap.size ≤ k) _ _ _ _ _ RB.out (HB.out.sub 20 V) (cutA_inF (HA.out.mono fun _ h => .inl h) (fun _ => by omega)) (fun k h => .inr h) (by omega)).mono ?_)
    rintro e w5 ⟨hb5, hX⟩
    have kr5 := Blk.keep hb5 kr4
    have kl5 := Blk.keep hb5 kl4
    have cr5 := kr5.cell
    have fr5 := kr5.frozen
    have zr5 := kr5.lt
    have cl5 := kl5.cell
    have fl5 := kl5.frozen
    have zl5 := kl5.lt
    have B6 := B5.trans hb5
    have hz5 := hb5.size
    have ho5 := own_bl HO4.out hb5
    rcases hX with ⟨hX, rfl⟩ | ⟨v, ps', hX, rfl, hP⟩
    · go_wp2_with fail
      (with_reducible refine (none_any _).mono ?_)
      rintro e w6 ⟨rfl, hb6⟩
      have kr6 := Blk.keep hb6 kr5
      have cr6 := kr6.cell
      have fr6 := kr6.frozen
      have zr6 := kr6.lt
      have B7 := B6.trans hb6
      unfold zeroLyr
      clear cr5 fr5 zr5 cl5 fl5 zl5
      go_wp2_with fail
      refine bodyPost_ret (v := .tuple #[zeroLyr, .bool false, .bool true]) (by simp [results, Try.results43, go_sem, cr6, zeroLyr]) rfl (told_zero _ _ _ _ (Bl.boxed B7 (Nat.le_refl _) _ _ _ _))
    · exact absurd (HPS.out.symm.trans hX) (by simp)
  · have B2 : Bl w (((w1.alloc (.cells #[.slice (some ⟨w1.heap.size + 1, 0, none⟩) 4 4, .slice none 0 0, .slice none 0 0, .slice (cutA (some ⟨g, o, none⟩) c U) (n - U) (c - U)] 35)).alloc (.cells #[.int .u64 x0, .int .u64 x1, .int .u64 L, .int .u64 U] 26)).drew) := ((B1.alloc (by (try simp); omega) _).alloc (by (try simp); omega) _).drew
    have kr2 : Blk (((w1.alloc (.cells #[.slice (some ⟨w1.heap.size + 1, 0, none⟩) 4 4, .slice none 0 0, .slice none 0 0, .slice (cutA (some ⟨g, o, none⟩) c U) (n - U) (c - U)] 35)).alloc (.cells #[.int .u64 x0, .int .u64 x1, .int .u64 L, .int .u64 U] 26)).drew) w.heap.size #[.slice none 0 0, .slice none 0 0, .slice none 0 0, .slice none 0 0] 35 := (((kr.alloc _).alloc _).same rfl)
    have kn : Blk (((w1.alloc (.cells #[.slice (some ⟨w1.heap.size + 1, 0, none⟩) 4 4, .slice none 0 0, .slice none 0 0, .slice (cutA (some ⟨g, o, none⟩) c U) (n - U) (c - U)] 35)).alloc (.cells #[.int .u64 x0, .int .u64 x1, .int .u64 L, .int .u64 U] 26)).drew) (w1.heap.size + 1) #[.int .u64 x0, .int .u64 x1, .int .u64 L, .int .u64 U] 26 := ((Blk.newAt (w1.alloc (.cells #[.slice (some ⟨w1.heap.size + 1, 0, none⟩) 4 4, .slice none 0 0, .slice none 0 0, .slice (cutA (some ⟨g, o, none⟩) c U) (n - U) (c - U)] 35)) #[.int .u64 x0, .int .u64 x1, .int .u64 L, .int .u64 U] 26 (w1.heap.size + 1) (by simp)).same rfl)
    have kl : Blk (((w1.alloc (.cells #[.slice (some ⟨w1.heap.size + 1, 0, none⟩) 4 4, .slice none 0 0, .slice none 0 0, .slice (cutA (some ⟨g, o, none⟩) c U) (n - U) (c - U)] 35)).alloc (.cells #[.int .u64 x0, .int .u64 x1, .int .u64 L, .int .u64 U] 26)).drew) w1.heap.size #[.slice (some ⟨w1.heap.size + 1, 0, none⟩) 4 4, .slice none 0 0, .slice none 0 0, .slice (cutA (some ⟨g, o, none⟩) c U) (n - U) (c - U)] 35 := (((Blk.newAt w1 #[.slice (some ⟨w1.heap.size + 1, 0, none⟩) 4 4, .slice none 0 0, .slice none 0 0, .slice (cutA (some ⟨g, o, none⟩) c U) (n - U) (c - U)] 35 w1.heap.size rfl).alloc (.cells #[.int .u64 x0, .int .u64 x1, .int .u64 L, .int .u64 U] 26)).same rfl)
    have n1 : (w1.heap.size + 1) ≠ w1.heap.size := by omega
    have n2 : w.heap.size < (w1.heap.size + 1) := by omega
    have n3 : w.heap.size < w1.heap.size := by omega
    clear cr fr
    generalize ((w1.alloc (.cells #[.slice (some ⟨w1.heap.size + 1, 0, none⟩) 4 4, .slice none 0 0, .slice none 0 0, .slice (cutA (some ⟨g, o, none⟩) c U) (n - U) (c - U)] 35)).alloc (.cells #[.int .u64 x0, .int .u64 x1, .int .u64 L, .int .u64 U] 26)).drew = W at *
    generalize H1 : (w1.heap.size + 1) = gn at *
    generalize H2 : w1.heap.size = gl at *
    have cr := kr2.cell
    have fr := kr2.frozen
    have zr2 := kr2.lt
    have cl := kl.cell
    have fl := kl.frozen
    have zl := kl.lt
    have zn := kn.lt
    clear H1 H2
    go_wp2_with fail
    have kl0 : ∀ d os, (Sort.grow (redrawn W d) os).cell? ⟨gl, 0, none⟩ = some (.slice (some ⟨gn, 0, none⟩) 4 4) := fun d os => cell_regrown (kl.cell 0) d os
    refine wp_region_float (S := Grw W) [true, true, true, true, false, true, true, false, true, true, false, true, true, false, true, true, false, false, false, false, false] 18 (by kernel_rfl) (by kernel_rfl) (Grw.drew W) ?_
    simp only [selQ, selN, earlyN]
    repeat (first | go_big_quiet_skip | (go_big_quiet_want; go_big_quiet_op; go_big_quiet_on))
    refine wpQuiet_nil ?_
    have Bd : Bl W W.drew := (Bl.refl W).drew
    refine wpN_want rfl (fun K hK => ?_)
    go_big_op
    (with_reducible refine (num_any _ _ _ _ _ (P0.out.below (B2.trans Bd)) (HB.out.sub 4 8) (by omega) (by omega)).mono ?_)
    rintro e w2 ⟨rfl, rfl⟩
    refine hK _ _ (Grw.of Bd) ?_
    clear hK K
    refine wpN_want rfl (fun K hK => ?_)
    go_big_op
    (with_reducible refine (num_any _ _ _ _ _ (P1.out.below (B2.trans Bd)) (HB.out.sub 8 12) (by omega) (by omega)).mono ?_)
    rintro e w2 ⟨rfl, rfl⟩
    refine hK _ _ (Grw.of Bd) ?_
    clear hK K
    refine wpN_want rfl (fun K hK => ?_)
    go_big_op
    (with_reducible refine (num_any _ _ _ _ _ (P2.out.below (B2.trans Bd)) (HB.out.sub 12 14) (by omega) (by omega)).mono ?_)
    rintro e w2 ⟨rfl, rfl⟩
    refine hK _ _ (Grw.of Bd) ?_
    clear hK K
    refine wpN_want rfl (fun K hK => ?_)
    go_big_op
    (with_reducible refine (num_any _ _ _ _ _ (P3.out.below (B2.trans Bd)) (HB.out.sub 14 16) (by omega) (by omega)).mono ?_)
    rintro e w2 ⟨rfl, rfl⟩
    refine hK _ _ (Grw.of Bd) ?_
    clear hK K
    refine wpN_want rfl (fun K hK => ?_)
    go_big_op
    (with_reducible refine (num_any _ _ _ _ _ (P4.out.below (B2.trans Bd)) (HB.out.sub 16 20) (by omega) (by omega)).mono ?_)
    rintro e w2 ⟨rfl, rfl⟩
    refine hK _ _ (Grw.of Bd) ?_
    clear hK K
    refine wpN_want rfl (fun K hK => ?_)
    go_big_op
    have X3 : Bl W (W.alloc (.cells #[.int .u64 (be (sub l 4 8)), .int .u64 (be (sub l 8 12)), .int .u64 (be (sub l 12 14)), .int .u64 (be (sub l 14 16)), .int .u64 (be (sub l 16 20))] 26)).drew := ((Bl.refl W).trans (by go_grown)).drew
    refine hK _ _ (Grw.of X3) ?_
    clear hK K
    refine wpN_late ?_
    have ow := kn.own (B := w.heap.size) (Nat.le_of_lt n2) rfl (by show 4 ≤ maxLen; decide)
    have OW := Lib.hid ((ow.alloc (.cells #[.int .u64 (be (sub l 4 8)), .int .u64 (be (sub l 8 12)), .int .u64 (be (sub l 12 14)), .int .u64 (be (sub l 14 16)), .int .u64 (be (sub l 16 20))] 26)).drew)
    have BX := B2.trans X3
    clear ow
    refine wpList_app rfl _ _ 31 26 (.int .u64 0) 1 8 w.heap.size rfl u31j info26 rfl (by decide) (by decide) (.slice (some ⟨gn, 0, none⟩) 4 4) 4 _ _ 5 _ _ rfl rfl OW.out ((Blk.src (Blk.new W #[.int .u64 (be (sub l 4 8)), .int .u64 (be (sub l 8 12)), .int .u64 (be (sub l 12 14)), .int .u64 (be (sub l 14 16)), .int .u64 (be (sub l 16 20))] 26) 5 1 rfl (fun u hu => by simp at hu; rcases hu with rfl | rfl | rfl | rfl | rfl <;> rfl)).below ((Bl.refl _).drew)) (by omega) BX.size ?_
    intro A5 c5 w3 hp
    have hgl : (Value.slice (some ⟨gn, 0, none⟩) 4 4).ownBlock ≠ some gl := by simp [Value.ownBlock]; omega
    have hgr : (Value.slice (some ⟨gn, 0, none⟩) 4 4).ownBlock ≠ some w.heap.size := by simp [Value.ownBlock]; omega
    have kl3 := hp.blk (kl.below X3) hgl
    have kr3 := hp.blk (kr2.below X3) hgr
    have B4 := hp.bl OW.out BX
    have ho3 := Lib.hid hp.own
    have cl3 := kl3.cell
    have fl3 := kl3.frozen
    have zl3 := kl3.lt
    have cr3 := kr3.cell
    have fr3 := kr3.frozen
    have zr3 := kr3.lt
    clear cl fl zl zn cr fr zr2 hp kl0
    go_wp2_with fail
    refine NoPanic.normal ?_
    go_wp2_with fail
    have hgne : w.heap.size ≠ gl := Nat.ne_of_lt n3
    have kl4 := kl3.set 0 (.slice A5 9 c5)
    simp only [List.setIfInBounds_toArray, List.set_cons_zero] at kl4
    have kr4 := kr3.far (p := ⟨gl, 0, none⟩) hgne (.slice A5 9 c5)
    have ho4 := own_set ho3.out kl3 (by decide) 0 (.slice A5 9 c5)
    have B5 : Bl w (w3.setCell ⟨gl, 0, none⟩ (.slice A5 9 c5)) := Below.setCell B4 (Nat.le_of_lt n3) _
    have HO4 := Lib.hid ho4
    clear cl3 fl3 zl3 cr3 fr3 zr3 kl3 kr3 ho4 ho3 B4
    generalize w3.setCell ⟨gl, 0, none⟩ (.slice A5 9 c5) = W4 at *
    have RB := Lib.hid ((HH.out.below B5).cut 20 V (by omega) (by omega))
    have zl4 := kl4.lt
    have zr4 := kr4.lt
    (with_reducible refine (prm_any (fun k => k < B ∨ W4.heap.size ≤ k) _ _ _ _ _ RB.out (HB.out.sub 20 V) (cutA_inF (HA.out.mono fun _ h => .inl h) (fun _ => by omega)) (fun k h => .inr h) (by omega)).mono ?_)
    rintro e w5 ⟨hb5, hX⟩
    have kr5 := Blk.keep hb5 kr4
    have kl5 := Blk.keep hb5 kl4
    have cr5 := kr5.cell
    have fr5 := kr5.frozen
    have zr5 := kr5.lt
    have cl5 := kl5.cell
    have fl5 := kl5.frozen
    have zl5 := kl5.lt
    have B6 := B5.trans hb5
    have hz5 := hb5.size
    have ho5 := own_bl HO4.out hb5
    rcases hX with ⟨hX, rfl⟩ | ⟨v, ps', hX, rfl, hP⟩
    · go_wp2_with fail
      (with_reducible refine (none_any _).mono ?_)
      rintro e w6 ⟨rfl, hb6⟩
      have kr6 := Blk.keep hb6 kr5
      have cr6 := kr6.cell
      have fr6 := kr6.frozen
      have zr6 := kr6.lt
      have B7 := B6.trans hb6
      unfold zeroLyr
      clear cr5 fr5 zr5 cl5 fl5 zl5
      go_wp2_with fail
      refine bodyPost_ret (v := .tuple #[zeroLyr, .bool false, .bool true]) (by simp [results, Try.results43, go_sem, cr6, zeroLyr]) rfl (told_zero _ _ _ _ (Bl.boxed B7 (Nat.le_refl _) _ _ _ _))
    · exact absurd (HPS.out.symm.trans hX) (by simp)
end Go.Proofs.Ytoljdgfbkebgcaa
namespace Go.Proofs.Ytoljdgfbkebgcaa
open Go.RowKit
set_option linter.unusedVariables false
theorem decIni_at (l : List Int) (hl : By l) (hk : kindOf (l.getD 0 0) = ⟨#[115, 99, 116, 112, 105, 110, 105, 116]⟩) (h4' : 4 ≤ chL l) (hup : up4 (chL l) ≤ l.length) (h0 : l.getD 0 0 ≠ 0) (hn2 : l.length ≤ 2000) (h20 : 20 ≤ chL l) (hm : chL l % 4 = 0) (hf : fullOf (sub l 20 (chL l)) = true) : DecAt l := by
  intro A n c w h
  have hlen := h.len
  rw [hk]
  have hc := calledIni_any l hl h4' h20 hm hup h0 hn2
  rw [hf] at hc
  refine (decodedNP_ok _ l _ _ (fun A n c w w' gl h hb => by obtain ⟨v, q, B, h1, h2⟩ := h; exact ⟨v, q, B, Blk.keep hb h1, own_bl h2 hb⟩) hn2 hc (zzIni_ok l hl h4' h20 hm hup h0 hn2 hf) A n c w h).mono ?_
  rintro e w1 ⟨A1, c1, gl, rfl, hb1, ⟨v, q, B, kl, ho⟩, r1, i1⟩
  exact Obj1.dec h0 rfl hup (by omega) rfl meth105 hb1 kl (by decide) rfl rfl r1 i1
theorem Ini_kind (l : List Int) (hl : By l) (hn : l.length ≤ 2147483647) (hk : kindOf (l.getD 0 0) = ⟨#[115, 99, 116, 112, 105, 110, 105, 116]⟩) : KindAt l := by
  have hs : ((⟨#[115, 99, 116, 112, 105, 110, 105, 116]⟩ : ByteArray).toList == [115, 99, 116, 112]) = false := by simp [go_sem]
  have hd : ((⟨#[115, 99, 116, 112, 105, 110, 105, 116]⟩ : ByteArray).toList == [115, 99, 116, 112, 100, 97, 116, 97]) = false := by simp [go_sem]
  by_cases h4 : l.length < 4
  · exact KindAt.no hk nilLyr false true (sr_short _ l hs h4) rfl
  have hk' : ((kindOf (l.getD 0 0)).toList == (⟨#[115, 99, 116, 112, 105, 110, 105, 116]⟩ : ByteArray).toList) = true := by rw [hk]; simp
  have h0 : l.getD 0 0 ≠ 0 := by
    intro h0
    rw [h0] at hk
    rw [← hk] at hd
    simp [kindOf, kDat, go_sem] at hd
  by_cases hL : chL l < 4
  · exact KindAt.no hk nilLyr false true (sr_low _ l hl hs (by omega) (by omega) hk' hL) rfl
  by_cases hlong : l.length < chL l
  · exact KindAt.no hk nilLyr false true (sr_long _ l hl hs (by omega) (by omega) hk' hd hlong) rfl
  by_cases hup : l.length < up4 (chL l)
  · exact KindAt.no hk nilLyr false false (sr_full _ l hl hs (by omega) (by omega) hk' hd (by omega) (by omega) hup) rfl
  by_cases hm' : ¬ (20 ≤ chL l ∧ chL l % 4 = 0)
  · exact KindAt.no hk nilLyr false false (srIni_odd l hl (by omega) (by omega) (by omega) hm' hk) rfl
  have h20 : 20 ≤ chL l := by omega
  have hm : chL l % 4 = 0 := by omega
  have hsl : (sub l 20 (chL l)).length = chL l - 20 := sub_length _ _ _ (by omega)
  have hfp := full_prms _ (sub l 20 (chL l)) (Nat.le_refl _) (by omega)
  cases hp : prmsOf (sub l 20 (chL l)) with
  | none => exact KindAt.no hk nilLyr false true (srIni_bad l hl (by omega) h20 (by omega) (by omega) hm hp hk) rfl
  | some ps =>
    rw [hp] at hfp
    exact ⟨_, true, true, by rw [hk]; exact srIni_some l hl (by omega) h20 (by omega) (by omega) hm ps hp hk, fun _ _ => ⟨by omega, by omega, ⟨_, rfl⟩, fun h => absurd h h0, fun h2 => decIni_at l hl hk (by omega) (by omega) h0 h2 h20 hm hfp⟩⟩
end Go.Proofs.Ytoljdgfbkebgcaa
namespace Go.Proofs.Ytoljdgfbkebgcaa
open Go.RowKit
set_option linter.unusedVariables false
/-- Of what was there only block g has changed. -/
structure Chg (g : Nat) (w w' : World) : Prop where
  os : w'.os = w.os
  tape : w'.tape = w.tape
  output : w'.output = w.output
  size : w.heap.size ≤ w'.heap.size
  block : ∀ k, k ≠ g → k < w.heap.size → w'.heap[k]? = w.heap[k]?
theorem Chg.of {g : Nat} {w w' : World} (h : Bl w w') : Chg g w w' := ⟨h.os, h.tape, h.output, h.size, fun k _ hk => h.block k hk⟩
theorem Chg.refl (g : Nat) (w : World) : Chg g w w := .of (Bl.refl w)
theorem Chg.trans {g : Nat} {a b c : World} (h : Chg g a b) (k : Chg g b c) : Chg g a c :=
  ⟨k.os.trans h.os, k.tape.trans h.tape, k.output.trans h.output, Nat.le_trans h.size k.size, fun i hi hk => (k.block i hi (Nat.lt_of_lt_of_le hk h.size)).trans (h.block i hi hk)⟩
theorem Chg.set {g : Nat} {a b : World} (h : Chg g a b) (i : Nat) (u : Value) : Chg g a (b.setCell ⟨g, i, none⟩ u) :=
  ⟨h.os, h.tape, h.output, by simpa using h.size, fun k hk hlt => (Below.heap_setCell b ⟨g, i, none⟩ u k hk).trans (h.block k hk hlt)⟩
theorem Chg.new {g : Nat} {a b : World} (h : Chg g a b) {p : Addr} (hp : a.heap.size ≤ p.block) (u : Value) : Chg g a (b.setCell p u) :=
  ⟨h.os, h.tape, h.output, by simpa using h.size, fun k hk hlt => (Below.heap_setCell b p u k (by omega)).trans (h.block k hk hlt)⟩
theorem Chg.drewN {g : Nat} {a b : World} (h : Chg g a b) (n : Nat) : Chg g a (b.drewN n) := ⟨h.os, h.tape, h.output, h.size, h.block⟩
theorem Chg.below {g B : Nat} {w w' : World} (h : Chg g w w') (hB : B ≤ g) (hs : B ≤ w.heap.size) : Below B w w' :=
  ⟨h.os, h.tape, h.output, h.size, fun k hk => h.block k (Nat.ne_of_lt (Nat.lt_of_lt_of_le hk hB)) (Nat.lt_of_lt_of_le hk hs)⟩
theorem Chg.bl {g : Nat} {a w w' : World} (h : Chg g w w') (hb : Bl a w) (hg : a.heap.size ≤ g) : Bl a w' := Below.trans hb (h.below hg hb.size)
theorem Blk.chg {w w' : World} {g g' : Nat} {cs : Array Value} {T : TypeId} (k : Blk w g' cs T) (h : Chg g w w') (hne : g' ≠ g) : Blk w' g' cs T := ⟨(h.block g' hne k.lt).trans k.heap⟩
theorem Rd.chg {k : IntKind} {w w' : World} {g : Nat} {A : Option Addr} {n c : Nat} {l : List Int} (h : Rd k w A n c l) (hc : Chg g w w') (hne : InF (· ≠ g) A n) : Rd k w' A n c l :=
  ⟨h.len, h.cap, fun i hi => by
    obtain ⟨g', o, e, hcell⟩ := h.cell i hi
    have h1 : g' ≠ g := hne (by omega) _ e
    exact ⟨g', o, e, (World.cell?_of_block (hc.block g' h1 (World.block_lt_of_cell? w _ hcell))).trans hcell⟩⟩
/-- A taker's cells. -/
def tkC (A0 : Option Addr) (n0 c0 : Nat) (v1 v2 v3 : Value) (i d : Int) (lists : Bool) : Array Value := #[.slice A0 n0 c0, v1, v2, v3, .int .i64 i, .int .i64 d, .bool false, .bool lists]
set_option maxHeartbeats 1000000 in
theorem take8 (gt : Nat) (A0 : Option Addr) (n0 c0 : Nat) (v1 v2 v3 : Value) (i : Nat) (i' d : Int) (ls : Bool) (l : List Int) (x : Int) (w : World) (k : Blk w gt (tkC A0 n0 c0 v1 v2 v3 i' d ls) 89) (h : Rd .u64 w A0 n0 c0 l) (hne : InF (· ≠ gt) A0 n0) (ei : i' = i) (hi : i < n0) (hn : n0 ≤ 1000)
    (hx : l.getD i 0 = x) (h0 : 0 ≤ x) (h1 : x ≤ 255) :
    Calls Try.prog 55 #[.pointer (some ⟨gt, 0, none⟩), .int .i64 8] w fun e w' => e = .returned (.int .u64 x) ∧ Chg gt w w' ∧ Blk w' gt (tkC A0 n0 c0 v1 v2 v3 (i' + 1) d ls) 89 := by
  subst ei
  obtain ⟨g, o, rfl, hg, hc⟩ := h.at (by omega)
  have ci := hc i hi
  have hg' : g ≠ gt := hne (by omega) _ rfl
  rw [hx] at ci
  have K := Lib.hid k
  have kc := k.cell
  have kf := k.frozen
  have kz := k.lt
  unfold tkC at kc
  have hs : x / 256 = 0 := by omega
  have hi' : (i : Int) < (n0 : Int) := by omega
  clear h hc k hx hne
  go_enter Try.func55, Try.ntmps55
  go_wp2_with fail
  go_quiet (fail)
  go_wp2_with fail
  have X := Chg.drewN (Chg.refl gt w) nq
  have k2 : Blk ((w.drewN nq).setCell ⟨gt, 4, none⟩ (.int .i64 ((i : Int) + 1))) gt (tkC (some ⟨g, o, none⟩) n0 c0 v1 v2 v3 ((i : Int) + 1) d ls) 89 := (K.out.same (w' := w.drewN nq) rfl).set 4 _
  have X2 := X.set 4 (.int .i64 ((i : Int) + 1))
  have ci2 : ((w.drewN nq).setCell ⟨gt, 4, none⟩ (.int .i64 ((i : Int) + 1))).cell? ⟨g, o + i, none⟩ = some (.int .u64 x) := (World.cell?_of_block (X2.block g hg' hg)).trans ci
  have K2 := Lib.hid k2
  have kc2 := k2.cell
  unfold tkC at kc2
  clear k2 kc kf kz ci X
  generalize (w.drewN nq).setCell ⟨gt, 4, none⟩ (.int .i64 ((i : Int) + 1)) = W at *
  go_quiet (fail)
  go_wp2_with fail
  go_ret
  exact ⟨rfl, X2.drewN _, K2.out.same rfl⟩
set_option maxHeartbeats 1000000 in
theorem take16 (gt : Nat) (A0 : Option Addr) (n0 c0 : Nat) (v1 v2 v3 : Value) (i : Nat) (i' d : Int) (ls : Bool) (l : List Int) (x : Int) (w : World) (k : Blk w gt (tkC A0 n0 c0 v1 v2 v3 i' d ls) 89) (h : Rd .u64 w A0 n0 c0 l) (hne : InF (· ≠ gt) A0 n0) (ei : i' = i) (hi : i < n0) (hn : n0 ≤ 1000)
    (hx : l.getD i 0 = x) (h0 : 0 ≤ x) (h1 : x ≤ 65535) :
    Calls Try.prog 55 #[.pointer (some ⟨gt, 0, none⟩), .int .i64 16] w fun e w' => e = .returned (.int .u64 x) ∧ Chg gt w w' ∧ Blk w' gt (tkC A0 n0 c0 v1 v2 v3 (i' + 1) d ls) 89 := by
  subst ei
  obtain ⟨g, o, rfl, hg, hc⟩ := h.at (by omega)
  have ci := hc i hi
  have hg' : g ≠ gt := hne (by omega) _ rfl
  rw [hx] at ci
  have K := Lib.hid k
  have kc := k.cell
  have kf := k.frozen
  have kz := k.lt
  unfold tkC at kc
  have hs : x / 65536 = 0 := by omega
  have hi' : (i : Int) < (n0 : Int) := by omega
  clear h hc k hx hne
  go_enter Try.func55, Try.ntmps55
  go_wp2_with fail
  go_quiet (fail)
  go_wp2_with fail
  have X := Chg.drewN (Chg.refl gt w) nq
  have k2 : Blk ((w.drewN nq).setCell ⟨gt, 4, none⟩ (.int .i64 ((i : Int) + 1))) gt (tkC (some ⟨g, o, none⟩) n0 c0 v1 v2 v3 ((i : Int) + 1) d ls) 89 := (K.out.same (w' := w.drewN nq) rfl).set 4 _
  have X2 := X.set 4 (.int .i64 ((i : Int) + 1))
  have ci2 : ((w.drewN nq).setCell ⟨gt, 4, none⟩ (.int .i64 ((i : Int) + 1))).cell? ⟨g, o + i, none⟩ = some (.int .u64 x) := (World.cell?_of_block (X2.block g hg' hg)).trans ci
  have K2 := Lib.hid k2
  have kc2 := k2.cell
  unfold tkC at kc2
  clear k2 kc kf kz ci X
  generalize (w.drewN nq).setCell ⟨gt, 4, none⟩ (.int .i64 ((i : Int) + 1)) = W at *
  go_quiet (fail)
  go_wp2_with fail
  go_ret
  exact ⟨rfl, X2.drewN _, K2.out.same rfl⟩
set_option maxHeartbeats 1000000 in
theorem take32 (gt : Nat) (A0 : Option Addr) (n0 c0 : Nat) (v1 v2 v3 : Value) (i : Nat) (i' d : Int) (ls : Bool) (l : List Int) (x : Int) (w : World) (k : Blk w gt (tkC A0 n0 c0 v1 v2 v3 i' d ls) 89) (h : Rd .u64 w A0 n0 c0 l) (hne : InF (· ≠ gt) A0 n0) (ei : i' = i) (hi : i < n0) (hn : n0 ≤ 1000)
    (hx : l.getD i 0 = x) (h0 : 0 ≤ x) (h1 : x ≤ 4294967295) :
    Calls Try.prog 55 #[.pointer (some ⟨gt, 0, none⟩), .int .i64 32] w fun e w' => e = .returned (.int .u64 x) ∧ Chg gt w w' ∧ Blk w' gt (tkC A0 n0 c0 v1 v2 v3 (i' + 1) d ls) 89 := by
  subst ei
  obtain ⟨g, o, rfl, hg, hc⟩ := h.at (by omega)
  have ci := hc i hi
  have hg' : g ≠ gt := hne (by omega) _ rfl
  rw [hx] at ci
  have K := Lib.hid k
  have kc := k.cell
  have kf := k.frozen
  have kz := k.lt
  unfold tkC at kc
  have hs : x / 4294967296 = 0 := by omega
  have hi' : (i : Int) < (n0 : Int) := by omega
  clear h hc k hx hne
  go_enter Try.func55, Try.ntmps55
  go_wp2_with fail
  go_quiet (fail)
  go_wp2_with fail
  have X := Chg.drewN (Chg.refl gt w) nq
  have k2 : Blk ((w.drewN nq).setCell ⟨gt, 4, none⟩ (.int .i64 ((i : Int) + 1))) gt (tkC (some ⟨g, o, none⟩) n0 c0 v1 v2 v3 ((i : Int) + 1) d ls) 89 := (K.out.same (w' := w.drewN nq) rfl).set 4 _
  have X2 := X.set 4 (.int .i64 ((i : Int) + 1))
  have ci2 : ((w.drewN nq).setCell ⟨gt, 4, none⟩ (.int .i64 ((i : Int) + 1))).cell? ⟨g, o + i, none⟩ = some (.int .u64 x) := (World.cell?_of_block (X2.block g hg' hg)).trans ci
  have K2 := Lib.hid k2
  have kc2 := k2.cell
  unfold tkC at kc2
  clear k2 kc kf kz ci X
  generalize (w.drewN nq).setCell ⟨gt, 4, none⟩ (.int .i64 ((i : Int) + 1)) = W at *
  go_quiet (fail)
  go_wp2_with fail
  go_ret
  exact ⟨rfl, X2.drewN _, K2.out.same rfl⟩
set_option maxHeartbeats 1000000 in
theorem take1 (gt : Nat) (A0 : Option Addr) (n0 c0 : Nat) (v1 v2 v3 : Value) (i : Nat) (i' d : Int) (ls : Bool) (l : List Int) (x : Int) (w : World) (k : Blk w gt (tkC A0 n0 c0 v1 v2 v3 i' d ls) 89) (h : Rd .u64 w A0 n0 c0 l) (hne : InF (· ≠ gt) A0 n0) (ei : i' = i) (hi : i < n0) (hn : n0 ≤ 1000)
    (hx : l.getD i 0 = x) (h0 : 0 ≤ x) (h1 : x ≤ 1) :
    Calls Try.prog 55 #[.pointer (some ⟨gt, 0, none⟩), .int .i64 1] w fun e w' => e = .returned (.int .u64 x) ∧ Chg gt w w' ∧ Blk w' gt (tkC A0 n0 c0 v1 v2 v3 (i' + 1) d ls) 89 := by
  subst ei
  obtain ⟨g, o, rfl, hg, hc⟩ := h.at (by omega)
  have ci := hc i hi
  have hg' : g ≠ gt := hne (by omega) _ rfl
  rw [hx] at ci
  have K := Lib.hid k
  have kc := k.cell
  have kf := k.frozen
  have kz := k.lt
  unfold tkC at kc
  have hs : x / 2 = 0 := by omega
  have hi' : (i : Int) < (n0 : Int) := by omega
  clear h hc k hx hne
  go_enter Try.func55, Try.ntmps55
  go_wp2_with fail
  go_quiet (fail)
  go_wp2_with fail
  have X := Chg.drewN (Chg.refl gt w) nq
  have k2 : Blk ((w.drewN nq).setCell ⟨gt, 4, none⟩ (.int .i64 ((i : Int) + 1))) gt (tkC (some ⟨g, o, none⟩) n0 c0 v1 v2 v3 ((i : Int) + 1) d ls) 89 := (K.out.same (w' := w.drewN nq) rfl).set 4 _
  have X2 := X.set 4 (.int .i64 ((i : Int) + 1))
  have ci2 : ((w.drewN nq).setCell ⟨gt, 4, none⟩ (.int .i64 ((i : Int) + 1))).cell? ⟨g, o + i, none⟩ = some (.int .u64 x) := (World.cell?_of_block (X2.block g hg' hg)).trans ci
  have K2 := Lib.hid k2
  have kc2 := k2.cell
  unfold tkC at kc2
  clear k2 kc kf kz ci X
  generalize (w.drewN nq).setCell ⟨gt, 4, none⟩ (.int .i64 ((i : Int) + 1)) = W at *
  go_quiet (fail)
  go_wp2_with fail
  go_ret
  exact ⟨rfl, X2.drewN _, K2.out.same rfl⟩
theorem takeT (gt : Nat) (A0 : Option Addr) (n0 c0 : Nat) (v1 v2 v3 : Value) (i : Nat) (i' d : Int) (ls : Bool) (l : List Int) (x : Int) (w : World) (k : Blk w gt (tkC A0 n0 c0 v1 v2 v3 i' d ls) 89) (h : Rd .u64 w A0 n0 c0 l) (hne : InF (· ≠ gt) A0 n0) (ei : i' = i) (hi : i < n0) (hn : n0 ≤ 1000)
    (hx : l.getD i 0 = x) (h0 : 0 ≤ x) (h1 : x ≤ 1) :
    Calls Try.prog 57 #[.pointer (some ⟨gt, 0, none⟩)] w fun e w' => e = .returned (.bool (x == 1)) ∧ Chg gt w w' ∧ Blk w' gt (tkC A0 n0 c0 v1 v2 v3 (i' + 1) d ls) 89 := by
  have H := Lib.hid (take1 gt A0 n0 c0 v1 v2 v3 i i' d ls l x w k h hne ei hi hn hx h0 h1)
  clear k h hne ei hi hn hx h0 h1
  go_enter Try.func57, Try.ntmps57
  go_wp2_with fail
  (with_reducible refine H.out.mono ?_)
  rintro e w1 ⟨rfl, hc, hk⟩
  go_wp2_with fail
  go_ret
  exact ⟨rfl, hc, hk⟩
end Go.Proofs.Ytoljdgfbkebgcaa
