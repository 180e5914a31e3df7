/- spec.Read: sctpinit, where there is one. -/
import Derived.Test.YtoljdgfbkebgcaaPq10
import Derived.Test.YtoljdgfbkebgcaaPq07
import Derived.Test.YtoljdgfbkebgcaaPq04
import Derived.Test.YtoljdgfbkebgcaaPq08
namespace Go.Proofs.Ytoljdgfbkebgcaa
open Go.RowKit
set_option linter.unusedVariables false
theorem u31i : Try.prog.underlying 31 = some (.slice 26) := by kernel_rfl
set_option maxHeartbeats 4000000 in
set_option maxRecDepth 100000 in
theorem srIni_some (l : List Int) (hl : By l) (h4' : 4 ≤ chL l) (h20 : 20 ≤ chL l) (hup : up4 (chL l) ≤ l.length) (hn2 : l.length ≤ 2147483647) (hm : chL l % 4 = 0) (ps : List Prt) (hps : prmsOf (sub l 20 (chL l)) = some ps) (hk : kindOf (l.getD 0 0) = ⟨#[115, 99, 116, 112, 105, 110, 105, 116]⟩) :
    SpecAt ⟨#[115, 99, 116, 112, 105, 110, 105, 116]⟩ l ⟨[l.getD 0 0, l.getD 1 0, be (sub l 2 4), (up4 (chL l) : Int), be (sub l 4 8), be (sub l 8 12), be (sub l 12 14), be (sub l 14 16), be (sub l 16 20)], [], ps, sub l (up4 (chL l)) l.length⟩ true true := by
  intro A n c B w h hA hBw
  have u4 : chL l ≤ up4 (chL l) := by unfold up4; omega
  have hlen := h.len
  have h4 : 4 ≤ n := by omega
  have h5 : n ≤ 2147483647 := by omega
  have hcap := h.cap
  have HH := Lib.hid h
  have HA := Lib.hid hA
  have s1 := run_cut A n c 2 4 2 4 rfl rfl (by omega) (by omega) 24 Try.underlying24 size5
  have s2 := run_cut_l A n c (up4 (chL l)) _ rfl (by omega) 24 Try.underlying24 size5
  have s3 := run_cut A n c 4 (chL l) 4 (be (sub l 2 4)) rfl (chL_int l hl) h4' (by omega) 24 Try.underlying24 size5
  have R1 := Lib.hid (h.cutm 2 4 2 (by omega) (by omega))
  have HB := Lib.hid hl
  have b1 := be_bd2 (sub l 2 4) (hl.sub _ _) (by rw [sub_length _ _ _ (by omega)])
  have b0 := hl.getD 0
  have b0' := hl.getD 1
  have e1 := chL_int l hl
  have b9 : be (sub l 2 4) % 4 = 0 := by omega
  have b20 : 20 ≤ be (sub l 2 4) := by omega
  have hV : chL l ≤ n := by omega
  have s20 := run_cut A n c 20 (chL l) 20 (be (sub l 2 4)) rfl e1 h20 (by omega) 24 Try.underlying24 size5
  have q0 := run_cut A n c 4 8 4 8 rfl rfl (by omega) (by omega) 24 Try.underlying24 size5
  have P0 := Lib.hid (h.cutm 4 8 4 (by omega) (by omega))
  have q1 := run_cut A n c 8 12 8 12 rfl rfl (by omega) (by omega) 24 Try.underlying24 size5
  have P1 := Lib.hid (h.cutm 8 12 4 (by omega) (by omega))
  have q2 := run_cut A n c 12 14 12 14 rfl rfl (by omega) (by omega) 24 Try.underlying24 size5
  have P2 := Lib.hid (h.cutm 12 14 2 (by omega) (by omega))
  have q3 := run_cut A n c 14 16 14 16 rfl rfl (by omega) (by omega) 24 Try.underlying24 size5
  have P3 := Lib.hid (h.cutm 14 16 2 (by omega) (by omega))
  have q4 := run_cut A n c 16 20 16 20 rfl rfl (by omega) (by omega) 24 Try.underlying24 size5
  have P4 := Lib.hid (h.cutm 16 20 4 (by omega) (by omega))
  have HPS := Lib.hid hps
  clear hps
  have b2 : 4 ≤ be (sub l 2 4) := by omega
  have b3 : be (sub l 2 4) ≤ (n : Int) := by omega
  have e2 : (be (sub l 2 4) + 3) / 4 * 4 = (up4 (chL l) : Int) := by rw [e1]; unfold up4; omega
  have b4 : (up4 (chL l) : Int) ≤ (n : Int) := by omega
  obtain ⟨g, o, rfl, hg, hc⟩ := h.at (by omega)
  have d0 := hc 0 (by omega)
  have d1 := hc 1 (by omega)
  simp only [Nat.add_zero] at d0
  have HK := Lib.hid hk
  generalize l.getD 0 0 = x0 at *
  generalize l.getD 1 0 = x1 at *
  generalize up4 (chL l) = U at *
  generalize chL l = V at *
  clear h hn2 hc hl hk e1 hA
  go_enter Try.func43, Try.ntmps43
  go_wp2_with fail
  (with_reducible refine (num_any _ _ _ _ _ (R1.out.below (by go_grown)) (HB.out.sub 2 4) (by omega) (by omega)).mono ?_)
  rintro e w1 ⟨rfl, rfl⟩
  generalize G2 : be (sub l 2 4) = L at *
  go_wp2_with fail
  (with_reducible refine (sup_any _ (by omega) (by omega) _).mono ?_)
  rintro e w1 ⟨rfl, rfl⟩
  rw [e2]
  go_wp2_with fail
  (with_reducible refine (kind_any _ _).mono ?_)
  rintro e w1 ⟨rfl, hb1⟩
  rw [HK.out]
  have kr := Blk.keep hb1 (Blk.new w _ _)
  have cr := kr.cell
  have fr := kr.frozen
  have zr := kr.lt
  have B1 : Bl w w1 := Bl.trans (by go_grown) hb1
  have d0' := (B1.cell (p := ⟨g, o, none⟩) hg).trans d0
  have d1' := (B1.cell (p := ⟨g, o + 1, none⟩) hg).trans d1
  have zg : g < w1.heap.size := Nat.lt_of_lt_of_le hg B1.size
  have HX := Lib.hid HH
  clear d0 d1 hb1
  go_wp2_with fail
  go_region
  · have B2 : Bl w (((w1.alloc (.cells #[.int .u64 x0, .int .u64 x1, .int .u64 L, .int .u64 U] 26)).alloc (.cells #[.slice (some ⟨w1.heap.size, 0, none⟩) 4 4, .slice none 0 0, .slice none 0 0, .slice (cutA (some ⟨g, o, none⟩) c U) (n - U) (c - U)] 35)).drew) := ((B1.alloc (by (try simp); omega) _).alloc (by (try simp); omega) _).drew
    have kr2 : Blk (((w1.alloc (.cells #[.int .u64 x0, .int .u64 x1, .int .u64 L, .int .u64 U] 26)).alloc (.cells #[.slice (some ⟨w1.heap.size, 0, none⟩) 4 4, .slice none 0 0, .slice none 0 0, .slice (cutA (some ⟨g, o, none⟩) c U) (n - U) (c - U)] 35)).drew) w.heap.size #[.slice none 0 0, .slice none 0 0, .slice none 0 0, .slice none 0 0] 35 := (((kr.alloc _).alloc _).same rfl)
    have kn : Blk (((w1.alloc (.cells #[.int .u64 x0, .int .u64 x1, .int .u64 L, .int .u64 U] 26)).alloc (.cells #[.slice (some ⟨w1.heap.size, 0, none⟩) 4 4, .slice none 0 0, .slice none 0 0, .slice (cutA (some ⟨g, o, none⟩) c U) (n - U) (c - U)] 35)).drew) w1.heap.size #[.int .u64 x0, .int .u64 x1, .int .u64 L, .int .u64 U] 26 := (((Blk.newAt w1 #[.int .u64 x0, .int .u64 x1, .int .u64 L, .int .u64 U] 26 w1.heap.size rfl).alloc (.cells #[.slice (some ⟨w1.heap.size, 0, none⟩) 4 4, .slice none 0 0, .slice none 0 0, .slice (cutA (some ⟨g, o, none⟩) c U) (n - U) (c - U)] 35)).same rfl)
    have kl : Blk (((w1.alloc (.cells #[.int .u64 x0, .int .u64 x1, .int .u64 L, .int .u64 U] 26)).alloc (.cells #[.slice (some ⟨w1.heap.size, 0, none⟩) 4 4, .slice none 0 0, .slice none 0 0, .slice (cutA (some ⟨g, o, none⟩) c U) (n - U) (c - U)] 35)).drew) (w1.heap.size + 1) #[.slice (some ⟨w1.heap.size, 0, none⟩) 4 4, .slice none 0 0, .slice none 0 0, .slice (cutA (some ⟨g, o, none⟩) c U) (n - U) (c - U)] 35 := ((Blk.newAt (w1.alloc (.cells #[.int .u64 x0, .int .u64 x1, .int .u64 L, .int .u64 U] 26)) #[.slice (some ⟨w1.heap.size, 0, none⟩) 4 4, .slice none 0 0, .slice none 0 0, .slice (cutA (some ⟨g, o, none⟩) c U) (n - U) (c - U)] 35 (w1.heap.size + 1) (by simp)).same rfl)
    have n1 : w1.heap.size ≠ (w1.heap.size + 1) := by omega
    have n2 : w.heap.size < w1.heap.size := by omega
    have n3 : w.heap.size < (w1.heap.size + 1) := by omega
    clear cr fr
    generalize ((w1.alloc (.cells #[.int .u64 x0, .int .u64 x1, .int .u64 L, .int .u64 U] 26)).alloc (.cells #[.slice (some ⟨w1.heap.size, 0, none⟩) 4 4, .slice none 0 0, .slice none 0 0, .slice (cutA (some ⟨g, o, none⟩) c U) (n - U) (c - U)] 35)).drew = W at *
    generalize H2 : (w1.heap.size + 1) = gl at *
    generalize H1 : w1.heap.size = gn at *
    have cr := kr2.cell
    have fr := kr2.frozen
    have zr2 := kr2.lt
    have cl := kl.cell
    have fl := kl.frozen
    have zl := kl.lt
    have zn := kn.lt
    clear H1 H2
    go_wp2_with fail
    have kl0 : ∀ d os, (Sort.grow (redrawn W d) os).cell? ⟨gl, 0, none⟩ = some (.slice (some ⟨gn, 0, none⟩) 4 4) := fun d os => cell_regrown (kl.cell 0) d os
    refine wp_region_float (S := Grw W) [true, true, true, true, false, true, true, false, true, true, false, true, true, false, true, true, false, false, false, false, false] 18 (by kernel_rfl) (by kernel_rfl) (Grw.drew W) ?_
    simp only [selQ, selN, earlyN]
    repeat (first | go_big_quiet_skip | (go_big_quiet_want; go_big_quiet_op; go_big_quiet_on))
    refine wpQuiet_nil ?_
    have Bd : Bl W W.drew := (Bl.refl W).drew
    refine wpN_want rfl (fun K hK => ?_)
    go_big_op
    (with_reducible refine (num_any _ _ _ _ _ (P0.out.below (B2.trans Bd)) (HB.out.sub 4 8) (by omega) (by omega)).mono ?_)
    rintro e w2 ⟨rfl, rfl⟩
    refine hK _ _ (Grw.of Bd) ?_
    clear hK K
    refine wpN_want rfl (fun K hK => ?_)
    go_big_op
    (with_reducible refine (num_any _ _ _ _ _ (P1.out.below (B2.trans Bd)) (HB.out.sub 8 12) (by omega) (by omega)).mono ?_)
    rintro e w2 ⟨rfl, rfl⟩
    refine hK _ _ (Grw.of Bd) ?_
    clear hK K
    refine wpN_want rfl (fun K hK => ?_)
    go_big_op
    (with_reducible refine (num_any _ _ _ _ _ (P2.out.below (B2.trans Bd)) (HB.out.sub 12 14) (by omega) (by omega)).mono ?_)
    rintro e w2 ⟨rfl, rfl⟩
    refine hK _ _ (Grw.of Bd) ?_
    clear hK K
    refine wpN_want rfl (fun K hK => ?_)
    go_big_op
    (with_reducible refine (num_any _ _ _ _ _ (P3.out.below (B2.trans Bd)) (HB.out.sub 14 16) (by omega) (by omega)).mono ?_)
    rintro e w2 ⟨rfl, rfl⟩
    refine hK _ _ (Grw.of Bd) ?_
    clear hK K
    refine wpN_want rfl (fun K hK => ?_)
    go_big_op
    (with_reducible refine (num_any _ _ _ _ _ (P4.out.below (B2.trans Bd)) (HB.out.sub 16 20) (by omega) (by omega)).mono ?_)
    rintro e w2 ⟨rfl, rfl⟩
    refine hK _ _ (Grw.of Bd) ?_
    clear hK K
    refine wpN_want rfl (fun K hK => ?_)
    go_big_op
    have X3 : Bl W (W.alloc (.cells #[.int .u64 (be (sub l 4 8)), .int .u64 (be (sub l 8 12)), .int .u64 (be (sub l 12 14)), .int .u64 (be (sub l 14 16)), .int .u64 (be (sub l 16 20))] 26)).drew := ((Bl.refl W).trans (by go_grown)).drew
    refine hK _ _ (Grw.of X3) ?_
    clear hK K
    refine wpN_late ?_
    have ow := kn.own (B := w.heap.size) (Nat.le_of_lt n2) rfl (by show 4 ≤ maxLen; decide)
    have OW := Lib.hid ((ow.alloc (.cells #[.int .u64 (be (sub l 4 8)), .int .u64 (be (sub l 8 12)), .int .u64 (be (sub l 12 14)), .int .u64 (be (sub l 14 16)), .int .u64 (be (sub l 16 20))] 26)).drew)
    have BX := B2.trans X3
    clear ow
    refine wpList_app rfl _ _ 31 26 (.int .u64 0) 1 8 w.heap.size rfl u31i info26 rfl (by decide) (by decide) (.slice (some ⟨gn, 0, none⟩) 4 4) 4 _ _ 5 _ _ rfl rfl OW.out ((Blk.src (Blk.new W #[.int .u64 (be (sub l 4 8)), .int .u64 (be (sub l 8 12)), .int .u64 (be (sub l 12 14)), .int .u64 (be (sub l 14 16)), .int .u64 (be (sub l 16 20))] 26) 5 1 rfl (fun u hu => by simp at hu; rcases hu with rfl | rfl | rfl | rfl | rfl <;> rfl)).below ((Bl.refl _).drew)) (by omega) BX.size ?_
    intro A5 c5 w3 hp
    have hgl : (Value.slice (some ⟨gn, 0, none⟩) 4 4).ownBlock ≠ some gl := by simp [Value.ownBlock]; omega
    have hgr : (Value.slice (some ⟨gn, 0, none⟩) 4 4).ownBlock ≠ some w.heap.size := by simp [Value.ownBlock]; omega
    have kl3 := hp.blk (kl.below X3) hgl
    have kr3 := hp.blk (kr2.below X3) hgr
    have B4 := hp.bl OW.out BX
    have ho3 := Lib.hid hp.own
    have cl3 := kl3.cell
    have fl3 := kl3.frozen
    have zl3 := kl3.lt
    have cr3 := kr3.cell
    have fr3 := kr3.frozen
    have zr3 := kr3.lt
    clear cl fl zl zn cr fr zr2 hp kl0
    go_wp2_with fail
    refine NoPanic.normal ?_
    go_wp2_with fail
    have hgne : w.heap.size ≠ gl := Nat.ne_of_lt n3
    have kl4 := kl3.set 0 (.slice A5 9 c5)
    simp only [List.setIfInBounds_toArray, List.set_cons_zero] at kl4
    have kr4 := kr3.far (p := ⟨gl, 0, none⟩) hgne (.slice A5 9 c5)
    have ho4 := own_set ho3.out kl3 (by decide) 0 (.slice A5 9 c5)
    have B5 : Bl w (w3.setCell ⟨gl, 0, none⟩ (.slice A5 9 c5)) := Below.setCell B4 (Nat.le_of_lt n3) _
    have HO4 := Lib.hid ho4
    clear cl3 fl3 zl3 cr3 fr3 zr3 kl3 kr3 ho4 ho3 B4
    generalize w3.setCell ⟨gl, 0, none⟩ (.slice A5 9 c5) = W4 at *
    have RB := Lib.hid ((HH.out.below B5).cut 20 V (by omega) (by omega))
    have zl4 := kl4.lt
    have zr4 := kr4.lt
    (with_reducible refine (prm_any (fun k => k < B ∨ W4.heap.size ≤ k) _ _ _ _ _ RB.out (HB.out.sub 20 V) (cutA_inF (HA.out.mono fun _ h => .inl h) (fun _ => by omega)) (fun k h => .inr h) (by omega)).mono ?_)
    rintro e w5 ⟨hb5, hX⟩
    have kr5 := Blk.keep hb5 kr4
    have kl5 := Blk.keep hb5 kl4
    have cr5 := kr5.cell
    have fr5 := kr5.frozen
    have zr5 := kr5.lt
    have cl5 := kl5.cell
    have fl5 := kl5.frozen
    have zl5 := kl5.lt
    have B6 := B5.trans hb5
    have hz5 := hb5.size
    have ho5 := own_bl HO4.out hb5
    rcases hX with ⟨hX, rfl⟩ | ⟨v, ps', hX, rfl, hP⟩
    · exact absurd (HPS.out.symm.trans hX) (by simp)
    · obtain rfl : ps = ps' := by have := HPS.out.symm.trans hX; simpa using this
      obtain ⟨A6, c6, rfl⟩ : ∃ A6 c6, v = .slice A6 ps.length c6 := by obtain ⟨A6, c6, e, _⟩ := hP; exact ⟨A6, c6, e⟩
      have HP := Lib.hid hP
      have HO5 := Lib.hid ho5
      clear hP hX ho5
      go_wp2_with fail
      have BF : Bl w ((((((w5.setCell ⟨gl, 2, none⟩ (.slice A6 ps.length c6)).setCell ⟨w.heap.size, 0, none⟩ (.slice A5 9 c5)).setCell ⟨w.heap.size, 1, none⟩ (.slice none 0 0)).setCell ⟨w.heap.size, 2, none⟩ (.slice A6 ps.length c6)).setCell ⟨w.heap.size, 3, none⟩ (.slice (cutA (some ⟨g, o, none⟩) c U) (n - U) (c - U)))) := ((((Below.setCell B6 (Nat.le_of_lt n3) _).setCell (Nat.le_refl _) _).setCell (Nat.le_refl _) _).setCell (Nat.le_refl _) _).setCell (Nat.le_refl _) _
      have kr6 := kr5.far (p := ⟨gl, 2, none⟩) (Nat.ne_of_lt n3) (.slice A6 ps.length c6)
      have kr7 := kr6.set 0 (.slice A5 9 c5)
      have kr8 := kr7.set 1 (.slice none 0 0)
      have kr9 := kr8.set 2 (.slice A6 ps.length c6)
      have kf := kr9.set 3 (.slice (cutA (some ⟨g, o, none⟩) c U) (n - U) (c - U))
      have ho9 := own_numV (F := Fr B w) (l := [x0, x1, L, (U : Int), be (sub l 4 8), be (sub l 8 12), be (sub l 12 14), be (sub l 14 16), be (sub l 16 20)]) (own_set (own_set (own_set (own_set (own_set HO5.out kl5 (by decide) 2 (.slice A6 ps.length c6)) kr6 (by decide) 0 (.slice A5 9 c5)) kr7 (by decide) 1 (.slice none 0 0)) kr8 (by decide) 2 (.slice A6 ps.length c6)) kr9 (by decide) 3 (.slice (cutA (some ⟨g, o, none⟩) c U) (n - U) (c - U))) (fun k h1 _ => .inr h1)
      have hnr : ¬ (w.heap.size < B ∨ W4.heap.size ≤ w.heap.size) := by omega
      have hPF := HP.out.keepF (((((((KeepF.refl _ w5).setCell (p := ⟨gl, 2, none⟩) (by show ¬ (gl < B ∨ W4.heap.size ≤ gl); omega) (.slice A6 ps.length c6)).setCell (p := ⟨w.heap.size, 0, none⟩) hnr (.slice A5 9 c5)).setCell (p := ⟨w.heap.size, 1, none⟩) hnr (.slice none 0 0)).setCell (p := ⟨w.heap.size, 2, none⟩) hnr (.slice A6 ps.length c6)).setCell (p := ⟨w.heap.size, 3, none⟩) hnr (.slice (cutA (some ⟨g, o, none⟩) c U) (n - U) (c - U))))
      have cf := kf.cell
      clear kr6 kr7 kr8 kr9 kf
      generalize (((((w5.setCell ⟨gl, 2, none⟩ (.slice A6 ps.length c6)).setCell ⟨w.heap.size, 0, none⟩ (.slice A5 9 c5)).setCell ⟨w.heap.size, 1, none⟩ (.slice none 0 0)).setCell ⟨w.heap.size, 2, none⟩ (.slice A6 ps.length c6)).setCell ⟨w.heap.size, 3, none⟩ (.slice (cutA (some ⟨g, o, none⟩) c U) (n - U) (c - U))) = WF at *
      refine bodyPost_ret (v := .tuple #[.agg #[.slice A5 9 c5, .slice none 0 0, .slice A6 ps.length c6, .slice (cutA (some ⟨g, o, none⟩) c U) (n - U) (c - U)], .bool true, .bool true]) (by simp [results, Try.results43, go_sem, cf]) rfl ?_
      have hz0 := B5.size
      subst hlen G2
      exact ⟨_, rfl, ⟨_, _, _, _, rfl, ho9, DataV.nil _ _, PartsV.mono hPF (fun k hk => hk.imp id (fun h => by omega)), ((HH.out.below BF).cut U l.length (by omega) (by omega)).bytV (cutA_inF (HA.out.mono fun _ h => .inl h) (fun _ => by omega)) (HB.out.sub _ _)⟩, BF⟩
  · have B2 : Bl w (((w1.alloc (.cells #[.slice (some ⟨w1.heap.size + 1, 0, none⟩) 4 4, .slice none 0 0, .slice none 0 0, .slice (cutA (some ⟨g, o, none⟩) c U) (n - U) (c - U)] 35)).alloc (.cells #[.int .u64 x0, .int .u64 x1, .int .u64 L, .int .u64 U] 26)).drew) := ((B1.alloc (by (try simp); omega) _).alloc (by (try simp); omega) _).drew
    have kr2 : Blk (((w1.alloc (.cells #[.slice (some ⟨w1.heap.size + 1, 0, none⟩) 4 4, .slice none 0 0, .slice none 0 0, .slice (cutA (some ⟨g, o, none⟩) c U) (n - U) (c - U)] 35)).alloc (.cells #[.int .u64 x0, .int .u64 x1, .int .u64 L, .int .u64 U] 26)).drew) w.heap.size #[.slice none 0 0, .slice none 0 0, .slice none 0 0, .slice none 0 0] 35 := (((kr.alloc _).alloc _).same rfl)
    have kn : Blk (((w1.alloc (.cells #[.slice (some ⟨w1.heap.size + 1, 0, none⟩) 4 4, .slice none 0 0, .slice none 0 0, .slice (cutA (some ⟨g, o, none⟩) c U) (n - U) (c - U)] 35)).alloc (.cells #[.int .u64 x0, .int .u64 x1, .int .u64 L, .int .u64 U] 26)).drew) (w1.heap.size + 1) #[.int .u64 x0, .int .u64 x1, .int .u64 L, .int .u64 U] 26 := ((Blk.newAt (w1.alloc (.cells #[.slice (some ⟨w1.heap.size + 1, 0, none⟩) 4 4, .slice none 0 0, .slice none 0 0, .slice (cutA (some ⟨g, o, none⟩) c U) (n - U) (c - U)] 35)) #[.int .u64 x0, .int .u64 x1, .int .u64 L, .int .u64 U] 26 (w1.heap.size + 1) (by simp)).same rfl)
    have kl : Blk (((w1.alloc (.cells #[.slice (some ⟨w1.heap.size + 1, 0, none⟩) 4 4, .slice none 0 0, .slice none 0 0, .slice (cutA (some ⟨g, o, none⟩) c U) (n - U) (c - U)] 35)).alloc (.cells #[.int .u64 x0, .int .u64 x1, .int .u64 L, .int .u64 U] 26)).drew) w1.heap.size #[.slice (some ⟨w1.heap.size + 1, 0, none⟩) 4 4, .slice none 0 0, .slice none 0 0, .slice (cutA (some ⟨g, o, none⟩) c U) (n - U) (c - U)] 35 := (((Blk.newAt w1 #[.slice (some ⟨w1.heap.size + 1, 0, none⟩) 4 4, .slice none 0 0, .slice none 0 0, .slice (cutA (some ⟨g, o, none⟩) c U) (n - U) (c - U)] 35 w1.heap.size rfl).alloc (.cells #[.int .u64 x0, .int .u64 x1, .int .u64 L, .int .u64 U] 26)).same rfl)
    have n1 : (w1.heap.size + 1) ≠ w1.heap.size := by omega
    have n2 : w.heap.size < (w1.heap.size + 1) := by omega
    have n3 : w.heap.size < w1.heap.size := by omega
    clear cr fr
    generalize ((w1.alloc (.cells #[.slice (some ⟨w1.heap.size + 1, 0, none⟩) 4 4, .slice none 0 0, .slice none 0 0, .slice (cutA (some ⟨g, o, none⟩) c U) (n - U) (c - U)] 35)).alloc (.cells #[.int .u64 x0, .int .u64 x1, .int .u64 L, .int .u64 U] 26)).drew = W at *
    generalize H1 : (w1.heap.size + 1) = gn at *
    generalize H2 : w1.heap.size = gl at *
    have cr := kr2.cell
    have fr := kr2.frozen
    have zr2 := kr2.lt
    have cl := kl.cell
    have fl := kl.frozen
    have zl := kl.lt
    have zn := kn.lt
    clear H1 H2
    go_wp2_with fail
    have kl0 : ∀ d os, (Sort.grow (redrawn W d) os).cell? ⟨gl, 0, none⟩ = some (.slice (some ⟨gn, 0, none⟩) 4 4) := fun d os => cell_regrown (kl.cell 0) d os
    refine wp_region_float (S := Grw W) [true, true, true, true, false, true, true, false, true, true, false, true, true, false, true, true, false, false, false, false, false] 18 (by kernel_rfl) (by kernel_rfl) (Grw.drew W) ?_
    simp only [selQ, selN, earlyN]
    repeat (first | go_big_quiet_skip | (go_big_quiet_want; go_big_quiet_op; go_big_quiet_on))
    refine wpQuiet_nil ?_
    have Bd : Bl W W.drew := (Bl.refl W).drew
    refine wpN_want rfl (fun K hK => ?_)
    go_big_op
    (with_reducible refine (num_any _ _ _ _ _ (P0.out.below (B2.trans Bd)) (HB.out.sub 4 8) (by omega) (by omega)).mono ?_)
    rintro e w2 ⟨rfl, rfl⟩
    refine hK _ _ (Grw.of Bd) ?_
    clear hK K
    refine wpN_want rfl (fun K hK => ?_)
    go_big_op
    (with_reducible refine (num_any _ _ _ _ _ (P1.out.below (B2.trans Bd)) (HB.out.sub 8 12) (by omega) (by omega)).mono ?_)
    rintro e w2 ⟨rfl, rfl⟩
    refine hK _ _ (Grw.of Bd) ?_
    clear hK K
    refine wpN_want rfl (fun K hK => ?_)
    go_big_op
    (with_reducible refine (num_any _ _ _ _ _ (P2.out.below (B2.trans Bd)) (HB.out.sub 12 14) (by omega) (by omega)).mono ?_)
    rintro e w2 ⟨rfl, rfl⟩
    refine hK _ _ (Grw.of Bd) ?_
    clear hK K
    refine wpN_want rfl (fun K hK => ?_)
    go_big_op
    (with_reducible refine (num_any _ _ _ _ _ (P3.out.below (B2.trans Bd)) (HB.out.sub 14 16) (by omega) (by omega)).mono ?_)
    rintro e w2 ⟨rfl, rfl⟩
    refine hK _ _ (Grw.of Bd) ?_
    clear hK K
    refine wpN_want rfl (fun K hK => ?_)
    go_big_op
    (with_reducible refine (num_any _ _ _ _ _ (P4.out.below (B2.trans Bd)) (HB.out.sub 16 20) (by omega) (by omega)).mono ?_)
    rintro e w2 ⟨rfl, rfl⟩
    refine hK _ _ (Grw.of Bd) ?_
    clear hK K
    refine wpN_want rfl (fun K hK => ?_)
    go_big_op
    have X3 : Bl W (W.alloc (.cells #[.int .u64 (be (sub l 4 8)), .int .u64 (be (sub l 8 12)), .int .u64 (be (sub l 12 14)), .int .u64 (be (sub l 14 16)), .int .u64 (be (sub l 16 20))] 26)).drew := ((Bl.refl W).trans (by go_grown)).drew
    refine hK _ _ (Grw.of X3) ?_
    clear hK K
    refine wpN_late ?_
    have ow := kn.own (B := w.heap.size) (Nat.le_of_lt n2) rfl (by show 4 ≤ maxLen; decide)
    have OW := Lib.hid ((ow.alloc (.cells #[.int .u64 (be (sub l 4 8)), .int .u64 (be (sub l 8 12)), .int .u64 (be (sub l 12 14)), .int .u64 (be (sub l 14 16)), .int .u64 (be (sub l 16 20))] 26)).drew)
    have BX := B2.trans X3
    clear ow
    refine wpList_app rfl _ _ 31 26 (.int .u64 0) 1 8 w.heap.size rfl u31i info26 rfl (by decide) (by decide) (.slice (some ⟨gn, 0, none⟩) 4 4) 4 _ _ 5 _ _ rfl rfl OW.out ((Blk.src (Blk.new W #[.int .u64 (be (sub l 4 8)), .int .u64 (be (sub l 8 12)), .int .u64 (be (sub l 12 14)), .int .u64 (be (sub l 14 16)), .int .u64 (be (sub l 16 20))] 26) 5 1 rfl (fun u hu => by simp at hu; rcases hu with rfl | rfl | rfl | rfl | rfl <;> rfl)).below ((Bl.refl _).drew)) (by omega) BX.size ?_
    intro A5 c5 w3 hp
    have hgl : (Value.slice (some ⟨gn, 0, none⟩) 4 4).ownBlock ≠ some gl := by simp [Value.ownBlock]; omega
    have hgr : (Value.slice (some ⟨gn, 0, none⟩) 4 4).ownBlock ≠ some w.heap.size := by simp [Value.ownBlock]; omega
    have kl3 := hp.blk (kl.below X3) hgl
    have kr3 := hp.blk (kr2.below X3) hgr
    have B4 := hp.bl OW.out BX
    have ho3 := Lib.hid hp.own
    have cl3 := kl3.cell
    have fl3 := kl3.frozen
    have zl3 := kl3.lt
    have cr3 := kr3.cell
    have fr3 := kr3.frozen
    have zr3 := kr3.lt
    clear cl fl zl zn cr fr zr2 hp kl0
    go_wp2_with fail
    refine NoPanic.normal ?_
    go_wp2_with fail
    have hgne : w.heap.size ≠ gl := Nat.ne_of_lt n3
    have kl4 := kl3.set 0 (.slice A5 9 c5)
    simp only [List.setIfInBounds_toArray, List.set_cons_zero] at kl4
    have kr4 := kr3.far (p := ⟨gl, 0, none⟩) hgne (.slice A5 9 c5)
    have ho4 := own_set ho3.out kl3 (by decide) 0 (.slice A5 9 c5)
    have B5 : Bl w (w3.setCell ⟨gl, 0, none⟩ (.slice A5 9 c5)) := Below.setCell B4 (Nat.le_of_lt n3) _
    have HO4 := Lib.hid ho4
    clear cl3 fl3 zl3 cr3 fr3 zr3 kl3 kr3 ho4 ho3 B4
    generalize w3.setCell ⟨gl, 0, none⟩ (.slice A5 9 c5) = W4 at *
    have RB := Lib.hid ((HH.out.below B5).cut 20 V (by omega) (by omega))
    have zl4 := kl4.lt
    have zr4 := kr4.lt
    (with_reducible refine (prm_any (fun k => k < B ∨ W4.heap.size ≤ k) _ _ _ _ _ RB.out (HB.out.sub 20 V) (cutA_inF (HA.out.mono fun _ h => .inl h) (fun _ => by omega)) (fun k h => .inr h) (by omega)).mono ?_)
    rintro e w5 ⟨hb5, hX⟩
    have kr5 := Blk.keep hb5 kr4
    have kl5 := Blk.keep hb5 kl4
    have cr5 := kr5.cell
    have fr5 := kr5.frozen
    have zr5 := kr5.lt
    have cl5 := kl5.cell
    have fl5 := kl5.frozen
    have zl5 := kl5.lt
    have B6 := B5.trans hb5
    have hz5 := hb5.size
    have ho5 := own_bl HO4.out hb5
    rcases hX with ⟨hX, rfl⟩ | ⟨v, ps', hX, rfl, hP⟩
    · exact absurd (HPS.out.symm.trans hX) (by simp)
    · obtain rfl : ps = ps' := by have := HPS.out.symm.trans hX; simpa using this
      obtain ⟨A6, c6, rfl⟩ : ∃ A6 c6, v = .slice A6 ps.length c6 := by obtain ⟨A6, c6, e, _⟩ := hP; exact ⟨A6, c6, e⟩
      have HP := Lib.hid hP
      have HO5 := Lib.hid ho5
      clear hP hX ho5
      go_wp2_with fail
      have BF : Bl w ((((((w5.setCell ⟨gl, 2, none⟩ (.slice A6 ps.length c6)).setCell ⟨w.heap.size, 0, none⟩ (.slice A5 9 c5)).setCell ⟨w.heap.size, 1, none⟩ (.slice none 0 0)).setCell ⟨w.heap.size, 2, none⟩ (.slice A6 ps.length c6)).setCell ⟨w.heap.size, 3, none⟩ (.slice (cutA (some ⟨g, o, none⟩) c U) (n - U) (c - U)))) := ((((Below.setCell B6 (Nat.le_of_lt n3) _).setCell (Nat.le_refl _) _).setCell (Nat.le_refl _) _).setCell (Nat.le_refl _) _).setCell (Nat.le_refl _) _
      have kr6 := kr5.far (p := ⟨gl, 2, none⟩) (Nat.ne_of_lt n3) (.slice A6 ps.length c6)
      have kr7 := kr6.set 0 (.slice A5 9 c5)
      have kr8 := kr7.set 1 (.slice none 0 0)
      have kr9 := kr8.set 2 (.slice A6 ps.length c6)
      have kf := kr9.set 3 (.slice (cutA (some ⟨g, o, none⟩) c U) (n - U) (c - U))
      have ho9 := own_numV (F := Fr B w) (l := [x0, x1, L, (U : Int), be (sub l 4 8), be (sub l 8 12), be (sub l 12 14), be (sub l 14 16), be (sub l 16 20)]) (own_set (own_set (own_set (own_set (own_set HO5.out kl5 (by decide) 2 (.slice A6 ps.length c6)) kr6 (by decide) 0 (.slice A5 9 c5)) kr7 (by decide) 1 (.slice none 0 0)) kr8 (by decide) 2 (.slice A6 ps.length c6)) kr9 (by decide) 3 (.slice (cutA (some ⟨g, o, none⟩) c U) (n - U) (c - U))) (fun k h1 _ => .inr h1)
      have hnr : ¬ (w.heap.size < B ∨ W4.heap.size ≤ w.heap.size) := by omega
      have hPF := HP.out.keepF (((((((KeepF.refl _ w5).setCell (p := ⟨gl, 2, none⟩) (by show ¬ (gl < B ∨ W4.heap.size ≤ gl); omega) (.slice A6 ps.length c6)).setCell (p := ⟨w.heap.size, 0, none⟩) hnr (.slice A5 9 c5)).setCell (p := ⟨w.heap.size, 1, none⟩) hnr (.slice none 0 0)).setCell (p := ⟨w.heap.size, 2, none⟩) hnr (.slice A6 ps.length c6)).setCell (p := ⟨w.heap.size, 3, none⟩) hnr (.slice (cutA (some ⟨g, o, none⟩) c U) (n - U) (c - U))))
      have cf := kf.cell
      clear kr6 kr7 kr8 kr9 kf
      generalize (((((w5.setCell ⟨gl, 2, none⟩ (.slice A6 ps.length c6)).setCell ⟨w.heap.size, 0, none⟩ (.slice A5 9 c5)).setCell ⟨w.heap.size, 1, none⟩ (.slice none 0 0)).setCell ⟨w.heap.size, 2, none⟩ (.slice A6 ps.length c6)).setCell ⟨w.heap.size, 3, none⟩ (.slice (cutA (some ⟨g, o, none⟩) c U) (n - U) (c - U))) = WF at *
      refine bodyPost_ret (v := .tuple #[.agg #[.slice A5 9 c5, .slice none 0 0, .slice A6 ps.length c6, .slice (cutA (some ⟨g, o, none⟩) c U) (n - U) (c - U)], .bool true, .bool true]) (by simp [results, Try.results43, go_sem, cf]) rfl ?_
      have hz0 := B5.size
      subst hlen G2
      exact ⟨_, rfl, ⟨_, _, _, _, rfl, ho9, DataV.nil _ _, PartsV.mono hPF (fun k hk => hk.imp id (fun h => by omega)), ((HH.out.below BF).cut U l.length (by omega) (by omega)).bytV (cutA_inF (HA.out.mono fun _ h => .inl h) (fun _ => by omega)) (HB.out.sub _ _)⟩, BF⟩
end Go.Proofs.Ytoljdgfbkebgcaa
