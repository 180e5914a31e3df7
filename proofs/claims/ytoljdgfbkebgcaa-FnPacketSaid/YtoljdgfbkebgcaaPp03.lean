/- spec.Read: sctpdata. -/
import Derived.Test.YtoljdgfbkebgcaaPq10
import Derived.Test.YtoljdgfbkebgcaaPq04
import Derived.Test.YtoljdgfbkebgcaaPq07
import Derived.Test.YtoljdgfbkebgcaaPq03
namespace Go.Proofs.Ytoljdgfbkebgcaa
open Go.RowKit
set_option linter.unusedVariables false
theorem u31SrDat : Try.prog.underlying 31 = some (.slice 26) := by kernel_rfl
set_option maxHeartbeats 4000000 in
set_option maxRecDepth 100000 in
theorem srDat_some (l : List Int) (hl : By l) (h4' : 4 ≤ chL l) (hup : up4 (chL l) ≤ l.length) (hn2 : l.length ≤ 2147483647) (h17 : 17 ≤ chL l) (hfull : up4 (chL l) = l.length) (hk : kindOf (l.getD 0 0) = ⟨#[115, 99, 116, 112, 100, 97, 116, 97]⟩) :
    SpecAt ⟨#[115, 99, 116, 112, 100, 97, 116, 97]⟩ l ⟨[l.getD 0 0, l.getD 1 0, be (sub l 2 4), 16, l.getD 1 0 / 4 % 2, l.getD 1 0 / 2 % 2, l.getD 1 0 % 2, be (sub l 4 8), be (sub l 8 10), be (sub l 10 12), be (sub l 12 16)], [], [], sub l 16 (chL l)⟩ true true := by
  intro A n c B w h hA _
  have u4 : chL l ≤ up4 (chL l) := by unfold up4; omega
  have hlen := h.len
  have h4 : 4 ≤ n := by omega
  have h5 : n ≤ 2147483647 := by omega
  have hcap := h.cap
  have HH := Lib.hid h
  have HA := Lib.hid hA
  have s1 := run_cut A n c 2 4 2 4 rfl rfl (by omega) (by omega) 24 Try.underlying24 size5
  have s2 := run_cut_l A n c (up4 (chL l)) _ rfl (by omega) 24 Try.underlying24 size5
  have s3 := run_cut A n c 4 (chL l) 4 (be (sub l 2 4)) rfl (chL_int l hl) h4' (by omega) 24 Try.underlying24 size5
  have R1 := Lib.hid (h.cutm 2 4 2 (by omega) (by omega))
  have HB := Lib.hid hl
  have b1 := be_bd2 (sub l 2 4) (hl.sub _ _) (by rw [sub_length _ _ _ (by omega)])
  have b0 := hl.getD 0
  have b0' := hl.getD 1
  have e1 := chL_int l hl
  have b2 : 4 ≤ be (sub l 2 4) := by omega
  have b3 : be (sub l 2 4) ≤ (n : Int) := by omega
  have e2 : (be (sub l 2 4) + 3) / 4 * 4 = (up4 (chL l) : Int) := by rw [e1]; unfold up4; omega
  have b4 : (up4 (chL l) : Int) ≤ (n : Int) := by omega
  have h16 : 16 ≤ n := by omega
  have q1 := run_cut A n c 4 8 4 8 rfl rfl (by omega) (by omega) 24 Try.underlying24 size5
  have q2 := run_cut A n c 8 10 8 10 rfl rfl (by omega) (by omega) 24 Try.underlying24 size5
  have q3 := run_cut A n c 10 12 10 12 rfl rfl (by omega) (by omega) 24 Try.underlying24 size5
  have q4 := run_cut A n c 12 16 12 16 rfl rfl (by omega) (by omega) 24 Try.underlying24 size5
  have q5 := run_cut A n c 16 (chL l) 16 (be (sub l 2 4)) rfl e1 (by omega) (by omega) 24 Try.underlying24 size5
  have P1 := Lib.hid (h.cutm 4 8 4 (by omega) (by omega))
  have P2 := Lib.hid (h.cutm 8 10 2 (by omega) (by omega))
  have P3 := Lib.hid (h.cutm 10 12 2 (by omega) (by omega))
  have P4 := Lib.hid (h.cutm 12 16 4 (by omega) (by omega))
  have b17 : 17 ≤ be (sub l 2 4) := by omega
  have bU : ((up4 (chL l) : Int) != (n : Int)) = false := by simp; omega
  have bU' : ((up4 (chL l) : Int) == (n : Int)) = true := by simp; omega
  have HF := Lib.hid hfull
  clear hfull
  obtain ⟨g, o, rfl, hg, hc⟩ := h.at (by omega)
  have d0 := hc 0 (by omega)
  have d1 := hc 1 (by omega)
  simp only [Nat.add_zero] at d0
  have HK := Lib.hid hk
  generalize l.getD 0 0 = x0 at *
  generalize l.getD 1 0 = x1 at *
  generalize up4 (chL l) = U at *
  generalize chL l = V at *
  have E1 := Lib.hid e1
  clear h hn2 hc hl hk e1 hA
  go_enter Try.func43, Try.ntmps43
  go_wp2_with fail
  (with_reducible refine (num_any _ _ _ _ _ (R1.out.below (by go_grown)) (HB.out.sub 2 4) (by omega) (by omega)).mono ?_)
  rintro e w1 ⟨rfl, rfl⟩
  generalize G2 : be (sub l 2 4) = L at *
  go_wp2_with fail
  (with_reducible refine (sup_any _ (by omega) (by omega) _).mono ?_)
  rintro e w1 ⟨rfl, rfl⟩
  rw [e2]
  go_wp2_with fail
  (with_reducible refine (kind_any _ _).mono ?_)
  rintro e w1 ⟨rfl, hb1⟩
  rw [HK.out]
  have kr := Blk.keep hb1 (Blk.new w _ _)
  have cr := kr.cell
  have fr := kr.frozen
  have zr := kr.lt
  have B1 : Bl w w1 := Bl.trans (by go_grown) hb1
  have d0' := (B1.cell (p := ⟨g, o, none⟩) hg).trans d0
  have d1' := (B1.cell (p := ⟨g, o + 1, none⟩) hg).trans d1
  have zg : g < w1.heap.size := Nat.lt_of_lt_of_le hg B1.size
  have HX := Lib.hid HH
  clear d0 d1 hb1
  go_wp2_with fail
  go_region
  · have B2 : Bl w (((w1.alloc (.cells #[.int .u64 x0, .int .u64 x1, .int .u64 L, .int .u64 U] 26)).alloc (.cells #[.slice (some ⟨w1.heap.size, 0, none⟩) 4 4, .slice none 0 0, .slice none 0 0, .slice (cutA (some ⟨g, o, none⟩) c U) (n - U) (c - U)] 35)).drew) := ((B1.alloc (by (try simp); omega) _).alloc (by (try simp); omega) _).drew
    have kr2 : Blk (((w1.alloc (.cells #[.int .u64 x0, .int .u64 x1, .int .u64 L, .int .u64 U] 26)).alloc (.cells #[.slice (some ⟨w1.heap.size, 0, none⟩) 4 4, .slice none 0 0, .slice none 0 0, .slice (cutA (some ⟨g, o, none⟩) c U) (n - U) (c - U)] 35)).drew) w.heap.size #[.slice none 0 0, .slice none 0 0, .slice none 0 0, .slice none 0 0] 35 := (((kr.alloc _).alloc _).same rfl)
    have kn : Blk (((w1.alloc (.cells #[.int .u64 x0, .int .u64 x1, .int .u64 L, .int .u64 U] 26)).alloc (.cells #[.slice (some ⟨w1.heap.size, 0, none⟩) 4 4, .slice none 0 0, .slice none 0 0, .slice (cutA (some ⟨g, o, none⟩) c U) (n - U) (c - U)] 35)).drew) w1.heap.size #[.int .u64 x0, .int .u64 x1, .int .u64 L, .int .u64 U] 26 := (((Blk.newAt w1 #[.int .u64 x0, .int .u64 x1, .int .u64 L, .int .u64 U] 26 w1.heap.size rfl).alloc (.cells #[.slice (some ⟨w1.heap.size, 0, none⟩) 4 4, .slice none 0 0, .slice none 0 0, .slice (cutA (some ⟨g, o, none⟩) c U) (n - U) (c - U)] 35)).same rfl)
    have kl : Blk (((w1.alloc (.cells #[.int .u64 x0, .int .u64 x1, .int .u64 L, .int .u64 U] 26)).alloc (.cells #[.slice (some ⟨w1.heap.size, 0, none⟩) 4 4, .slice none 0 0, .slice none 0 0, .slice (cutA (some ⟨g, o, none⟩) c U) (n - U) (c - U)] 35)).drew) (w1.heap.size + 1) #[.slice (some ⟨w1.heap.size, 0, none⟩) 4 4, .slice none 0 0, .slice none 0 0, .slice (cutA (some ⟨g, o, none⟩) c U) (n - U) (c - U)] 35 := ((Blk.newAt (w1.alloc (.cells #[.int .u64 x0, .int .u64 x1, .int .u64 L, .int .u64 U] 26)) #[.slice (some ⟨w1.heap.size, 0, none⟩) 4 4, .slice none 0 0, .slice none 0 0, .slice (cutA (some ⟨g, o, none⟩) c U) (n - U) (c - U)] 35 (w1.heap.size + 1) (by simp)).same rfl)
    have n1 : w1.heap.size ≠ (w1.heap.size + 1) := by omega
    have n2 : w.heap.size < w1.heap.size := by omega
    have n3 : w.heap.size < (w1.heap.size + 1) := by omega
    have ng : g < (w1.heap.size + 1) := by omega
    have dW := ((B2.cell (p := ⟨g, o + 1, none⟩) hg)).trans ((B1.cell (p := ⟨g, o + 1, none⟩) hg).symm.trans d1')
    clear cr fr
    generalize ((w1.alloc (.cells #[.int .u64 x0, .int .u64 x1, .int .u64 L, .int .u64 U] 26)).alloc (.cells #[.slice (some ⟨w1.heap.size, 0, none⟩) 4 4, .slice none 0 0, .slice none 0 0, .slice (cutA (some ⟨g, o, none⟩) c U) (n - U) (c - U)] 35)).drew = W at *
    generalize H2 : (w1.heap.size + 1) = gl at *
    generalize H1 : w1.heap.size = gn at *
    have cr := kr2.cell
    have fr := kr2.frozen
    have zr2 := kr2.lt
    have cl := kl.cell
    have fl := kl.frozen
    have zl := kl.lt
    have zn := kn.lt
    clear H1 H2 d0' d1' zg
    go_wp2_with fail
    have kx : ∀ d os, (Sort.grow (redrawn W d) os).cell? ⟨g, o + 1, none⟩ = some (.int .u8 x1) := fun d os => cell_regrown dW d os
    have kl0 : ∀ d os, (Sort.grow (redrawn W d) os).cell? ⟨gl, 0, none⟩ = some (.slice (some ⟨gn, 0, none⟩) 4 4) := fun d os => cell_regrown (kl.cell 0) d os
    refine wp_region_float (S := Grw W) [true, true, true, true, true, true, true, true, true, true, true, true, true, true, true, true, true, true, true, true, true, false, true, true, false, true, true, false, true, true, false, false, false, false, false] 32 (by kernel_rfl) (by kernel_rfl) (Grw.drew W) ?_
    simp only [selQ, selN, earlyN]
    repeat (first | go_big_quiet_skip | (go_big_quiet_want; go_big_quiet_op; go_big_quiet_on))
    refine wpQuiet_nil ?_
    have Bd : Bl W W.drew := (Bl.refl W).drew
    refine wpN_want rfl (fun K hK => ?_)
    go_big_op
    (with_reducible refine (num_any _ _ _ _ _ (P1.out.below (B2.trans Bd)) (HB.out.sub 4 8) (by omega) (by omega)).mono ?_)
    rintro e w2 ⟨rfl, rfl⟩
    refine hK _ _ (Grw.of Bd) ?_
    clear hK K
    refine wpN_want rfl (fun K hK => ?_)
    go_big_op
    (with_reducible refine (num_any _ _ _ _ _ (P2.out.below (B2.trans Bd)) (HB.out.sub 8 10) (by omega) (by omega)).mono ?_)
    rintro e w2 ⟨rfl, rfl⟩
    refine hK _ _ (Grw.of Bd) ?_
    clear hK K
    refine wpN_want rfl (fun K hK => ?_)
    go_big_op
    (with_reducible refine (num_any _ _ _ _ _ (P3.out.below (B2.trans Bd)) (HB.out.sub 10 12) (by omega) (by omega)).mono ?_)
    rintro e w2 ⟨rfl, rfl⟩
    refine hK _ _ (Grw.of Bd) ?_
    clear hK K
    refine wpN_want rfl (fun K hK => ?_)
    go_big_op
    (with_reducible refine (num_any _ _ _ _ _ (P4.out.below (B2.trans Bd)) (HB.out.sub 12 16) (by omega) (by omega)).mono ?_)
    rintro e w2 ⟨rfl, rfl⟩
    refine hK _ _ (Grw.of Bd) ?_
    clear hK K
    refine wpN_want rfl (fun K hK => ?_)
    go_big_op
    have X3 : Bl W (W.alloc (.cells #[.int .u64 (IntKind.u64.wrap (bits .and .u8 (x1 / 4) 1)), .int .u64 (IntKind.u64.wrap (bits .and .u8 (x1 / 2) 1)), .int .u64 (IntKind.u64.wrap (bits .and .u8 x1 1)), .int .u64 (be (sub l 4 8)), .int .u64 (be (sub l 8 10)), .int .u64 (be (sub l 10 12)), .int .u64 (be (sub l 12 16))] 26)).drew := ((Bl.refl W).trans (by go_grown)).drew
    refine hK _ _ (Grw.of X3) ?_
    clear hK K
    refine wpN_late ?_
    have ow := kn.own (B := w.heap.size) (Nat.le_of_lt n2) rfl (by show 4 ≤ maxLen; decide)
    have OW := Lib.hid ((ow.alloc (.cells #[.int .u64 (IntKind.u64.wrap (bits .and .u8 (x1 / 4) 1)), .int .u64 (IntKind.u64.wrap (bits .and .u8 (x1 / 2) 1)), .int .u64 (IntKind.u64.wrap (bits .and .u8 x1 1)), .int .u64 (be (sub l 4 8)), .int .u64 (be (sub l 8 10)), .int .u64 (be (sub l 10 12)), .int .u64 (be (sub l 12 16))] 26)).drew)
    have BX := B2.trans X3
    clear ow
    refine wpList_app rfl _ _ 31 26 (.int .u64 0) 1 8 w.heap.size rfl u31SrDat info26 rfl (by decide) (by decide) (.slice (some ⟨gn, 0, none⟩) 4 4) 4 _ _ 7 _ _ rfl rfl OW.out ((Blk.src (Blk.new W #[.int .u64 (IntKind.u64.wrap (bits .and .u8 (x1 / 4) 1)), .int .u64 (IntKind.u64.wrap (bits .and .u8 (x1 / 2) 1)), .int .u64 (IntKind.u64.wrap (bits .and .u8 x1 1)), .int .u64 (be (sub l 4 8)), .int .u64 (be (sub l 8 10)), .int .u64 (be (sub l 10 12)), .int .u64 (be (sub l 12 16))] 26) 7 1 rfl (fun u hu => by simp at hu; rcases hu with rfl | rfl | rfl | rfl | rfl | rfl | rfl <;> rfl)).below ((Bl.refl _).drew)) (by omega) BX.size ?_
    intro A5 c5 w3 hp
    have hgl : (Value.slice (some ⟨gn, 0, none⟩) 4 4).ownBlock ≠ some gl := by simp [Value.ownBlock]; omega
    have hgr : (Value.slice (some ⟨gn, 0, none⟩) 4 4).ownBlock ≠ some w.heap.size := by simp [Value.ownBlock]; omega
    have kl3 := hp.blk (kl.below X3) hgl
    have kr3 := hp.blk (kr2.below X3) hgr
    have B4 := hp.bl OW.out BX
    obtain ⟨g5, cs, rfl, hg5, k5, hcs1, hcs2, hcs⟩ := own_split hp.own (by omega)
    have m1 := k5.ne kl3 (by decide)
    have m2 := k5.ne kr3 (by decide)
    have HCS := Lib.hid hcs
    have cl3 := kl3.cell
    have fl3 := kl3.frozen
    have zl3 := kl3.lt
    have cr3 := kr3.cell
    have fr3 := kr3.frozen
    have zr3 := kr3.lt
    have f5 := k5.frozen
    have z5 := k5.lt
    have c53 : w3.cell? ⟨g5, 3, none⟩ = some (.int .u64 U) := (k5.cell 3).trans (hcs 3 (by omega))
    clear cl fl zl zn cr fr zr2 hcs hp kx kl0 dW
    go_wp2_with fail
    refine NoPanic.normal ?_
    go_wp2_with fail
    have BF : Bl w ((((((((w3.setCell ⟨gl, 0, none⟩ (.slice (some ⟨g5, 0, none⟩) 11 c5)).setCell ⟨g5, 3, none⟩ (.int .u64 16)).setCell ⟨gl, 3, none⟩ (.slice (cutA (some ⟨g, o, none⟩) c 16) (V - 16) (c - 16))).setCell ⟨w.heap.size, 0, none⟩ (.slice (some ⟨g5, 0, none⟩) 11 c5)).setCell ⟨w.heap.size, 1, none⟩ (.slice none 0 0)).setCell ⟨w.heap.size, 2, none⟩ (.slice none 0 0)).setCell ⟨w.heap.size, 3, none⟩ (.slice (cutA (some ⟨g, o, none⟩) c 16) (V - 16) (c - 16)))) := ((((((Below.setCell B4 (Nat.le_of_lt n3) _).setCell hg5 _).setCell (Nat.le_of_lt n3) _).setCell (Nat.le_refl _) _).setCell (Nat.le_refl _) _).setCell (Nat.le_refl _) _).setCell (Nat.le_refl _) _
    have kf : Blk ((((((((w3.setCell ⟨gl, 0, none⟩ (.slice (some ⟨g5, 0, none⟩) 11 c5)).setCell ⟨g5, 3, none⟩ (.int .u64 16)).setCell ⟨gl, 3, none⟩ (.slice (cutA (some ⟨g, o, none⟩) c 16) (V - 16) (c - 16))).setCell ⟨w.heap.size, 0, none⟩ (.slice (some ⟨g5, 0, none⟩) 11 c5)).setCell ⟨w.heap.size, 1, none⟩ (.slice none 0 0)).setCell ⟨w.heap.size, 2, none⟩ (.slice none 0 0)).setCell ⟨w.heap.size, 3, none⟩ (.slice (cutA (some ⟨g, o, none⟩) c 16) (V - 16) (c - 16)))) w.heap.size #[.slice (some ⟨g5, 0, none⟩) 11 c5, .slice none 0 0, .slice none 0 0, .slice (cutA (some ⟨g, o, none⟩) c 16) (V - 16) (c - 16)] 35 := ((((((kr3.far (p := ⟨gl, 0, none⟩) (Nat.ne_of_lt n3) _).far (p := ⟨g5, 3, none⟩) (Ne.symm m2) _).far (p := ⟨gl, 3, none⟩) (Nat.ne_of_lt n3) _).set 0 _).set 1 _).set 2 _).set 3 _
    have k6 : Blk ((((((((w3.setCell ⟨gl, 0, none⟩ (.slice (some ⟨g5, 0, none⟩) 11 c5)).setCell ⟨g5, 3, none⟩ (.int .u64 16)).setCell ⟨gl, 3, none⟩ (.slice (cutA (some ⟨g, o, none⟩) c 16) (V - 16) (c - 16))).setCell ⟨w.heap.size, 0, none⟩ (.slice (some ⟨g5, 0, none⟩) 11 c5)).setCell ⟨w.heap.size, 1, none⟩ (.slice none 0 0)).setCell ⟨w.heap.size, 2, none⟩ (.slice none 0 0)).setCell ⟨w.heap.size, 3, none⟩ (.slice (cutA (some ⟨g, o, none⟩) c 16) (V - 16) (c - 16)))) g5 (cs.setIfInBounds 3 (.int .u64 16)) 26 := ((((((k5.far (p := ⟨gl, 0, none⟩) m1 _).set 3 _).far (p := ⟨gl, 3, none⟩) m1 _).far (p := ⟨w.heap.size, 0, none⟩) m2 _).far (p := ⟨w.heap.size, 1, none⟩) m2 _).far (p := ⟨w.heap.size, 2, none⟩) m2 _).far (p := ⟨w.heap.size, 3, none⟩) m2 _
    have cf := kf.cell
    generalize (((((((w3.setCell ⟨gl, 0, none⟩ (.slice (some ⟨g5, 0, none⟩) 11 c5)).setCell ⟨g5, 3, none⟩ (.int .u64 16)).setCell ⟨gl, 3, none⟩ (.slice (cutA (some ⟨g, o, none⟩) c 16) (V - 16) (c - 16))).setCell ⟨w.heap.size, 0, none⟩ (.slice (some ⟨g5, 0, none⟩) 11 c5)).setCell ⟨w.heap.size, 1, none⟩ (.slice none 0 0)).setCell ⟨w.heap.size, 2, none⟩ (.slice none 0 0)).setCell ⟨w.heap.size, 3, none⟩ (.slice (cutA (some ⟨g, o, none⟩) c 16) (V - 16) (c - 16))) = WF at *
    refine bodyPost_ret (v := .tuple #[.agg #[.slice (some ⟨g5, 0, none⟩) 11 c5, .slice none 0 0, .slice none 0 0, .slice (cutA (some ⟨g, o, none⟩) c 16) (V - 16) (c - 16)], .bool true, .bool true]) (by simp [results, Try.results43, go_sem, cf]) rfl ?_
    have e1 := E1.out
    subst hlen G2 hcs2
    have w1' : IntKind.u64.wrap (bits .and .u8 (x1 / 4) 1) = x1 / 4 % 2 := by rw [and1 _ (by omega) (by omega), IntKind.wrap_u64]; omega
    have w2' : IntKind.u64.wrap (bits .and .u8 (x1 / 2) 1) = x1 / 2 % 2 := by rw [and1 _ (by omega) (by omega), IntKind.wrap_u64]; omega
    have w3' : IntKind.u64.wrap (bits .and .u8 x1 1) = x1 % 2 := by rw [and1 _ (by omega) (by omega), IntKind.wrap_u64]; omega
    refine ⟨_, rfl, ⟨_, _, _, _, rfl, k6.numsV (show Fr B w g5 from .inr hg5) [x0, x1, be (sub l 2 4), 16, x1 / 4 % 2, x1 / 2 % 2, x1 % 2, be (sub l 4 8), be (sub l 8 10), be (sub l 10 12), be (sub l 12 16)] rfl (by omega) ?_, DataV.nil _ _, PartsV.nil _ _, ?_⟩, BF⟩
    · intro i hi
      have hcs := HCS.out i hi
      rw [w1', w2', w3'] at hcs
      rw [Array.getElem?_setIfInBounds]
      by_cases h3 : 3 = i
      · subst h3
        rw [if_pos rfl, if_pos (by omega)]
        rfl
      · rw [if_neg h3, hcs]
        match i, hi, h3 with
        | 0, _, _ => rfl
        | 1, _, _ => rfl
        | 2, _, _ => rfl
        | 4, _, _ => rfl
        | 5, _, _ => rfl
        | 6, _, _ => rfl
        | 7, _, _ => rfl
        | 8, _, _ => rfl
        | 9, _, _ => rfl
        | 10, _, _ => rfl
        | (j + 11), hi, _ => exact absurd hi (by simp)
    · exact ((HH.out.below BF).cut 16 V (by omega) (by omega)).bytV (cutA_inF (HA.out.mono fun _ h => .inl h) (fun _ => by omega)) (HB.out.sub _ _)
  · have B2 : Bl w (((w1.alloc (.cells #[.slice (some ⟨w1.heap.size + 1, 0, none⟩) 4 4, .slice none 0 0, .slice none 0 0, .slice (cutA (some ⟨g, o, none⟩) c U) (n - U) (c - U)] 35)).alloc (.cells #[.int .u64 x0, .int .u64 x1, .int .u64 L, .int .u64 U] 26)).drew) := ((B1.alloc (by (try simp); omega) _).alloc (by (try simp); omega) _).drew
    have kr2 : Blk (((w1.alloc (.cells #[.slice (some ⟨w1.heap.size + 1, 0, none⟩) 4 4, .slice none 0 0, .slice none 0 0, .slice (cutA (some ⟨g, o, none⟩) c U) (n - U) (c - U)] 35)).alloc (.cells #[.int .u64 x0, .int .u64 x1, .int .u64 L, .int .u64 U] 26)).drew) w.heap.size #[.slice none 0 0, .slice none 0 0, .slice none 0 0, .slice none 0 0] 35 := (((kr.alloc _).alloc _).same rfl)
    have kn : Blk (((w1.alloc (.cells #[.slice (some ⟨w1.heap.size + 1, 0, none⟩) 4 4, .slice none 0 0, .slice none 0 0, .slice (cutA (some ⟨g, o, none⟩) c U) (n - U) (c - U)] 35)).alloc (.cells #[.int .u64 x0, .int .u64 x1, .int .u64 L, .int .u64 U] 26)).drew) (w1.heap.size + 1) #[.int .u64 x0, .int .u64 x1, .int .u64 L, .int .u64 U] 26 := ((Blk.newAt (w1.alloc (.cells #[.slice (some ⟨w1.heap.size + 1, 0, none⟩) 4 4, .slice none 0 0, .slice none 0 0, .slice (cutA (some ⟨g, o, none⟩) c U) (n - U) (c - U)] 35)) #[.int .u64 x0, .int .u64 x1, .int .u64 L, .int .u64 U] 26 (w1.heap.size + 1) (by simp)).same rfl)
    have kl : Blk (((w1.alloc (.cells #[.slice (some ⟨w1.heap.size + 1, 0, none⟩) 4 4, .slice none 0 0, .slice none 0 0, .slice (cutA (some ⟨g, o, none⟩) c U) (n - U) (c - U)] 35)).alloc (.cells #[.int .u64 x0, .int .u64 x1, .int .u64 L, .int .u64 U] 26)).drew) w1.heap.size #[.slice (some ⟨w1.heap.size + 1, 0, none⟩) 4 4, .slice none 0 0, .slice none 0 0, .slice (cutA (some ⟨g, o, none⟩) c U) (n - U) (c - U)] 35 := (((Blk.newAt w1 #[.slice (some ⟨w1.heap.size + 1, 0, none⟩) 4 4, .slice none 0 0, .slice none 0 0, .slice (cutA (some ⟨g, o, none⟩) c U) (n - U) (c - U)] 35 w1.heap.size rfl).alloc (.cells #[.int .u64 x0, .int .u64 x1, .int .u64 L, .int .u64 U] 26)).same rfl)
    have n1 : (w1.heap.size + 1) ≠ w1.heap.size := by omega
    have n2 : w.heap.size < (w1.heap.size + 1) := by omega
    have n3 : w.heap.size < w1.heap.size := by omega
    have ng : g < w1.heap.size := by omega
    have dW := ((B2.cell (p := ⟨g, o + 1, none⟩) hg)).trans ((B1.cell (p := ⟨g, o + 1, none⟩) hg).symm.trans d1')
    clear cr fr
    generalize ((w1.alloc (.cells #[.slice (some ⟨w1.heap.size + 1, 0, none⟩) 4 4, .slice none 0 0, .slice none 0 0, .slice (cutA (some ⟨g, o, none⟩) c U) (n - U) (c - U)] 35)).alloc (.cells #[.int .u64 x0, .int .u64 x1, .int .u64 L, .int .u64 U] 26)).drew = W at *
    generalize H1 : (w1.heap.size + 1) = gn at *
    generalize H2 : w1.heap.size = gl at *
    have cr := kr2.cell
    have fr := kr2.frozen
    have zr2 := kr2.lt
    have cl := kl.cell
    have fl := kl.frozen
    have zl := kl.lt
    have zn := kn.lt
    clear H1 H2 d0' d1' zg
    go_wp2_with fail
    have kx : ∀ d os, (Sort.grow (redrawn W d) os).cell? ⟨g, o + 1, none⟩ = some (.int .u8 x1) := fun d os => cell_regrown dW d os
    have kl0 : ∀ d os, (Sort.grow (redrawn W d) os).cell? ⟨gl, 0, none⟩ = some (.slice (some ⟨gn, 0, none⟩) 4 4) := fun d os => cell_regrown (kl.cell 0) d os
    refine wp_region_float (S := Grw W) [true, true, true, true, true, true, true, true, true, true, true, true, true, true, true, true, true, true, true, true, true, false, true, true, false, true, true, false, true, true, false, false, false, false, false] 32 (by kernel_rfl) (by kernel_rfl) (Grw.drew W) ?_
    simp only [selQ, selN, earlyN]
    repeat (first | go_big_quiet_skip | (go_big_quiet_want; go_big_quiet_op; go_big_quiet_on))
    refine wpQuiet_nil ?_
    have Bd : Bl W W.drew := (Bl.refl W).drew
    refine wpN_want rfl (fun K hK => ?_)
    go_big_op
    (with_reducible refine (num_any _ _ _ _ _ (P1.out.below (B2.trans Bd)) (HB.out.sub 4 8) (by omega) (by omega)).mono ?_)
    rintro e w2 ⟨rfl, rfl⟩
    refine hK _ _ (Grw.of Bd) ?_
    clear hK K
    refine wpN_want rfl (fun K hK => ?_)
    go_big_op
    (with_reducible refine (num_any _ _ _ _ _ (P2.out.below (B2.trans Bd)) (HB.out.sub 8 10) (by omega) (by omega)).mono ?_)
    rintro e w2 ⟨rfl, rfl⟩
    refine hK _ _ (Grw.of Bd) ?_
    clear hK K
    refine wpN_want rfl (fun K hK => ?_)
    go_big_op
    (with_reducible refine (num_any _ _ _ _ _ (P3.out.below (B2.trans Bd)) (HB.out.sub 10 12) (by omega) (by omega)).mono ?_)
    rintro e w2 ⟨rfl, rfl⟩
    refine hK _ _ (Grw.of Bd) ?_
    clear hK K
    refine wpN_want rfl (fun K hK => ?_)
    go_big_op
    (with_reducible refine (num_any _ _ _ _ _ (P4.out.below (B2.trans Bd)) (HB.out.sub 12 16) (by omega) (by omega)).mono ?_)
    rintro e w2 ⟨rfl, rfl⟩
    refine hK _ _ (Grw.of Bd) ?_
    clear hK K
    refine wpN_want rfl (fun K hK => ?_)
    go_big_op
    have X3 : Bl W (W.alloc (.cells #[.int .u64 (IntKind.u64.wrap (bits .and .u8 (x1 / 4) 1)), .int .u64 (IntKind.u64.wrap (bits .and .u8 (x1 / 2) 1)), .int .u64 (IntKind.u64.wrap (bits .and .u8 x1 1)), .int .u64 (be (sub l 4 8)), .int .u64 (be (sub l 8 10)), .int .u64 (be (sub l 10 12)), .int .u64 (be (sub l 12 16))] 26)).drew := ((Bl.refl W).trans (by go_grown)).drew
    refine hK _ _ (Grw.of X3) ?_
    clear hK K
    refine wpN_late ?_
    have ow := kn.own (B := w.heap.size) (Nat.le_of_lt n2) rfl (by show 4 ≤ maxLen; decide)
    have OW := Lib.hid ((ow.alloc (.cells #[.int .u64 (IntKind.u64.wrap (bits .and .u8 (x1 / 4) 1)), .int .u64 (IntKind.u64.wrap (bits .and .u8 (x1 / 2) 1)), .int .u64 (IntKind.u64.wrap (bits .and .u8 x1 1)), .int .u64 (be (sub l 4 8)), .int .u64 (be (sub l 8 10)), .int .u64 (be (sub l 10 12)), .int .u64 (be (sub l 12 16))] 26)).drew)
    have BX := B2.trans X3
    clear ow
    refine wpList_app rfl _ _ 31 26 (.int .u64 0) 1 8 w.heap.size rfl u31SrDat info26 rfl (by decide) (by decide) (.slice (some ⟨gn, 0, none⟩) 4 4) 4 _ _ 7 _ _ rfl rfl OW.out ((Blk.src (Blk.new W #[.int .u64 (IntKind.u64.wrap (bits .and .u8 (x1 / 4) 1)), .int .u64 (IntKind.u64.wrap (bits .and .u8 (x1 / 2) 1)), .int .u64 (IntKind.u64.wrap (bits .and .u8 x1 1)), .int .u64 (be (sub l 4 8)), .int .u64 (be (sub l 8 10)), .int .u64 (be (sub l 10 12)), .int .u64 (be (sub l 12 16))] 26) 7 1 rfl (fun u hu => by simp at hu; rcases hu with rfl | rfl | rfl | rfl | rfl | rfl | rfl <;> rfl)).below ((Bl.refl _).drew)) (by omega) BX.size ?_
    intro A5 c5 w3 hp
    have hgl : (Value.slice (some ⟨gn, 0, none⟩) 4 4).ownBlock ≠ some gl := by simp [Value.ownBlock]; omega
    have hgr : (Value.slice (some ⟨gn, 0, none⟩) 4 4).ownBlock ≠ some w.heap.size := by simp [Value.ownBlock]; omega
    have kl3 := hp.blk (kl.below X3) hgl
    have kr3 := hp.blk (kr2.below X3) hgr
    have B4 := hp.bl OW.out BX
    obtain ⟨g5, cs, rfl, hg5, k5, hcs1, hcs2, hcs⟩ := own_split hp.own (by omega)
    have m1 := k5.ne kl3 (by decide)
    have m2 := k5.ne kr3 (by decide)
    have HCS := Lib.hid hcs
    have cl3 := kl3.cell
    have fl3 := kl3.frozen
    have zl3 := kl3.lt
    have cr3 := kr3.cell
    have fr3 := kr3.frozen
    have zr3 := kr3.lt
    have f5 := k5.frozen
    have z5 := k5.lt
    have c53 : w3.cell? ⟨g5, 3, none⟩ = some (.int .u64 U) := (k5.cell 3).trans (hcs 3 (by omega))
    clear cl fl zl zn cr fr zr2 hcs hp kx kl0 dW
    go_wp2_with fail
    refine NoPanic.normal ?_
    go_wp2_with fail
    have BF : Bl w ((((((((w3.setCell ⟨gl, 0, none⟩ (.slice (some ⟨g5, 0, none⟩) 11 c5)).setCell ⟨g5, 3, none⟩ (.int .u64 16)).setCell ⟨gl, 3, none⟩ (.slice (cutA (some ⟨g, o, none⟩) c 16) (V - 16) (c - 16))).setCell ⟨w.heap.size, 0, none⟩ (.slice (some ⟨g5, 0, none⟩) 11 c5)).setCell ⟨w.heap.size, 1, none⟩ (.slice none 0 0)).setCell ⟨w.heap.size, 2, none⟩ (.slice none 0 0)).setCell ⟨w.heap.size, 3, none⟩ (.slice (cutA (some ⟨g, o, none⟩) c 16) (V - 16) (c - 16)))) := ((((((Below.setCell B4 (Nat.le_of_lt n3) _).setCell hg5 _).setCell (Nat.le_of_lt n3) _).setCell (Nat.le_refl _) _).setCell (Nat.le_refl _) _).setCell (Nat.le_refl _) _).setCell (Nat.le_refl _) _
    have kf : Blk ((((((((w3.setCell ⟨gl, 0, none⟩ (.slice (some ⟨g5, 0, none⟩) 11 c5)).setCell ⟨g5, 3, none⟩ (.int .u64 16)).setCell ⟨gl, 3, none⟩ (.slice (cutA (some ⟨g, o, none⟩) c 16) (V - 16) (c - 16))).setCell ⟨w.heap.size, 0, none⟩ (.slice (some ⟨g5, 0, none⟩) 11 c5)).setCell ⟨w.heap.size, 1, none⟩ (.slice none 0 0)).setCell ⟨w.heap.size, 2, none⟩ (.slice none 0 0)).setCell ⟨w.heap.size, 3, none⟩ (.slice (cutA (some ⟨g, o, none⟩) c 16) (V - 16) (c - 16)))) w.heap.size #[.slice (some ⟨g5, 0, none⟩) 11 c5, .slice none 0 0, .slice none 0 0, .slice (cutA (some ⟨g, o, none⟩) c 16) (V - 16) (c - 16)] 35 := ((((((kr3.far (p := ⟨gl, 0, none⟩) (Nat.ne_of_lt n3) _).far (p := ⟨g5, 3, none⟩) (Ne.symm m2) _).far (p := ⟨gl, 3, none⟩) (Nat.ne_of_lt n3) _).set 0 _).set 1 _).set 2 _).set 3 _
    have k6 : Blk ((((((((w3.setCell ⟨gl, 0, none⟩ (.slice (some ⟨g5, 0, none⟩) 11 c5)).setCell ⟨g5, 3, none⟩ (.int .u64 16)).setCell ⟨gl, 3, none⟩ (.slice (cutA (some ⟨g, o, none⟩) c 16) (V - 16) (c - 16))).setCell ⟨w.heap.size, 0, none⟩ (.slice (some ⟨g5, 0, none⟩) 11 c5)).setCell ⟨w.heap.size, 1, none⟩ (.slice none 0 0)).setCell ⟨w.heap.size, 2, none⟩ (.slice none 0 0)).setCell ⟨w.heap.size, 3, none⟩ (.slice (cutA (some ⟨g, o, none⟩) c 16) (V - 16) (c - 16)))) g5 (cs.setIfInBounds 3 (.int .u64 16)) 26 := ((((((k5.far (p := ⟨gl, 0, none⟩) m1 _).set 3 _).far (p := ⟨gl, 3, none⟩) m1 _).far (p := ⟨w.heap.size, 0, none⟩) m2 _).far (p := ⟨w.heap.size, 1, none⟩) m2 _).far (p := ⟨w.heap.size, 2, none⟩) m2 _).far (p := ⟨w.heap.size, 3, none⟩) m2 _
    have cf := kf.cell
    generalize (((((((w3.setCell ⟨gl, 0, none⟩ (.slice (some ⟨g5, 0, none⟩) 11 c5)).setCell ⟨g5, 3, none⟩ (.int .u64 16)).setCell ⟨gl, 3, none⟩ (.slice (cutA (some ⟨g, o, none⟩) c 16) (V - 16) (c - 16))).setCell ⟨w.heap.size, 0, none⟩ (.slice (some ⟨g5, 0, none⟩) 11 c5)).setCell ⟨w.heap.size, 1, none⟩ (.slice none 0 0)).setCell ⟨w.heap.size, 2, none⟩ (.slice none 0 0)).setCell ⟨w.heap.size, 3, none⟩ (.slice (cutA (some ⟨g, o, none⟩) c 16) (V - 16) (c - 16))) = WF at *
    refine bodyPost_ret (v := .tuple #[.agg #[.slice (some ⟨g5, 0, none⟩) 11 c5, .slice none 0 0, .slice none 0 0, .slice (cutA (some ⟨g, o, none⟩) c 16) (V - 16) (c - 16)], .bool true, .bool true]) (by simp [results, Try.results43, go_sem, cf]) rfl ?_
    have e1 := E1.out
    subst hlen G2 hcs2
    have w1' : IntKind.u64.wrap (bits .and .u8 (x1 / 4) 1) = x1 / 4 % 2 := by rw [and1 _ (by omega) (by omega), IntKind.wrap_u64]; omega
    have w2' : IntKind.u64.wrap (bits .and .u8 (x1 / 2) 1) = x1 / 2 % 2 := by rw [and1 _ (by omega) (by omega), IntKind.wrap_u64]; omega
    have w3' : IntKind.u64.wrap (bits .and .u8 x1 1) = x1 % 2 := by rw [and1 _ (by omega) (by omega), IntKind.wrap_u64]; omega
    refine ⟨_, rfl, ⟨_, _, _, _, rfl, k6.numsV (show Fr B w g5 from .inr hg5) [x0, x1, be (sub l 2 4), 16, x1 / 4 % 2, x1 / 2 % 2, x1 % 2, be (sub l 4 8), be (sub l 8 10), be (sub l 10 12), be (sub l 12 16)] rfl (by omega) ?_, DataV.nil _ _, PartsV.nil _ _, ?_⟩, BF⟩
    · intro i hi
      have hcs := HCS.out i hi
      rw [w1', w2', w3'] at hcs
      rw [Array.getElem?_setIfInBounds]
      by_cases h3 : 3 = i
      · subst h3
        rw [if_pos rfl, if_pos (by omega)]
        rfl
      · rw [if_neg h3, hcs]
        match i, hi, h3 with
        | 0, _, _ => rfl
        | 1, _, _ => rfl
        | 2, _, _ => rfl
        | 4, _, _ => rfl
        | 5, _, _ => rfl
        | 6, _, _ => rfl
        | 7, _, _ => rfl
        | 8, _, _ => rfl
        | 9, _, _ => rfl
        | 10, _, _ => rfl
        | (j + 11), hi, _ => exact absurd hi (by simp)
    · exact ((HH.out.below BF).cut 16 V (by omega) (by omega)).bytV (cutA_inF (HA.out.mono fun _ h => .inl h) (fun _ => by omega)) (HB.out.sub _ _)
end Go.Proofs.Ytoljdgfbkebgcaa
