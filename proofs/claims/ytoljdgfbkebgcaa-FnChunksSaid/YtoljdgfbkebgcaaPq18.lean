/- spec.Read: sctpshutdown, where there is a chunk. spec.Read: sctpshutdown, where nothing is said. spec.Read and decoded, of a chunk of the kind sctpshutdown. impl.Read of the kind packet. -/
import Derived.Test.YtoljdgfbkebgcaaPq10
import Derived.Test.YtoljdgfbkebgcaaPq04
import Derived.Test.YtoljdgfbkebgcaaPq07
import Derived.Test.YtoljdgfbkebgcaaPq17
import Derived.Test.YtoljdgfbkebgcaaPq09
namespace Go.Proofs.Ytoljdgfbkebgcaa
open Go.RowKit
set_option linter.unusedVariables false
theorem u31 : Try.prog.underlying 31 = some (.slice 26) := by kernel_rfl
set_option maxHeartbeats 4000000 in
set_option maxRecDepth 100000 in
theorem srShu_some (l : List Int) (hl : By l) (h4' : 4 ≤ chL l) (hup : up4 (chL l) ≤ l.length) (hn2 : l.length ≤ 2147483647) (h8 : chL l = 8) (hk : kindOf (l.getD 0 0) = ⟨#[115, 99, 116, 112, 115, 104, 117, 116, 100, 111, 119, 110]⟩) :
    SpecAt ⟨#[115, 99, 116, 112, 115, 104, 117, 116, 100, 111, 119, 110]⟩ l ⟨[l.getD 0 0, l.getD 1 0, be (sub l 2 4), (up4 (chL l) : Int), be (sub l 4 8)], [], [], sub l (up4 (chL l)) l.length⟩ true true := by
  intro A n c B w h hA _
  have u4 : chL l ≤ up4 (chL l) := by unfold up4; omega
  have hlen := h.len
  have h4 : 4 ≤ n := by omega
  have h5 : n ≤ 2147483647 := by omega
  have hcap := h.cap
  have HH := Lib.hid h
  have HA := Lib.hid hA
  have s1 := run_cut A n c 2 4 2 4 rfl rfl (by omega) (by omega) 24 Try.underlying24 size5
  have s2 := run_cut_l A n c (up4 (chL l)) _ rfl (by omega) 24 Try.underlying24 size5
  have s3 := run_cut A n c 4 (chL l) 4 (be (sub l 2 4)) rfl (chL_int l hl) h4' (by omega) 24 Try.underlying24 size5
  have R1 := Lib.hid (h.cutm 2 4 2 (by omega) (by omega))
  have HB := Lib.hid hl
  have b1 := be_bd2 (sub l 2 4) (hl.sub _ _) (by rw [sub_length _ _ _ (by omega)])
  have b0 := hl.getD 0
  have b0' := hl.getD 1
  have e1 := chL_int l hl
  have b8 : be (sub l 2 4) = 8 := by omega
  have n8 : 8 ≤ n := by unfold up4 at hup; omega
  have b2 : 4 ≤ be (sub l 2 4) := by omega
  have b3 : be (sub l 2 4) ≤ (n : Int) := by omega
  have e2 : (be (sub l 2 4) + 3) / 4 * 4 = (up4 (chL l) : Int) := by rw [e1]; unfold up4; omega
  have b4 : (up4 (chL l) : Int) ≤ (n : Int) := by omega
  obtain ⟨g, o, rfl, hg, hc⟩ := h.at (by omega)
  have d0 := hc 0 (by omega)
  have d1 := hc 1 (by omega)
  simp only [Nat.add_zero] at d0
  have HK := Lib.hid hk
  generalize l.getD 0 0 = x0 at *
  generalize l.getD 1 0 = x1 at *
  generalize up4 (chL l) = U at *
  generalize chL l = V at *
  clear h hn2 hc hl hk e1 hA
  go_enter Try.func43, Try.ntmps43
  go_wp2_with fail
  (with_reducible refine (num_any _ _ _ _ _ (R1.out.below (by go_grown)) (HB.out.sub 2 4) (by omega) (by omega)).mono ?_)
  rintro e w1 ⟨rfl, rfl⟩
  generalize G2 : be (sub l 2 4) = L at *
  subst b8
  go_wp2_with fail
  (with_reducible refine (sup_any _ (by omega) (by omega) _).mono ?_)
  rintro e w1 ⟨rfl, rfl⟩
  rw [e2]
  go_wp2_with fail
  (with_reducible refine (kind_any _ _).mono ?_)
  rintro e w1 ⟨rfl, hb1⟩
  rw [HK.out]
  have kr := Blk.keep hb1 (Blk.new w _ _)
  have cr := kr.cell
  have fr := kr.frozen
  have zr := kr.lt
  have B1 : Bl w w1 := Bl.trans (by go_grown) hb1
  have d0' := (B1.cell (p := ⟨g, o, none⟩) hg).trans d0
  have d1' := (B1.cell (p := ⟨g, o + 1, none⟩) hg).trans d1
  have zg : g < w1.heap.size := Nat.lt_of_lt_of_le hg B1.size
  have HX := Lib.hid HH
  clear d0 d1 hb1
  go_wp2_with fail
  go_region
  · have B2 : Bl w (((w1.alloc (.cells #[.int .u64 x0, .int .u64 x1, .int .u64 8, .int .u64 U] 26)).alloc (.cells #[.slice (some ⟨w1.heap.size, 0, none⟩) 4 4, .slice none 0 0, .slice none 0 0, .slice (cutA (some ⟨g, o, none⟩) c U) (n - U) (c - U)] 35)).drew) := ((B1.alloc (by (try simp); omega) _).alloc (by (try simp); omega) _).drew
    have kr2 : Blk (((w1.alloc (.cells #[.int .u64 x0, .int .u64 x1, .int .u64 8, .int .u64 U] 26)).alloc (.cells #[.slice (some ⟨w1.heap.size, 0, none⟩) 4 4, .slice none 0 0, .slice none 0 0, .slice (cutA (some ⟨g, o, none⟩) c U) (n - U) (c - U)] 35)).drew) w.heap.size #[.slice none 0 0, .slice none 0 0, .slice none 0 0, .slice none 0 0] 35 := (((kr.alloc _).alloc _).same rfl)
    have kn : Blk (((w1.alloc (.cells #[.int .u64 x0, .int .u64 x1, .int .u64 8, .int .u64 U] 26)).alloc (.cells #[.slice (some ⟨w1.heap.size, 0, none⟩) 4 4, .slice none 0 0, .slice none 0 0, .slice (cutA (some ⟨g, o, none⟩) c U) (n - U) (c - U)] 35)).drew) w1.heap.size #[.int .u64 x0, .int .u64 x1, .int .u64 8, .int .u64 U] 26 := (((Blk.newAt w1 #[.int .u64 x0, .int .u64 x1, .int .u64 8, .int .u64 U] 26 w1.heap.size rfl).alloc (.cells #[.slice (some ⟨w1.heap.size, 0, none⟩) 4 4, .slice none 0 0, .slice none 0 0, .slice (cutA (some ⟨g, o, none⟩) c U) (n - U) (c - U)] 35)).same rfl)
    have kl : Blk (((w1.alloc (.cells #[.int .u64 x0, .int .u64 x1, .int .u64 8, .int .u64 U] 26)).alloc (.cells #[.slice (some ⟨w1.heap.size, 0, none⟩) 4 4, .slice none 0 0, .slice none 0 0, .slice (cutA (some ⟨g, o, none⟩) c U) (n - U) (c - U)] 35)).drew) (w1.heap.size + 1) #[.slice (some ⟨w1.heap.size, 0, none⟩) 4 4, .slice none 0 0, .slice none 0 0, .slice (cutA (some ⟨g, o, none⟩) c U) (n - U) (c - U)] 35 := ((Blk.newAt (w1.alloc (.cells #[.int .u64 x0, .int .u64 x1, .int .u64 8, .int .u64 U] 26)) #[.slice (some ⟨w1.heap.size, 0, none⟩) 4 4, .slice none 0 0, .slice none 0 0, .slice (cutA (some ⟨g, o, none⟩) c U) (n - U) (c - U)] 35 (w1.heap.size + 1) (by simp)).same rfl)
    have n1 : w1.heap.size ≠ (w1.heap.size + 1) := by omega
    have n2 : w.heap.size < w1.heap.size := by omega
    have n3 : w.heap.size < (w1.heap.size + 1) := by omega
    clear cr fr
    generalize ((w1.alloc (.cells #[.int .u64 x0, .int .u64 x1, .int .u64 8, .int .u64 U] 26)).alloc (.cells #[.slice (some ⟨w1.heap.size, 0, none⟩) 4 4, .slice none 0 0, .slice none 0 0, .slice (cutA (some ⟨g, o, none⟩) c U) (n - U) (c - U)] 35)).drew = W at *
    generalize H2 : (w1.heap.size + 1) = gl at *
    generalize H1 : w1.heap.size = gn at *
    have cr := kr2.cell
    have fr := kr2.frozen
    have zr2 := kr2.lt
    have cl := kl.cell
    have fl := kl.frozen
    have zl := kl.lt
    have zn := kn.lt
    clear H1 H2
    go_wp2_with fail
    have ow := kn.own (B := w.heap.size) (Nat.le_of_lt n2) rfl (by show 4 ≤ maxLen; decide)
    have OW := Lib.hid ow
    have RR := Lib.hid ((HH.out.cutm 4 8 4 (by omega) (by omega)).below B2)
    have zW : w.heap.size ≤ W.heap.size := Nat.le_of_lt zr2
    have B3 : ∀ o, Bl w (W.drew.alloc o) := fun o => (B2.drew).alloc (by simp; omega) _
    have cl0 : W.cell? ⟨gl, 0, none⟩ = some (.slice (some ⟨gn, 0, none⟩) 4 4) := cl 0
    have HS := Lib.hid (Blk.src (Blk.new W.drew #[.int .u64 (be (sub l 4 8))] 26) 1 1 rfl (fun u hu => by simp at hu; subst hu; rfl))
    have HO := Lib.hid ((World.ownsRow.drew ow).alloc (.cells #[.int .u64 (be (sub l 4 8))] 26))
    have HL := Lib.hid ((kl.same (w' := W.drew) rfl).alloc (.cells #[.int .u64 (be (sub l 4 8))] 26))
    have HR := Lib.hid ((kr2.same (w' := W.drew) rfl).alloc (.cells #[.int .u64 (be (sub l 4 8))] 26))
    have hgl : (Value.slice (some ⟨gn, 0, none⟩) 4 4).ownBlock ≠ some gl := by simp [Value.ownBlock]; omega
    have hgr : (Value.slice (some ⟨gn, 0, none⟩) 4 4).ownBlock ≠ some w.heap.size := by simp [Value.ownBlock]; omega
    have hsz : w.heap.size ≤ (W.drew.alloc (.cells #[.int .u64 (be (sub l 4 8))] 26)).heap.size := by simp; omega
    clear ow OW
    go_region_law
      (first
        | (go_simp; go_at_call 38; (with_reducible refine (num_any _ _ _ _ _ (RR.out.below (by go_grown)) (HB.out.sub 4 8) (by omega) (by omega)).mono ?_); rintro e w2 ⟨rfl, rfl⟩)
        | (refine step_app rfl _ _ 31 26 (.int .u64 0) 1 8 w.heap.size rfl u31 info26 rfl (by decide) (by decide) (.slice (some ⟨gn, 0, none⟩) 4 4) 4 _ _ 1 _ _ rfl rfl HO.out HS.out (by omega) hsz ?_; intro A5 c5 w2 hp; have kl2 := hp.blk HL.out hgl; have kr3 := hp.blk HR.out hgr; have cr3 := kr3.cell; have fr3 := kr3.frozen; have zr3 := kr3.lt; have B4 := hp.bl HO.out (B3 _); have cl2 := kl2.cell; have fl2 := kl2.frozen; have cl0 : w2.cell? ⟨gl, 0, none⟩ = some (.slice (some ⟨gn, 0, none⟩) 4 4) := cl2 0))
    all_goals
      go_wp2_with fail
      have BF : Bl w ((((((w2.setCell ⟨gl, 0, none⟩ (.slice A5 5 c5)).setCell ⟨w.heap.size, 0, none⟩ (.slice A5 5 c5)).setCell ⟨w.heap.size, 1, none⟩ (.slice none 0 0)).setCell ⟨w.heap.size, 2, none⟩ (.slice none 0 0)).setCell ⟨w.heap.size, 3, none⟩ (.slice (cutA (some ⟨g, o, none⟩) c U) (n - U) (c - U)))) := ((((Below.setCell B4 (Nat.le_of_lt n3) _).setCell (Nat.le_refl _) _).setCell (Nat.le_refl _) _).setCell (Nat.le_refl _) _).setCell (Nat.le_refl _) _
      have kf : Blk ((((((w2.setCell ⟨gl, 0, none⟩ (.slice A5 5 c5)).setCell ⟨w.heap.size, 0, none⟩ (.slice A5 5 c5)).setCell ⟨w.heap.size, 1, none⟩ (.slice none 0 0)).setCell ⟨w.heap.size, 2, none⟩ (.slice none 0 0)).setCell ⟨w.heap.size, 3, none⟩ (.slice (cutA (some ⟨g, o, none⟩) c U) (n - U) (c - U)))) w.heap.size #[.slice A5 5 c5, .slice none 0 0, .slice none 0 0, .slice (cutA (some ⟨g, o, none⟩) c U) (n - U) (c - U)] 35 := (((((kr3.far (p := ⟨gl, 0, none⟩) (Nat.ne_of_lt n3) _).set 0 _).set 1 _).set 2 _).set 3 _)
      have kr4 := kr3.far (p := ⟨gl, 0, none⟩) (Nat.ne_of_lt n3) (.slice A5 5 c5)
      have kr5 := kr4.set 0 (.slice A5 5 c5)
      have kr6 := kr5.set 1 (.slice none 0 0)
      have kr7 := kr6.set 2 (.slice none 0 0)
      have o5 := own_numV (F := Fr B w) (l := [x0, x1, 8, (U : Int), be (sub l 4 8)]) (own_set (own_set (own_set (own_set (own_set hp.own kl2 (by decide) 0 (.slice A5 5 c5)) kr4 (by decide) 0 (.slice A5 5 c5)) kr5 (by decide) 1 (.slice none 0 0)) kr6 (by decide) 2 (.slice none 0 0)) kr7 (by decide) 3 (.slice (cutA (some ⟨g, o, none⟩) c U) (n - U) (c - U))) (fun k h1 _ => .inr h1)
      have cf := kf.cell
      clear kr4 kr5 kr6 kr7 hp
      generalize (((((w2.setCell ⟨gl, 0, none⟩ (.slice A5 5 c5)).setCell ⟨w.heap.size, 0, none⟩ (.slice A5 5 c5)).setCell ⟨w.heap.size, 1, none⟩ (.slice none 0 0)).setCell ⟨w.heap.size, 2, none⟩ (.slice none 0 0)).setCell ⟨w.heap.size, 3, none⟩ (.slice (cutA (some ⟨g, o, none⟩) c U) (n - U) (c - U))) = WF at *
      refine bodyPost_ret (v := .tuple #[.agg #[.slice A5 5 c5, .slice none 0 0, .slice none 0 0, .slice (cutA (some ⟨g, o, none⟩) c U) (n - U) (c - U)], .bool true, .bool true]) (by simp [results, Try.results43, go_sem, cf]) rfl ?_
      subst hlen
      exact ⟨_, rfl, ⟨_, _, _, _, rfl, o5, DataV.nil _ _, PartsV.nil _ _, ((HH.out.below BF).cut U l.length (by omega) (by omega)).bytV (cutA_inF (HA.out.mono fun _ h => .inl h) (fun _ => by omega)) (HB.out.sub _ _)⟩, BF⟩
  · have B2 : Bl w (((w1.alloc (.cells #[.slice (some ⟨w1.heap.size + 1, 0, none⟩) 4 4, .slice none 0 0, .slice none 0 0, .slice (cutA (some ⟨g, o, none⟩) c U) (n - U) (c - U)] 35)).alloc (.cells #[.int .u64 x0, .int .u64 x1, .int .u64 8, .int .u64 U] 26)).drew) := ((B1.alloc (by (try simp); omega) _).alloc (by (try simp); omega) _).drew
    have kr2 : Blk (((w1.alloc (.cells #[.slice (some ⟨w1.heap.size + 1, 0, none⟩) 4 4, .slice none 0 0, .slice none 0 0, .slice (cutA (some ⟨g, o, none⟩) c U) (n - U) (c - U)] 35)).alloc (.cells #[.int .u64 x0, .int .u64 x1, .int .u64 8, .int .u64 U] 26)).drew) w.heap.size #[.slice none 0 0, .slice none 0 0, .slice none 0 0, .slice none 0 0] 35 := (((kr.alloc _).alloc _).same rfl)
    have kn : Blk (((w1.alloc (.cells #[.slice (some ⟨w1.heap.size + 1, 0, none⟩) 4 4, .slice none 0 0, .slice none 0 0, .slice (cutA (some ⟨g, o, none⟩) c U) (n - U) (c - U)] 35)).alloc (.cells #[.int .u64 x0, .int .u64 x1, .int .u64 8, .int .u64 U] 26)).drew) (w1.heap.size + 1) #[.int .u64 x0, .int .u64 x1, .int .u64 8, .int .u64 U] 26 := ((Blk.newAt (w1.alloc (.cells #[.slice (some ⟨w1.heap.size + 1, 0, none⟩) 4 4, .slice none 0 0, .slice none 0 0, .slice (cutA (some ⟨g, o, none⟩) c U) (n - U) (c - U)] 35)) #[.int .u64 x0, .int .u64 x1, .int .u64 8, .int .u64 U] 26 (w1.heap.size + 1) (by simp)).same rfl)
    have kl : Blk (((w1.alloc (.cells #[.slice (some ⟨w1.heap.size + 1, 0, none⟩) 4 4, .slice none 0 0, .slice none 0 0, .slice (cutA (some ⟨g, o, none⟩) c U) (n - U) (c - U)] 35)).alloc (.cells #[.int .u64 x0, .int .u64 x1, .int .u64 8, .int .u64 U] 26)).drew) w1.heap.size #[.slice (some ⟨w1.heap.size + 1, 0, none⟩) 4 4, .slice none 0 0, .slice none 0 0, .slice (cutA (some ⟨g, o, none⟩) c U) (n - U) (c - U)] 35 := (((Blk.newAt w1 #[.slice (some ⟨w1.heap.size + 1, 0, none⟩) 4 4, .slice none 0 0, .slice none 0 0, .slice (cutA (some ⟨g, o, none⟩) c U) (n - U) (c - U)] 35 w1.heap.size rfl).alloc (.cells #[.int .u64 x0, .int .u64 x1, .int .u64 8, .int .u64 U] 26)).same rfl)
    have n1 : (w1.heap.size + 1) ≠ w1.heap.size := by omega
    have n2 : w.heap.size < (w1.heap.size + 1) := by omega
    have n3 : w.heap.size < w1.heap.size := by omega
    clear cr fr
    generalize ((w1.alloc (.cells #[.slice (some ⟨w1.heap.size + 1, 0, none⟩) 4 4, .slice none 0 0, .slice none 0 0, .slice (cutA (some ⟨g, o, none⟩) c U) (n - U) (c - U)] 35)).alloc (.cells #[.int .u64 x0, .int .u64 x1, .int .u64 8, .int .u64 U] 26)).drew = W at *
    generalize H1 : (w1.heap.size + 1) = gn at *
    generalize H2 : w1.heap.size = gl at *
    have cr := kr2.cell
    have fr := kr2.frozen
    have zr2 := kr2.lt
    have cl := kl.cell
    have fl := kl.frozen
    have zl := kl.lt
    have zn := kn.lt
    clear H1 H2
    go_wp2_with fail
    have ow := kn.own (B := w.heap.size) (Nat.le_of_lt n2) rfl (by show 4 ≤ maxLen; decide)
    have OW := Lib.hid ow
    have RR := Lib.hid ((HH.out.cutm 4 8 4 (by omega) (by omega)).below B2)
    have zW : w.heap.size ≤ W.heap.size := Nat.le_of_lt zr2
    have B3 : ∀ o, Bl w (W.drew.alloc o) := fun o => (B2.drew).alloc (by simp; omega) _
    have cl0 : W.cell? ⟨gl, 0, none⟩ = some (.slice (some ⟨gn, 0, none⟩) 4 4) := cl 0
    have HS := Lib.hid (Blk.src (Blk.new W.drew #[.int .u64 (be (sub l 4 8))] 26) 1 1 rfl (fun u hu => by simp at hu; subst hu; rfl))
    have HO := Lib.hid ((World.ownsRow.drew ow).alloc (.cells #[.int .u64 (be (sub l 4 8))] 26))
    have HL := Lib.hid ((kl.same (w' := W.drew) rfl).alloc (.cells #[.int .u64 (be (sub l 4 8))] 26))
    have HR := Lib.hid ((kr2.same (w' := W.drew) rfl).alloc (.cells #[.int .u64 (be (sub l 4 8))] 26))
    have hgl : (Value.slice (some ⟨gn, 0, none⟩) 4 4).ownBlock ≠ some gl := by simp [Value.ownBlock]; omega
    have hgr : (Value.slice (some ⟨gn, 0, none⟩) 4 4).ownBlock ≠ some w.heap.size := by simp [Value.ownBlock]; omega
    have hsz : w.heap.size ≤ (W.drew.alloc (.cells #[.int .u64 (be (sub l 4 8))] 26)).heap.size := by simp; omega
    clear ow OW
    go_region_law
      (first
        | (go_simp; go_at_call 38; (with_reducible refine (num_any _ _ _ _ _ (RR.out.below (by go_grown)) (HB.out.sub 4 8) (by omega) (by omega)).mono ?_); rintro e w2 ⟨rfl, rfl⟩)
        | (refine step_app rfl _ _ 31 26 (.int .u64 0) 1 8 w.heap.size rfl u31 info26 rfl (by decide) (by decide) (.slice (some ⟨gn, 0, none⟩) 4 4) 4 _ _ 1 _ _ rfl rfl HO.out HS.out (by omega) hsz ?_; intro A5 c5 w2 hp; have kl2 := hp.blk HL.out hgl; have kr3 := hp.blk HR.out hgr; have cr3 := kr3.cell; have fr3 := kr3.frozen; have zr3 := kr3.lt; have B4 := hp.bl HO.out (B3 _); have cl2 := kl2.cell; have fl2 := kl2.frozen; have cl0 : w2.cell? ⟨gl, 0, none⟩ = some (.slice (some ⟨gn, 0, none⟩) 4 4) := cl2 0))
    all_goals
      go_wp2_with fail
      have BF : Bl w ((((((w2.setCell ⟨gl, 0, none⟩ (.slice A5 5 c5)).setCell ⟨w.heap.size, 0, none⟩ (.slice A5 5 c5)).setCell ⟨w.heap.size, 1, none⟩ (.slice none 0 0)).setCell ⟨w.heap.size, 2, none⟩ (.slice none 0 0)).setCell ⟨w.heap.size, 3, none⟩ (.slice (cutA (some ⟨g, o, none⟩) c U) (n - U) (c - U)))) := ((((Below.setCell B4 (Nat.le_of_lt n3) _).setCell (Nat.le_refl _) _).setCell (Nat.le_refl _) _).setCell (Nat.le_refl _) _).setCell (Nat.le_refl _) _
      have kf : Blk ((((((w2.setCell ⟨gl, 0, none⟩ (.slice A5 5 c5)).setCell ⟨w.heap.size, 0, none⟩ (.slice A5 5 c5)).setCell ⟨w.heap.size, 1, none⟩ (.slice none 0 0)).setCell ⟨w.heap.size, 2, none⟩ (.slice none 0 0)).setCell ⟨w.heap.size, 3, none⟩ (.slice (cutA (some ⟨g, o, none⟩) c U) (n - U) (c - U)))) w.heap.size #[.slice A5 5 c5, .slice none 0 0, .slice none 0 0, .slice (cutA (some ⟨g, o, none⟩) c U) (n - U) (c - U)] 35 := (((((kr3.far (p := ⟨gl, 0, none⟩) (Nat.ne_of_lt n3) _).set 0 _).set 1 _).set 2 _).set 3 _)
      have kr4 := kr3.far (p := ⟨gl, 0, none⟩) (Nat.ne_of_lt n3) (.slice A5 5 c5)
      have kr5 := kr4.set 0 (.slice A5 5 c5)
      have kr6 := kr5.set 1 (.slice none 0 0)
      have kr7 := kr6.set 2 (.slice none 0 0)
      have o5 := own_numV (F := Fr B w) (l := [x0, x1, 8, (U : Int), be (sub l 4 8)]) (own_set (own_set (own_set (own_set (own_set hp.own kl2 (by decide) 0 (.slice A5 5 c5)) kr4 (by decide) 0 (.slice A5 5 c5)) kr5 (by decide) 1 (.slice none 0 0)) kr6 (by decide) 2 (.slice none 0 0)) kr7 (by decide) 3 (.slice (cutA (some ⟨g, o, none⟩) c U) (n - U) (c - U))) (fun k h1 _ => .inr h1)
      have cf := kf.cell
      clear kr4 kr5 kr6 kr7 hp
      generalize (((((w2.setCell ⟨gl, 0, none⟩ (.slice A5 5 c5)).setCell ⟨w.heap.size, 0, none⟩ (.slice A5 5 c5)).setCell ⟨w.heap.size, 1, none⟩ (.slice none 0 0)).setCell ⟨w.heap.size, 2, none⟩ (.slice none 0 0)).setCell ⟨w.heap.size, 3, none⟩ (.slice (cutA (some ⟨g, o, none⟩) c U) (n - U) (c - U))) = WF at *
      refine bodyPost_ret (v := .tuple #[.agg #[.slice A5 5 c5, .slice none 0 0, .slice none 0 0, .slice (cutA (some ⟨g, o, none⟩) c U) (n - U) (c - U)], .bool true, .bool true]) (by simp [results, Try.results43, go_sem, cf]) rfl ?_
      subst hlen
      exact ⟨_, rfl, ⟨_, _, _, _, rfl, o5, DataV.nil _ _, PartsV.nil _ _, ((HH.out.below BF).cut U l.length (by omega) (by omega)).bytV (cutA_inF (HA.out.mono fun _ h => .inl h) (fun _ => by omega)) (HB.out.sub _ _)⟩, BF⟩
end Go.Proofs.Ytoljdgfbkebgcaa
namespace Go.Proofs.Ytoljdgfbkebgcaa
open Go.RowKit
set_option linter.unusedVariables false
set_option maxHeartbeats 4000000 in
set_option maxRecDepth 100000 in
theorem srShu_odd (l : List Int) (hl : By l) (h4' : 4 ≤ chL l) (hup : up4 (chL l) ≤ l.length) (hn2 : l.length ≤ 2147483647) (h8 : chL l ≠ 8) (hk : kindOf (l.getD 0 0) = ⟨#[115, 99, 116, 112, 115, 104, 117, 116, 100, 111, 119, 110]⟩) :
    SpecAt ⟨#[115, 99, 116, 112, 115, 104, 117, 116, 100, 111, 119, 110]⟩ l nilLyr false false := by
  intro A n c B w h hA _
  have u4 : chL l ≤ up4 (chL l) := by unfold up4; omega
  have hlen := h.len
  have h4 : 4 ≤ n := by omega
  have h5 : n ≤ 2147483647 := by omega
  have hcap := h.cap
  have HH := Lib.hid h
  have HA := Lib.hid hA
  have s1 := run_cut A n c 2 4 2 4 rfl rfl (by omega) (by omega) 24 Try.underlying24 size5
  have s2 := run_cut_l A n c (up4 (chL l)) _ rfl (by omega) 24 Try.underlying24 size5
  have s3 := run_cut A n c 4 (chL l) 4 (be (sub l 2 4)) rfl (chL_int l hl) h4' (by omega) 24 Try.underlying24 size5
  have R1 := Lib.hid (h.cutm 2 4 2 (by omega) (by omega))
  have HB := Lib.hid hl
  have b1 := be_bd2 (sub l 2 4) (hl.sub _ _) (by rw [sub_length _ _ _ (by omega)])
  have b0 := hl.getD 0
  have b0' := hl.getD 1
  have e1 := chL_int l hl
  have b8 : (be (sub l 2 4) == 8) = false := by simp; omega
  have b2 : 4 ≤ be (sub l 2 4) := by omega
  have b3 : be (sub l 2 4) ≤ (n : Int) := by omega
  have e2 : (be (sub l 2 4) + 3) / 4 * 4 = (up4 (chL l) : Int) := by rw [e1]; unfold up4; omega
  have b4 : (up4 (chL l) : Int) ≤ (n : Int) := by omega
  obtain ⟨g, o, rfl, hg, hc⟩ := h.at (by omega)
  have d0 := hc 0 (by omega)
  have d1 := hc 1 (by omega)
  simp only [Nat.add_zero] at d0
  have HK := Lib.hid hk
  generalize l.getD 0 0 = x0 at *
  generalize l.getD 1 0 = x1 at *
  generalize up4 (chL l) = U at *
  generalize chL l = V at *
  clear h hn2 hc hl hk e1 hA
  go_enter Try.func43, Try.ntmps43
  go_wp2_with fail
  (with_reducible refine (num_any _ _ _ _ _ (R1.out.below (by go_grown)) (HB.out.sub 2 4) (by omega) (by omega)).mono ?_)
  rintro e w1 ⟨rfl, rfl⟩
  generalize G2 : be (sub l 2 4) = L at *
  go_wp2_with fail
  (with_reducible refine (sup_any _ (by omega) (by omega) _).mono ?_)
  rintro e w1 ⟨rfl, rfl⟩
  rw [e2]
  go_wp2_with fail
  (with_reducible refine (kind_any _ _).mono ?_)
  rintro e w1 ⟨rfl, hb1⟩
  rw [HK.out]
  have kr := Blk.keep hb1 (Blk.new w _ _)
  have cr := kr.cell
  have fr := kr.frozen
  have zr := kr.lt
  have B1 : Bl w w1 := Bl.trans (by go_grown) hb1
  have d0' := (B1.cell (p := ⟨g, o, none⟩) hg).trans d0
  have d1' := (B1.cell (p := ⟨g, o + 1, none⟩) hg).trans d1
  have zg : g < w1.heap.size := Nat.lt_of_lt_of_le hg B1.size
  have HX := Lib.hid HH
  clear d0 d1 hb1
  go_wp2_with fail
  go_region
  · have B2 : Bl w (((w1.alloc (.cells #[.int .u64 x0, .int .u64 x1, .int .u64 L, .int .u64 U] 26)).alloc (.cells #[.slice (some ⟨w1.heap.size, 0, none⟩) 4 4, .slice none 0 0, .slice none 0 0, .slice (cutA (some ⟨g, o, none⟩) c U) (n - U) (c - U)] 35)).drew) := ((B1.alloc (by (try simp); omega) _).alloc (by (try simp); omega) _).drew
    have kr2 : Blk (((w1.alloc (.cells #[.int .u64 x0, .int .u64 x1, .int .u64 L, .int .u64 U] 26)).alloc (.cells #[.slice (some ⟨w1.heap.size, 0, none⟩) 4 4, .slice none 0 0, .slice none 0 0, .slice (cutA (some ⟨g, o, none⟩) c U) (n - U) (c - U)] 35)).drew) w.heap.size #[.slice none 0 0, .slice none 0 0, .slice none 0 0, .slice none 0 0] 35 := (((kr.alloc _).alloc _).same rfl)
    have kn : Blk (((w1.alloc (.cells #[.int .u64 x0, .int .u64 x1, .int .u64 L, .int .u64 U] 26)).alloc (.cells #[.slice (some ⟨w1.heap.size, 0, none⟩) 4 4, .slice none 0 0, .slice none 0 0, .slice (cutA (some ⟨g, o, none⟩) c U) (n - U) (c - U)] 35)).drew) w1.heap.size #[.int .u64 x0, .int .u64 x1, .int .u64 L, .int .u64 U] 26 := (((Blk.newAt w1 #[.int .u64 x0, .int .u64 x1, .int .u64 L, .int .u64 U] 26 w1.heap.size rfl).alloc (.cells #[.slice (some ⟨w1.heap.size, 0, none⟩) 4 4, .slice none 0 0, .slice none 0 0, .slice (cutA (some ⟨g, o, none⟩) c U) (n - U) (c - U)] 35)).same rfl)
    have kl : Blk (((w1.alloc (.cells #[.int .u64 x0, .int .u64 x1, .int .u64 L, .int .u64 U] 26)).alloc (.cells #[.slice (some ⟨w1.heap.size, 0, none⟩) 4 4, .slice none 0 0, .slice none 0 0, .slice (cutA (some ⟨g, o, none⟩) c U) (n - U) (c - U)] 35)).drew) (w1.heap.size + 1) #[.slice (some ⟨w1.heap.size, 0, none⟩) 4 4, .slice none 0 0, .slice none 0 0, .slice (cutA (some ⟨g, o, none⟩) c U) (n - U) (c - U)] 35 := ((Blk.newAt (w1.alloc (.cells #[.int .u64 x0, .int .u64 x1, .int .u64 L, .int .u64 U] 26)) #[.slice (some ⟨w1.heap.size, 0, none⟩) 4 4, .slice none 0 0, .slice none 0 0, .slice (cutA (some ⟨g, o, none⟩) c U) (n - U) (c - U)] 35 (w1.heap.size + 1) (by simp)).same rfl)
    have n1 : w1.heap.size ≠ (w1.heap.size + 1) := by omega
    have n2 : w.heap.size < w1.heap.size := by omega
    have n3 : w.heap.size < (w1.heap.size + 1) := by omega
    clear cr fr
    generalize ((w1.alloc (.cells #[.int .u64 x0, .int .u64 x1, .int .u64 L, .int .u64 U] 26)).alloc (.cells #[.slice (some ⟨w1.heap.size, 0, none⟩) 4 4, .slice none 0 0, .slice none 0 0, .slice (cutA (some ⟨g, o, none⟩) c U) (n - U) (c - U)] 35)).drew = W at *
    generalize H2 : (w1.heap.size + 1) = gl at *
    generalize H1 : w1.heap.size = gn at *
    have cr := kr2.cell
    have fr := kr2.frozen
    have zr2 := kr2.lt
    have cl := kl.cell
    have fl := kl.frozen
    have zl := kl.lt
    have zn := kn.lt
    clear H1 H2
    go_wp2_with fail
    (with_reducible refine (open_any _).mono ?_)
    rintro e w2 ⟨rfl, hb2⟩
    have kr3 := Blk.keep hb2 kr2
    have cr3 := kr3.cell
    have fr3 := kr3.frozen
    have zr3 := kr3.lt
    have B3 := B2.trans hb2
    unfold zeroLyr
    go_wp2_with fail
    refine bodyPost_ret (v := .tuple #[zeroLyr, .bool false, .bool false]) (by simp [results, Try.results43, go_sem, cr3, zeroLyr]) rfl (told_zero _ _ _ _ (Bl.boxed B3 (Nat.le_refl _) _ _ _ _))
  · have B2 : Bl w (((w1.alloc (.cells #[.slice (some ⟨w1.heap.size + 1, 0, none⟩) 4 4, .slice none 0 0, .slice none 0 0, .slice (cutA (some ⟨g, o, none⟩) c U) (n - U) (c - U)] 35)).alloc (.cells #[.int .u64 x0, .int .u64 x1, .int .u64 L, .int .u64 U] 26)).drew) := ((B1.alloc (by (try simp); omega) _).alloc (by (try simp); omega) _).drew
    have kr2 : Blk (((w1.alloc (.cells #[.slice (some ⟨w1.heap.size + 1, 0, none⟩) 4 4, .slice none 0 0, .slice none 0 0, .slice (cutA (some ⟨g, o, none⟩) c U) (n - U) (c - U)] 35)).alloc (.cells #[.int .u64 x0, .int .u64 x1, .int .u64 L, .int .u64 U] 26)).drew) w.heap.size #[.slice none 0 0, .slice none 0 0, .slice none 0 0, .slice none 0 0] 35 := (((kr.alloc _).alloc _).same rfl)
    have kn : Blk (((w1.alloc (.cells #[.slice (some ⟨w1.heap.size + 1, 0, none⟩) 4 4, .slice none 0 0, .slice none 0 0, .slice (cutA (some ⟨g, o, none⟩) c U) (n - U) (c - U)] 35)).alloc (.cells #[.int .u64 x0, .int .u64 x1, .int .u64 L, .int .u64 U] 26)).drew) (w1.heap.size + 1) #[.int .u64 x0, .int .u64 x1, .int .u64 L, .int .u64 U] 26 := ((Blk.newAt (w1.alloc (.cells #[.slice (some ⟨w1.heap.size + 1, 0, none⟩) 4 4, .slice none 0 0, .slice none 0 0, .slice (cutA (some ⟨g, o, none⟩) c U) (n - U) (c - U)] 35)) #[.int .u64 x0, .int .u64 x1, .int .u64 L, .int .u64 U] 26 (w1.heap.size + 1) (by simp)).same rfl)
    have kl : Blk (((w1.alloc (.cells #[.slice (some ⟨w1.heap.size + 1, 0, none⟩) 4 4, .slice none 0 0, .slice none 0 0, .slice (cutA (some ⟨g, o, none⟩) c U) (n - U) (c - U)] 35)).alloc (.cells #[.int .u64 x0, .int .u64 x1, .int .u64 L, .int .u64 U] 26)).drew) w1.heap.size #[.slice (some ⟨w1.heap.size + 1, 0, none⟩) 4 4, .slice none 0 0, .slice none 0 0, .slice (cutA (some ⟨g, o, none⟩) c U) (n - U) (c - U)] 35 := (((Blk.newAt w1 #[.slice (some ⟨w1.heap.size + 1, 0, none⟩) 4 4, .slice none 0 0, .slice none 0 0, .slice (cutA (some ⟨g, o, none⟩) c U) (n - U) (c - U)] 35 w1.heap.size rfl).alloc (.cells #[.int .u64 x0, .int .u64 x1, .int .u64 L, .int .u64 U] 26)).same rfl)
    have n1 : (w1.heap.size + 1) ≠ w1.heap.size := by omega
    have n2 : w.heap.size < (w1.heap.size + 1) := by omega
    have n3 : w.heap.size < w1.heap.size := by omega
    clear cr fr
    generalize ((w1.alloc (.cells #[.slice (some ⟨w1.heap.size + 1, 0, none⟩) 4 4, .slice none 0 0, .slice none 0 0, .slice (cutA (some ⟨g, o, none⟩) c U) (n - U) (c - U)] 35)).alloc (.cells #[.int .u64 x0, .int .u64 x1, .int .u64 L, .int .u64 U] 26)).drew = W at *
    generalize H1 : (w1.heap.size + 1) = gn at *
    generalize H2 : w1.heap.size = gl at *
    have cr := kr2.cell
    have fr := kr2.frozen
    have zr2 := kr2.lt
    have cl := kl.cell
    have fl := kl.frozen
    have zl := kl.lt
    have zn := kn.lt
    clear H1 H2
    go_wp2_with fail
    (with_reducible refine (open_any _).mono ?_)
    rintro e w2 ⟨rfl, hb2⟩
    have kr3 := Blk.keep hb2 kr2
    have cr3 := kr3.cell
    have fr3 := kr3.frozen
    have zr3 := kr3.lt
    have B3 := B2.trans hb2
    unfold zeroLyr
    go_wp2_with fail
    refine bodyPost_ret (v := .tuple #[zeroLyr, .bool false, .bool false]) (by simp [results, Try.results43, go_sem, cr3, zeroLyr]) rfl (told_zero _ _ _ _ (Bl.boxed B3 (Nat.le_refl _) _ _ _ _))
end Go.Proofs.Ytoljdgfbkebgcaa
namespace Go.Proofs.Ytoljdgfbkebgcaa
open Go.RowKit
set_option linter.unusedVariables false
theorem decShu_at (l : List Int) (hl : By l) (hk : kindOf (l.getD 0 0) = ⟨#[115, 99, 116, 112, 115, 104, 117, 116, 100, 111, 119, 110]⟩) (h4' : 4 ≤ chL l) (hup : up4 (chL l) ≤ l.length) (h0 : l.getD 0 0 ≠ 0) (hn2 : l.length ≤ 2000) (h8 : 8 ≤ l.length) : DecAt l := by
  intro A n c w h
  have hlen := h.len
  rw [hk]
  refine (decodedN_ok _ l _ _ _ hn2 (calledShu_yes l hl h4' hup h0 hn2 h8) (zzShu_ok l hl h4' hup h0 hn2 h8) A n c w h).mono ?_
  rintro e w1 ⟨A1, c1, gl, rfl, ho, r1, i1⟩
  exact Obj1.dec h0 rfl hup (by omega) rfl meth130 ho.bl ho.layer (by decide) rfl rfl r1 i1
theorem Shu_kind (l : List Int) (hl : By l) (hn : l.length ≤ 2147483647) (hk : kindOf (l.getD 0 0) = ⟨#[115, 99, 116, 112, 115, 104, 117, 116, 100, 111, 119, 110]⟩) : KindAt l := by
  have hs : ((⟨#[115, 99, 116, 112, 115, 104, 117, 116, 100, 111, 119, 110]⟩ : ByteArray).toList == [115, 99, 116, 112]) = false := by simp [go_sem]
  have hd : ((⟨#[115, 99, 116, 112, 115, 104, 117, 116, 100, 111, 119, 110]⟩ : ByteArray).toList == [115, 99, 116, 112, 100, 97, 116, 97]) = false := by simp [go_sem]
  by_cases h4 : l.length < 4
  · exact KindAt.no hk nilLyr false true (sr_short _ l hs h4) rfl
  have hk' : ((kindOf (l.getD 0 0)).toList == (⟨#[115, 99, 116, 112, 115, 104, 117, 116, 100, 111, 119, 110]⟩ : ByteArray).toList) = true := by rw [hk]; simp
  have h0 : l.getD 0 0 ≠ 0 := by
    intro h0
    rw [h0] at hk
    rw [← hk] at hd
    simp [kindOf, kDat, go_sem] at hd
  by_cases hL : chL l < 4
  · exact KindAt.no hk nilLyr false true (sr_low _ l hl hs (by omega) (by omega) hk' hL) rfl
  by_cases hlong : l.length < chL l
  · exact KindAt.no hk nilLyr false true (sr_long _ l hl hs (by omega) (by omega) hk' hd hlong) rfl
  by_cases hup : l.length < up4 (chL l)
  · exact KindAt.no hk nilLyr false false (sr_full _ l hl hs (by omega) (by omega) hk' hd (by omega) (by omega) hup) rfl
  by_cases h8 : chL l ≠ 8
  · exact KindAt.no hk nilLyr false false (srShu_odd l hl (by omega) (by omega) (by omega) h8 hk) rfl
  have h8 : chL l = 8 := by omega
  exact ⟨_, true, true, by rw [hk]; exact srShu_some l hl (by omega) (by omega) (by omega) h8 hk, fun _ _ => ⟨by omega, by omega, ⟨_, rfl⟩, fun h => absurd h h0, fun h2 => decShu_at l hl hk (by omega) (by omega) h0 h2 (by unfold up4 at hup; omega)⟩⟩
end Go.Proofs.Ytoljdgfbkebgcaa
namespace Go.Proofs.Ytoljdgfbkebgcaa
open Go.RowKit
set_option linter.unusedVariables false
set_option maxHeartbeats 1000000 in
theorem readPkt_any (A : Option Addr) (n c : Nat) (l : List Int) (w : World) (h : Rd .u8 w A n c l) (hl : By l) (h12 : 12 ≤ n) (hn : n ≤ 2000) (ps : List Prt) (pay : List Int) (hp : Pkt (sub l 12 l.length) ps pay) :
    Calls Try.prog 33 #[.string ⟨#[112, 97, 99, 107, 101, 116]⟩, .slice A n c] w fun e w' => Got w w' e ⟨hdNums l, [], ps, pay⟩ := by
  have H := Lib.hid h
  have HB := Lib.hid hl
  have HP := Lib.hid hp
  clear h hl hp
  go_enter Try.func33, Try.ntmps33
  go_wp2_with fail
  (with_reducible refine (imPkt_any _ _ _ _ _ (H.out.below (by go_grown)) HB.out h12 hn ps pay HP.out).mono ?_)
  rintro e w1 ⟨v, rfl, hL, hb⟩
  have hz : w.heap.size < (w.alloc (.cells #[.slice none 0 0, .slice none 0 0, .slice none 0 0, .slice none 0 0] 35)).heap.size := by simp
  have hL1 : LyrV (fun k => w.heap.size < k) w1 v ⟨hdNums l, [], ps, pay⟩ := hL.mono fun k hk => Nat.lt_of_lt_of_le hz hk
  have kr := Blk.keep hb (Blk.new w #[.slice none 0 0, .slice none 0 0, .slice none 0 0, .slice none 0 0] 35)
  have B1 := Lib.hid (Bl.trans (show Bl w (w.alloc (.cells #[.slice none 0 0, .slice none 0 0, .slice none 0 0, .slice none 0 0] 35)) by go_grown) hb)
  obtain ⟨A0, c0, A1, c1, A2, c2, A3, c3, rfl⟩ := hL1.form
  have HL := Lib.hid hL1
  have cr := kr.cell
  have fr := kr.frozen
  have zr := kr.lt
  clear hL hL1 hb hz
  go_wp2_with fail
  refine bodyPost_ret (v := .tuple #[.agg #[.slice A0 (hdNums l).length c0, .slice A1 0 c1, .slice A2 ps.length c2, .slice A3 pay.length c3], .bool true]) (by simp [results, Try.results33, go_sem, cr]) rfl
    ⟨_, rfl, (LyrV.boxed HL.out (Nat.lt_irrefl _) _ _ _ _).mono fun k hk => Nat.le_of_lt hk, Bl.boxed B1.out (Nat.le_refl _) _ _ _ _⟩
end Go.Proofs.Ytoljdgfbkebgcaa
