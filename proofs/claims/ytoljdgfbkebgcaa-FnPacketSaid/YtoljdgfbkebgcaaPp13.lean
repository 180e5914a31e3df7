/- spec.Read: sctpsack, where nothing is said. -/
import Derived.Test.YtoljdgfbkebgcaaPq10
import Derived.Test.YtoljdgfbkebgcaaPq07
import Derived.Test.YtoljdgfbkebgcaaPq03
import Derived.Test.YtoljdgfbkebgcaaPq08
import Derived.Test.YtoljdgfbkebgcaaPq04
import Derived.Test.YtoljdgfbkebgcaaPp10
import Derived.Test.YtoljdgfbkebgcaaPp11
import Derived.Test.YtoljdgfbkebgcaaPq06
import Derived.LoopTactic
namespace Go.Proofs.Ytoljdgfbkebgcaa
open Go.RowKit
set_option linter.unusedVariables false
set_option maxHeartbeats 4000000 in
set_option maxRecDepth 100000 in
theorem srSac_few (l : List Int) (hl : By l) (h4' : 4 ≤ chL l) (hup : up4 (chL l) ≤ l.length) (hn2 : l.length ≤ 2147483647) (h16 : chL l < 16) (hk : kindOf (l.getD 0 0) = ⟨#[115, 99, 116, 112, 115, 97, 99, 107]⟩) :
    SpecAt ⟨#[115, 99, 116, 112, 115, 97, 99, 107]⟩ l nilLyr false false := by
  intro A n c B w h hA hBw
  have u4 : chL l ≤ up4 (chL l) := by unfold up4; omega
  have hlen := h.len
  have h4 : 4 ≤ n := by omega
  have h5 : n ≤ 2147483647 := by omega
  have hcap := h.cap
  have HH := Lib.hid h
  have HA := Lib.hid hA
  have s1 := run_cut A n c 2 4 2 4 rfl rfl (by omega) (by omega) 24 Try.underlying24 size5
  have s2 := run_cut_l A n c (up4 (chL l)) _ rfl (by omega) 24 Try.underlying24 size5
  have s3 := run_cut A n c 4 (chL l) 4 (be (sub l 2 4)) rfl (chL_int l hl) h4' (by omega) 24 Try.underlying24 size5
  have R1 := Lib.hid (h.cutm 2 4 2 (by omega) (by omega))
  have HB := Lib.hid hl
  have b1 := be_bd2 (sub l 2 4) (hl.sub _ _) (by rw [sub_length _ _ _ (by omega)])
  have b0 := hl.getD 0
  have b0' := hl.getD 1
  have e1 := chL_int l hl
  have b16 : be (sub l 2 4) < 16 := by omega
  have b2 : 4 ≤ be (sub l 2 4) := by omega
  have b3 : be (sub l 2 4) ≤ (n : Int) := by omega
  have e2 : (be (sub l 2 4) + 3) / 4 * 4 = (up4 (chL l) : Int) := by rw [e1]; unfold up4; omega
  have b4 : (up4 (chL l) : Int) ≤ (n : Int) := by omega
  obtain ⟨g, o, rfl, hg, hc⟩ := h.at (by omega)
  have d0 := hc 0 (by omega)
  have d1 := hc 1 (by omega)
  simp only [Nat.add_zero] at d0
  have HK := Lib.hid hk
  generalize l.getD 0 0 = x0 at *
  generalize l.getD 1 0 = x1 at *
  generalize up4 (chL l) = U at *
  generalize chL l = V at *
  clear h hn2 hc hl hk e1 hA
  go_enter Try.func43, Try.ntmps43
  go_wp2_with fail
  (with_reducible refine (num_any _ _ _ _ _ (R1.out.below (by go_grown)) (HB.out.sub 2 4) (by omega) (by omega)).mono ?_)
  rintro e w1 ⟨rfl, rfl⟩
  generalize G2 : be (sub l 2 4) = L at *
  go_wp2_with fail
  (with_reducible refine (sup_any _ (by omega) (by omega) _).mono ?_)
  rintro e w1 ⟨rfl, rfl⟩
  rw [e2]
  go_wp2_with fail
  (with_reducible refine (kind_any _ _).mono ?_)
  rintro e w1 ⟨rfl, hb1⟩
  rw [HK.out]
  have kr := Blk.keep hb1 (Blk.new w _ _)
  have cr := kr.cell
  have fr := kr.frozen
  have zr := kr.lt
  have B1 : Bl w w1 := Bl.trans (by go_grown) hb1
  have d0' := (B1.cell (p := ⟨g, o, none⟩) hg).trans d0
  have d1' := (B1.cell (p := ⟨g, o + 1, none⟩) hg).trans d1
  have zg : g < w1.heap.size := Nat.lt_of_lt_of_le hg B1.size
  have HX := Lib.hid HH
  clear d0 d1 hb1
  go_wp2_with fail
  go_region
  · have B2 : Bl w (((w1.alloc (.cells #[.int .u64 x0, .int .u64 x1, .int .u64 L, .int .u64 U] 26)).alloc (.cells #[.slice (some ⟨w1.heap.size, 0, none⟩) 4 4, .slice none 0 0, .slice none 0 0, .slice (cutA (some ⟨g, o, none⟩) c U) (n - U) (c - U)] 35)).drew) := ((B1.alloc (by (try simp); omega) _).alloc (by (try simp); omega) _).drew
    have kr2 : Blk (((w1.alloc (.cells #[.int .u64 x0, .int .u64 x1, .int .u64 L, .int .u64 U] 26)).alloc (.cells #[.slice (some ⟨w1.heap.size, 0, none⟩) 4 4, .slice none 0 0, .slice none 0 0, .slice (cutA (some ⟨g, o, none⟩) c U) (n - U) (c - U)] 35)).drew) w.heap.size #[.slice none 0 0, .slice none 0 0, .slice none 0 0, .slice none 0 0] 35 := (((kr.alloc _).alloc _).same rfl)
    have kn : Blk (((w1.alloc (.cells #[.int .u64 x0, .int .u64 x1, .int .u64 L, .int .u64 U] 26)).alloc (.cells #[.slice (some ⟨w1.heap.size, 0, none⟩) 4 4, .slice none 0 0, .slice none 0 0, .slice (cutA (some ⟨g, o, none⟩) c U) (n - U) (c - U)] 35)).drew) w1.heap.size #[.int .u64 x0, .int .u64 x1, .int .u64 L, .int .u64 U] 26 := (((Blk.newAt w1 #[.int .u64 x0, .int .u64 x1, .int .u64 L, .int .u64 U] 26 w1.heap.size rfl).alloc (.cells #[.slice (some ⟨w1.heap.size, 0, none⟩) 4 4, .slice none 0 0, .slice none 0 0, .slice (cutA (some ⟨g, o, none⟩) c U) (n - U) (c - U)] 35)).same rfl)
    have kl : Blk (((w1.alloc (.cells #[.int .u64 x0, .int .u64 x1, .int .u64 L, .int .u64 U] 26)).alloc (.cells #[.slice (some ⟨w1.heap.size, 0, none⟩) 4 4, .slice none 0 0, .slice none 0 0, .slice (cutA (some ⟨g, o, none⟩) c U) (n - U) (c - U)] 35)).drew) (w1.heap.size + 1) #[.slice (some ⟨w1.heap.size, 0, none⟩) 4 4, .slice none 0 0, .slice none 0 0, .slice (cutA (some ⟨g, o, none⟩) c U) (n - U) (c - U)] 35 := ((Blk.newAt (w1.alloc (.cells #[.int .u64 x0, .int .u64 x1, .int .u64 L, .int .u64 U] 26)) #[.slice (some ⟨w1.heap.size, 0, none⟩) 4 4, .slice none 0 0, .slice none 0 0, .slice (cutA (some ⟨g, o, none⟩) c U) (n - U) (c - U)] 35 (w1.heap.size + 1) (by simp)).same rfl)
    have n1 : w1.heap.size ≠ (w1.heap.size + 1) := by omega
    have n2 : w.heap.size < w1.heap.size := by omega
    have n3 : w.heap.size < (w1.heap.size + 1) := by omega
    clear cr fr
    generalize ((w1.alloc (.cells #[.int .u64 x0, .int .u64 x1, .int .u64 L, .int .u64 U] 26)).alloc (.cells #[.slice (some ⟨w1.heap.size, 0, none⟩) 4 4, .slice none 0 0, .slice none 0 0, .slice (cutA (some ⟨g, o, none⟩) c U) (n - U) (c - U)] 35)).drew = W at *
    generalize H2 : (w1.heap.size + 1) = gl at *
    generalize H1 : w1.heap.size = gn at *
    have cr := kr2.cell
    have fr := kr2.frozen
    have zr2 := kr2.lt
    have cl := kl.cell
    have fl := kl.frozen
    have zl := kl.lt
    have zn := kn.lt
    clear H1 H2
    go_wp2_with fail
    (with_reducible refine (open_any _).mono ?_)
    rintro e w2 ⟨rfl, hb2⟩
    have kr3 := Blk.keep hb2 kr2
    have cr3 := kr3.cell
    have fr3 := kr3.frozen
    have zr3 := kr3.lt
    have B3 := B2.trans hb2
    unfold zeroLyr
    go_wp2_with fail
    refine bodyPost_ret (v := .tuple #[zeroLyr, .bool false, .bool false]) (by simp [results, Try.results43, go_sem, cr3, zeroLyr]) rfl (told_zero _ _ _ _ (Bl.boxed B3 (Nat.le_refl _) _ _ _ _))
  · have B2 : Bl w (((w1.alloc (.cells #[.slice (some ⟨w1.heap.size + 1, 0, none⟩) 4 4, .slice none 0 0, .slice none 0 0, .slice (cutA (some ⟨g, o, none⟩) c U) (n - U) (c - U)] 35)).alloc (.cells #[.int .u64 x0, .int .u64 x1, .int .u64 L, .int .u64 U] 26)).drew) := ((B1.alloc (by (try simp); omega) _).alloc (by (try simp); omega) _).drew
    have kr2 : Blk (((w1.alloc (.cells #[.slice (some ⟨w1.heap.size + 1, 0, none⟩) 4 4, .slice none 0 0, .slice none 0 0, .slice (cutA (some ⟨g, o, none⟩) c U) (n - U) (c - U)] 35)).alloc (.cells #[.int .u64 x0, .int .u64 x1, .int .u64 L, .int .u64 U] 26)).drew) w.heap.size #[.slice none 0 0, .slice none 0 0, .slice none 0 0, .slice none 0 0] 35 := (((kr.alloc _).alloc _).same rfl)
    have kn : Blk (((w1.alloc (.cells #[.slice (some ⟨w1.heap.size + 1, 0, none⟩) 4 4, .slice none 0 0, .slice none 0 0, .slice (cutA (some ⟨g, o, none⟩) c U) (n - U) (c - U)] 35)).alloc (.cells #[.int .u64 x0, .int .u64 x1, .int .u64 L, .int .u64 U] 26)).drew) (w1.heap.size + 1) #[.int .u64 x0, .int .u64 x1, .int .u64 L, .int .u64 U] 26 := ((Blk.newAt (w1.alloc (.cells #[.slice (some ⟨w1.heap.size + 1, 0, none⟩) 4 4, .slice none 0 0, .slice none 0 0, .slice (cutA (some ⟨g, o, none⟩) c U) (n - U) (c - U)] 35)) #[.int .u64 x0, .int .u64 x1, .int .u64 L, .int .u64 U] 26 (w1.heap.size + 1) (by simp)).same rfl)
    have kl : Blk (((w1.alloc (.cells #[.slice (some ⟨w1.heap.size + 1, 0, none⟩) 4 4, .slice none 0 0, .slice none 0 0, .slice (cutA (some ⟨g, o, none⟩) c U) (n - U) (c - U)] 35)).alloc (.cells #[.int .u64 x0, .int .u64 x1, .int .u64 L, .int .u64 U] 26)).drew) w1.heap.size #[.slice (some ⟨w1.heap.size + 1, 0, none⟩) 4 4, .slice none 0 0, .slice none 0 0, .slice (cutA (some ⟨g, o, none⟩) c U) (n - U) (c - U)] 35 := (((Blk.newAt w1 #[.slice (some ⟨w1.heap.size + 1, 0, none⟩) 4 4, .slice none 0 0, .slice none 0 0, .slice (cutA (some ⟨g, o, none⟩) c U) (n - U) (c - U)] 35 w1.heap.size rfl).alloc (.cells #[.int .u64 x0, .int .u64 x1, .int .u64 L, .int .u64 U] 26)).same rfl)
    have n1 : (w1.heap.size + 1) ≠ w1.heap.size := by omega
    have n2 : w.heap.size < (w1.heap.size + 1) := by omega
    have n3 : w.heap.size < w1.heap.size := by omega
    clear cr fr
    generalize ((w1.alloc (.cells #[.slice (some ⟨w1.heap.size + 1, 0, none⟩) 4 4, .slice none 0 0, .slice none 0 0, .slice (cutA (some ⟨g, o, none⟩) c U) (n - U) (c - U)] 35)).alloc (.cells #[.int .u64 x0, .int .u64 x1, .int .u64 L, .int .u64 U] 26)).drew = W at *
    generalize H1 : (w1.heap.size + 1) = gn at *
    generalize H2 : w1.heap.size = gl at *
    have cr := kr2.cell
    have fr := kr2.frozen
    have zr2 := kr2.lt
    have cl := kl.cell
    have fl := kl.frozen
    have zl := kl.lt
    have zn := kn.lt
    clear H1 H2
    go_wp2_with fail
    (with_reducible refine (open_any _).mono ?_)
    rintro e w2 ⟨rfl, hb2⟩
    have kr3 := Blk.keep hb2 kr2
    have cr3 := kr3.cell
    have fr3 := kr3.frozen
    have zr3 := kr3.lt
    have B3 := B2.trans hb2
    unfold zeroLyr
    go_wp2_with fail
    refine bodyPost_ret (v := .tuple #[zeroLyr, .bool false, .bool false]) (by simp [results, Try.results43, go_sem, cr3, zeroLyr]) rfl (told_zero _ _ _ _ (Bl.boxed B3 (Nat.le_refl _) _ _ _ _))
set_option maxHeartbeats 4000000 in
set_option maxRecDepth 100000 in
theorem srSac_gaps (l : List Int) (hl : By l) (h4' : 4 ≤ chL l) (hup : up4 (chL l) ≤ l.length) (hn2 : l.length ≤ 2147483647) (h16 : 16 ≤ chL l) (hg : 0 < be (sub l 12 14)) (hk : kindOf (l.getD 0 0) = ⟨#[115, 99, 116, 112, 115, 97, 99, 107]⟩) :
    SpecAt ⟨#[115, 99, 116, 112, 115, 97, 99, 107]⟩ l nilLyr false false := by
  intro A n c B w h hA hBw
  have u4 : chL l ≤ up4 (chL l) := by unfold up4; omega
  have hlen := h.len
  have h4 : 4 ≤ n := by omega
  have h5 : n ≤ 2147483647 := by omega
  have hcap := h.cap
  have HH := Lib.hid h
  have HA := Lib.hid hA
  have s1 := run_cut A n c 2 4 2 4 rfl rfl (by omega) (by omega) 24 Try.underlying24 size5
  have s2 := run_cut_l A n c (up4 (chL l)) _ rfl (by omega) 24 Try.underlying24 size5
  have s3 := run_cut A n c 4 (chL l) 4 (be (sub l 2 4)) rfl (chL_int l hl) h4' (by omega) 24 Try.underlying24 size5
  have R1 := Lib.hid (h.cutm 2 4 2 (by omega) (by omega))
  have HB := Lib.hid hl
  have b1 := be_bd2 (sub l 2 4) (hl.sub _ _) (by rw [sub_length _ _ _ (by omega)])
  have b0 := hl.getD 0
  have b0' := hl.getD 1
  have e1 := chL_int l hl
  have b16 : 16 ≤ be (sub l 2 4) := by omega
  have g0 := be_bd2 (sub l 12 14) (hl.sub _ _) (by rw [sub_length _ _ _ (by omega)])
  have g1 := be_bd2 (sub l 14 16) (hl.sub _ _) (by rw [sub_length _ _ _ (by omega)])
  have q0 := run_cut A n c 4 8 4 8 rfl rfl (by omega) (by omega) 24 Try.underlying24 size5
  have P0 := Lib.hid (h.cutm 4 8 4 (by omega) (by omega))
  have q1 := run_cut A n c 8 12 8 12 rfl rfl (by omega) (by omega) 24 Try.underlying24 size5
  have P1 := Lib.hid (h.cutm 8 12 4 (by omega) (by omega))
  have q2 := run_cut A n c 12 14 12 14 rfl rfl (by omega) (by omega) 24 Try.underlying24 size5
  have P2 := Lib.hid (h.cutm 12 14 2 (by omega) (by omega))
  have q3 := run_cut A n c 14 16 14 16 rfl rfl (by omega) (by omega) 24 Try.underlying24 size5
  have P3 := Lib.hid (h.cutm 14 16 2 (by omega) (by omega))
  generalize hgg : be (sub l 12 14) = G at *
  generalize hqq : be (sub l 14 16) = G' at *
  have b2 : 4 ≤ be (sub l 2 4) := by omega
  have b3 : be (sub l 2 4) ≤ (n : Int) := by omega
  have e2 : (be (sub l 2 4) + 3) / 4 * 4 = (up4 (chL l) : Int) := by rw [e1]; unfold up4; omega
  have b4 : (up4 (chL l) : Int) ≤ (n : Int) := by omega
  obtain ⟨g, o, rfl, hg, hc⟩ := h.at (by omega)
  have d0 := hc 0 (by omega)
  have d1 := hc 1 (by omega)
  simp only [Nat.add_zero] at d0
  have HK := Lib.hid hk
  generalize l.getD 0 0 = x0 at *
  generalize l.getD 1 0 = x1 at *
  generalize up4 (chL l) = U at *
  generalize chL l = V at *
  clear h hn2 hc hl hk e1 hA
  go_enter Try.func43, Try.ntmps43
  go_wp2_with fail
  (with_reducible refine (num_any _ _ _ _ _ (R1.out.below (by go_grown)) (HB.out.sub 2 4) (by omega) (by omega)).mono ?_)
  rintro e w1 ⟨rfl, rfl⟩
  generalize G2 : be (sub l 2 4) = L at *
  go_wp2_with fail
  (with_reducible refine (sup_any _ (by omega) (by omega) _).mono ?_)
  rintro e w1 ⟨rfl, rfl⟩
  rw [e2]
  go_wp2_with fail
  (with_reducible refine (kind_any _ _).mono ?_)
  rintro e w1 ⟨rfl, hb1⟩
  rw [HK.out]
  have kr := Blk.keep hb1 (Blk.new w _ _)
  have cr := kr.cell
  have fr := kr.frozen
  have zr := kr.lt
  have B1 : Bl w w1 := Bl.trans (by go_grown) hb1
  have d0' := (B1.cell (p := ⟨g, o, none⟩) hg).trans d0
  have d1' := (B1.cell (p := ⟨g, o + 1, none⟩) hg).trans d1
  have zg : g < w1.heap.size := Nat.lt_of_lt_of_le hg B1.size
  have HX := Lib.hid HH
  clear d0 d1 hb1
  go_wp2_with fail
  go_region
  · have B2 : Bl w (((w1.alloc (.cells #[.int .u64 x0, .int .u64 x1, .int .u64 L, .int .u64 U] 26)).alloc (.cells #[.slice (some ⟨w1.heap.size, 0, none⟩) 4 4, .slice none 0 0, .slice none 0 0, .slice (cutA (some ⟨g, o, none⟩) c U) (n - U) (c - U)] 35)).drew) := ((B1.alloc (by (try simp); omega) _).alloc (by (try simp); omega) _).drew
    have kr2 : Blk (((w1.alloc (.cells #[.int .u64 x0, .int .u64 x1, .int .u64 L, .int .u64 U] 26)).alloc (.cells #[.slice (some ⟨w1.heap.size, 0, none⟩) 4 4, .slice none 0 0, .slice none 0 0, .slice (cutA (some ⟨g, o, none⟩) c U) (n - U) (c - U)] 35)).drew) w.heap.size #[.slice none 0 0, .slice none 0 0, .slice none 0 0, .slice none 0 0] 35 := (((kr.alloc _).alloc _).same rfl)
    have kn : Blk (((w1.alloc (.cells #[.int .u64 x0, .int .u64 x1, .int .u64 L, .int .u64 U] 26)).alloc (.cells #[.slice (some ⟨w1.heap.size, 0, none⟩) 4 4, .slice none 0 0, .slice none 0 0, .slice (cutA (some ⟨g, o, none⟩) c U) (n - U) (c - U)] 35)).drew) w1.heap.size #[.int .u64 x0, .int .u64 x1, .int .u64 L, .int .u64 U] 26 := (((Blk.newAt w1 #[.int .u64 x0, .int .u64 x1, .int .u64 L, .int .u64 U] 26 w1.heap.size rfl).alloc (.cells #[.slice (some ⟨w1.heap.size, 0, none⟩) 4 4, .slice none 0 0, .slice none 0 0, .slice (cutA (some ⟨g, o, none⟩) c U) (n - U) (c - U)] 35)).same rfl)
    have kl : Blk (((w1.alloc (.cells #[.int .u64 x0, .int .u64 x1, .int .u64 L, .int .u64 U] 26)).alloc (.cells #[.slice (some ⟨w1.heap.size, 0, none⟩) 4 4, .slice none 0 0, .slice none 0 0, .slice (cutA (some ⟨g, o, none⟩) c U) (n - U) (c - U)] 35)).drew) (w1.heap.size + 1) #[.slice (some ⟨w1.heap.size, 0, none⟩) 4 4, .slice none 0 0, .slice none 0 0, .slice (cutA (some ⟨g, o, none⟩) c U) (n - U) (c - U)] 35 := ((Blk.newAt (w1.alloc (.cells #[.int .u64 x0, .int .u64 x1, .int .u64 L, .int .u64 U] 26)) #[.slice (some ⟨w1.heap.size, 0, none⟩) 4 4, .slice none 0 0, .slice none 0 0, .slice (cutA (some ⟨g, o, none⟩) c U) (n - U) (c - U)] 35 (w1.heap.size + 1) (by simp)).same rfl)
    have n1 : w1.heap.size ≠ (w1.heap.size + 1) := by omega
    have n2 : w.heap.size < w1.heap.size := by omega
    have n3 : w.heap.size < (w1.heap.size + 1) := by omega
    clear cr fr
    generalize ((w1.alloc (.cells #[.int .u64 x0, .int .u64 x1, .int .u64 L, .int .u64 U] 26)).alloc (.cells #[.slice (some ⟨w1.heap.size, 0, none⟩) 4 4, .slice none 0 0, .slice none 0 0, .slice (cutA (some ⟨g, o, none⟩) c U) (n - U) (c - U)] 35)).drew = W at *
    generalize H2 : (w1.heap.size + 1) = gl at *
    generalize H1 : w1.heap.size = gn at *
    have cr := kr2.cell
    have fr := kr2.frozen
    have zr2 := kr2.lt
    have cl := kl.cell
    have fl := kl.frozen
    have zl := kl.lt
    have zn := kn.lt
    clear H1 H2
    go_wp2_with fail
    refine wp_region_plan (S := Grw W) [([0, 1, 4, 5], 2), ([3], 6)] [7, 8, 9] (by kernel_rfl) (by kernel_rfl) (Grw.drew W) ?_
    have Bd : Bl W W.drew := (Bl.refl W).drew
    refine wpGr_cons ?_
    simp only [getL, pickL, List.cons_append, List.nil_append]
    repeat (first | go_big_quiet_skip | (go_big_quiet_want; go_big_quiet_op; go_big_quiet_on))
    refine wpQuiet_nil ?_
    refine wpAct_want rfl (fun K hK => ?_)
    go_big_op
    (with_reducible refine (num_any _ _ _ _ _ (P2.out.below (B2.trans Bd)) (HB.out.sub 12 14) (by omega) (by omega)).mono ?_)
    rintro e w2 ⟨rfl, rfl⟩
    rw [hgg]
    refine hK _ _ (Grw.of Bd) ?_
    clear hK K
    refine wpGr_cons ?_
    simp only [getL, pickL, List.cons_append, List.nil_append]
    repeat (first | go_big_quiet_skip | (go_big_quiet_want; go_big_quiet_op; go_big_quiet_on))
    refine wpQuiet_nil ?_
    refine wpAct_want rfl (fun K hK => ?_)
    go_big_op
    (with_reducible refine (num_any _ _ _ _ _ (P3.out.below (B2.trans Bd)) (HB.out.sub 14 16) (by omega) (by omega)).mono ?_)
    rintro e w2 ⟨rfl, rfl⟩
    rw [hqq]
    refine hK _ _ (Grw.of Bd) ?_
    clear hK K
    refine wpGr_nil ?_
    simp only [getL, pickL, List.cons_append, List.nil_append]
    repeat (first | go_big_quiet_skip | (go_big_quiet_want; go_big_quiet_op; go_big_quiet_on))
    refine wpQuiet_nil ?_
    have kr2' := kr2.same (w' := W.drew) rfl
    have kl2' := kl.same (w' := W.drew) rfl
    have kn2' := kn.same (w' := W.drew) rfl
    have B2' := B2.trans Bd
    have cr' := kr2'.cell
    have fr' := kr2'.frozen
    have zr' := kr2'.lt
    have cl' := kl2'.cell
    have fl' := kl2'.frozen
    have zl' := kl2'.lt
    clear cr fr cl fl zl zr2 zn Bd
    refine NoPanic.normal ?_
    go_wp2_with fail
    (with_reducible refine (open_any _).mono ?_)
    rintro e w2 ⟨rfl, hb2⟩
    have kr3 := Blk.keep hb2 kr2'
    have cr3 := kr3.cell
    have fr3 := kr3.frozen
    have zr3 := kr3.lt
    have B3 := B2'.trans hb2
    unfold zeroLyr
    go_wp2_with fail
    refine bodyPost_ret (v := .tuple #[zeroLyr, .bool false, .bool false]) (by simp [results, Try.results43, go_sem, cr3, zeroLyr]) rfl (told_zero _ _ _ _ (Bl.boxed B3 (Nat.le_refl _) _ _ _ _))
  · have B2 : Bl w (((w1.alloc (.cells #[.slice (some ⟨w1.heap.size + 1, 0, none⟩) 4 4, .slice none 0 0, .slice none 0 0, .slice (cutA (some ⟨g, o, none⟩) c U) (n - U) (c - U)] 35)).alloc (.cells #[.int .u64 x0, .int .u64 x1, .int .u64 L, .int .u64 U] 26)).drew) := ((B1.alloc (by (try simp); omega) _).alloc (by (try simp); omega) _).drew
    have kr2 : Blk (((w1.alloc (.cells #[.slice (some ⟨w1.heap.size + 1, 0, none⟩) 4 4, .slice none 0 0, .slice none 0 0, .slice (cutA (some ⟨g, o, none⟩) c U) (n - U) (c - U)] 35)).alloc (.cells #[.int .u64 x0, .int .u64 x1, .int .u64 L, .int .u64 U] 26)).drew) w.heap.size #[.slice none 0 0, .slice none 0 0, .slice none 0 0, .slice none 0 0] 35 := (((kr.alloc _).alloc _).same rfl)
    have kn : Blk (((w1.alloc (.cells #[.slice (some ⟨w1.heap.size + 1, 0, none⟩) 4 4, .slice none 0 0, .slice none 0 0, .slice (cutA (some ⟨g, o, none⟩) c U) (n - U) (c - U)] 35)).alloc (.cells #[.int .u64 x0, .int .u64 x1, .int .u64 L, .int .u64 U] 26)).drew) (w1.heap.size + 1) #[.int .u64 x0, .int .u64 x1, .int .u64 L, .int .u64 U] 26 := ((Blk.newAt (w1.alloc (.cells #[.slice (some ⟨w1.heap.size + 1, 0, none⟩) 4 4, .slice none 0 0, .slice none 0 0, .slice (cutA (some ⟨g, o, none⟩) c U) (n - U) (c - U)] 35)) #[.int .u64 x0, .int .u64 x1, .int .u64 L, .int .u64 U] 26 (w1.heap.size + 1) (by simp)).same rfl)
    have kl : Blk (((w1.alloc (.cells #[.slice (some ⟨w1.heap.size + 1, 0, none⟩) 4 4, .slice none 0 0, .slice none 0 0, .slice (cutA (some ⟨g, o, none⟩) c U) (n - U) (c - U)] 35)).alloc (.cells #[.int .u64 x0, .int .u64 x1, .int .u64 L, .int .u64 U] 26)).drew) w1.heap.size #[.slice (some ⟨w1.heap.size + 1, 0, none⟩) 4 4, .slice none 0 0, .slice none 0 0, .slice (cutA (some ⟨g, o, none⟩) c U) (n - U) (c - U)] 35 := (((Blk.newAt w1 #[.slice (some ⟨w1.heap.size + 1, 0, none⟩) 4 4, .slice none 0 0, .slice none 0 0, .slice (cutA (some ⟨g, o, none⟩) c U) (n - U) (c - U)] 35 w1.heap.size rfl).alloc (.cells #[.int .u64 x0, .int .u64 x1, .int .u64 L, .int .u64 U] 26)).same rfl)
    have n1 : (w1.heap.size + 1) ≠ w1.heap.size := by omega
    have n2 : w.heap.size < (w1.heap.size + 1) := by omega
    have n3 : w.heap.size < w1.heap.size := by omega
    clear cr fr
    generalize ((w1.alloc (.cells #[.slice (some ⟨w1.heap.size + 1, 0, none⟩) 4 4, .slice none 0 0, .slice none 0 0, .slice (cutA (some ⟨g, o, none⟩) c U) (n - U) (c - U)] 35)).alloc (.cells #[.int .u64 x0, .int .u64 x1, .int .u64 L, .int .u64 U] 26)).drew = W at *
    generalize H1 : (w1.heap.size + 1) = gn at *
    generalize H2 : w1.heap.size = gl at *
    have cr := kr2.cell
    have fr := kr2.frozen
    have zr2 := kr2.lt
    have cl := kl.cell
    have fl := kl.frozen
    have zl := kl.lt
    have zn := kn.lt
    clear H1 H2
    go_wp2_with fail
    refine wp_region_plan (S := Grw W) [([0, 1, 4, 5], 2), ([3], 6)] [7, 8, 9] (by kernel_rfl) (by kernel_rfl) (Grw.drew W) ?_
    have Bd : Bl W W.drew := (Bl.refl W).drew
    refine wpGr_cons ?_
    simp only [getL, pickL, List.cons_append, List.nil_append]
    repeat (first | go_big_quiet_skip | (go_big_quiet_want; go_big_quiet_op; go_big_quiet_on))
    refine wpQuiet_nil ?_
    refine wpAct_want rfl (fun K hK => ?_)
    go_big_op
    (with_reducible refine (num_any _ _ _ _ _ (P2.out.below (B2.trans Bd)) (HB.out.sub 12 14) (by omega) (by omega)).mono ?_)
    rintro e w2 ⟨rfl, rfl⟩
    rw [hgg]
    refine hK _ _ (Grw.of Bd) ?_
    clear hK K
    refine wpGr_cons ?_
    simp only [getL, pickL, List.cons_append, List.nil_append]
    repeat (first | go_big_quiet_skip | (go_big_quiet_want; go_big_quiet_op; go_big_quiet_on))
    refine wpQuiet_nil ?_
    refine wpAct_want rfl (fun K hK => ?_)
    go_big_op
    (with_reducible refine (num_any _ _ _ _ _ (P3.out.below (B2.trans Bd)) (HB.out.sub 14 16) (by omega) (by omega)).mono ?_)
    rintro e w2 ⟨rfl, rfl⟩
    rw [hqq]
    refine hK _ _ (Grw.of Bd) ?_
    clear hK K
    refine wpGr_nil ?_
    simp only [getL, pickL, List.cons_append, List.nil_append]
    repeat (first | go_big_quiet_skip | (go_big_quiet_want; go_big_quiet_op; go_big_quiet_on))
    refine wpQuiet_nil ?_
    have kr2' := kr2.same (w' := W.drew) rfl
    have kl2' := kl.same (w' := W.drew) rfl
    have kn2' := kn.same (w' := W.drew) rfl
    have B2' := B2.trans Bd
    have cr' := kr2'.cell
    have fr' := kr2'.frozen
    have zr' := kr2'.lt
    have cl' := kl2'.cell
    have fl' := kl2'.frozen
    have zl' := kl2'.lt
    clear cr fr cl fl zl zr2 zn Bd
    refine NoPanic.normal ?_
    go_wp2_with fail
    (with_reducible refine (open_any _).mono ?_)
    rintro e w2 ⟨rfl, hb2⟩
    have kr3 := Blk.keep hb2 kr2'
    have cr3 := kr3.cell
    have fr3 := kr3.frozen
    have zr3 := kr3.lt
    have B3 := B2'.trans hb2
    unfold zeroLyr
    go_wp2_with fail
    refine bodyPost_ret (v := .tuple #[zeroLyr, .bool false, .bool false]) (by simp [results, Try.results43, go_sem, cr3, zeroLyr]) rfl (told_zero _ _ _ _ (Bl.boxed B3 (Nat.le_refl _) _ _ _ _))
set_option maxHeartbeats 4000000 in
set_option maxRecDepth 100000 in
theorem srSac_long (l : List Int) (hl : By l) (h4' : 4 ≤ chL l) (hup : up4 (chL l) ≤ l.length) (hn2 : l.length ≤ 2147483647) (h16 : 16 ≤ chL l) (hgz : be (sub l 12 14) = 0) (hq : be (sub l 2 4) ≠ 16 + 4 * be (sub l 14 16)) (hk : kindOf (l.getD 0 0) = ⟨#[115, 99, 116, 112, 115, 97, 99, 107]⟩) :
    SpecAt ⟨#[115, 99, 116, 112, 115, 97, 99, 107]⟩ l nilLyr false false := by
  intro A n c B w h hA hBw
  have u4 : chL l ≤ up4 (chL l) := by unfold up4; omega
  have hlen := h.len
  have h4 : 4 ≤ n := by omega
  have h5 : n ≤ 2147483647 := by omega
  have hcap := h.cap
  have HH := Lib.hid h
  have HA := Lib.hid hA
  have s1 := run_cut A n c 2 4 2 4 rfl rfl (by omega) (by omega) 24 Try.underlying24 size5
  have s2 := run_cut_l A n c (up4 (chL l)) _ rfl (by omega) 24 Try.underlying24 size5
  have s3 := run_cut A n c 4 (chL l) 4 (be (sub l 2 4)) rfl (chL_int l hl) h4' (by omega) 24 Try.underlying24 size5
  have R1 := Lib.hid (h.cutm 2 4 2 (by omega) (by omega))
  have HB := Lib.hid hl
  have b1 := be_bd2 (sub l 2 4) (hl.sub _ _) (by rw [sub_length _ _ _ (by omega)])
  have b0 := hl.getD 0
  have b0' := hl.getD 1
  have e1 := chL_int l hl
  have b16 : 16 ≤ be (sub l 2 4) := by omega
  have g0 := be_bd2 (sub l 12 14) (hl.sub _ _) (by rw [sub_length _ _ _ (by omega)])
  have g1 := be_bd2 (sub l 14 16) (hl.sub _ _) (by rw [sub_length _ _ _ (by omega)])
  have q0 := run_cut A n c 4 8 4 8 rfl rfl (by omega) (by omega) 24 Try.underlying24 size5
  have P0 := Lib.hid (h.cutm 4 8 4 (by omega) (by omega))
  have q1 := run_cut A n c 8 12 8 12 rfl rfl (by omega) (by omega) 24 Try.underlying24 size5
  have P1 := Lib.hid (h.cutm 8 12 4 (by omega) (by omega))
  have q2 := run_cut A n c 12 14 12 14 rfl rfl (by omega) (by omega) 24 Try.underlying24 size5
  have P2 := Lib.hid (h.cutm 12 14 2 (by omega) (by omega))
  have q3 := run_cut A n c 14 16 14 16 rfl rfl (by omega) (by omega) 24 Try.underlying24 size5
  have P3 := Lib.hid (h.cutm 14 16 2 (by omega) (by omega))
  generalize hqq : be (sub l 14 16) = G' at *
  have b2 : 4 ≤ be (sub l 2 4) := by omega
  have b3 : be (sub l 2 4) ≤ (n : Int) := by omega
  have e2 : (be (sub l 2 4) + 3) / 4 * 4 = (up4 (chL l) : Int) := by rw [e1]; unfold up4; omega
  have b4 : (up4 (chL l) : Int) ≤ (n : Int) := by omega
  obtain ⟨g, o, rfl, hg, hc⟩ := h.at (by omega)
  have d0 := hc 0 (by omega)
  have d1 := hc 1 (by omega)
  simp only [Nat.add_zero] at d0
  have HK := Lib.hid hk
  generalize l.getD 0 0 = x0 at *
  generalize l.getD 1 0 = x1 at *
  generalize up4 (chL l) = U at *
  generalize chL l = V at *
  clear h hn2 hc hl hk e1 hA
  go_enter Try.func43, Try.ntmps43
  go_wp2_with fail
  (with_reducible refine (num_any _ _ _ _ _ (R1.out.below (by go_grown)) (HB.out.sub 2 4) (by omega) (by omega)).mono ?_)
  rintro e w1 ⟨rfl, rfl⟩
  generalize G2 : be (sub l 2 4) = L at *
  go_wp2_with fail
  (with_reducible refine (sup_any _ (by omega) (by omega) _).mono ?_)
  rintro e w1 ⟨rfl, rfl⟩
  rw [e2]
  go_wp2_with fail
  (with_reducible refine (kind_any _ _).mono ?_)
  rintro e w1 ⟨rfl, hb1⟩
  rw [HK.out]
  have kr := Blk.keep hb1 (Blk.new w _ _)
  have cr := kr.cell
  have fr := kr.frozen
  have zr := kr.lt
  have B1 : Bl w w1 := Bl.trans (by go_grown) hb1
  have d0' := (B1.cell (p := ⟨g, o, none⟩) hg).trans d0
  have d1' := (B1.cell (p := ⟨g, o + 1, none⟩) hg).trans d1
  have zg : g < w1.heap.size := Nat.lt_of_lt_of_le hg B1.size
  have HX := Lib.hid HH
  clear d0 d1 hb1
  go_wp2_with fail
  go_region
  · have B2 : Bl w (((w1.alloc (.cells #[.int .u64 x0, .int .u64 x1, .int .u64 L, .int .u64 U] 26)).alloc (.cells #[.slice (some ⟨w1.heap.size, 0, none⟩) 4 4, .slice none 0 0, .slice none 0 0, .slice (cutA (some ⟨g, o, none⟩) c U) (n - U) (c - U)] 35)).drew) := ((B1.alloc (by (try simp); omega) _).alloc (by (try simp); omega) _).drew
    have kr2 : Blk (((w1.alloc (.cells #[.int .u64 x0, .int .u64 x1, .int .u64 L, .int .u64 U] 26)).alloc (.cells #[.slice (some ⟨w1.heap.size, 0, none⟩) 4 4, .slice none 0 0, .slice none 0 0, .slice (cutA (some ⟨g, o, none⟩) c U) (n - U) (c - U)] 35)).drew) w.heap.size #[.slice none 0 0, .slice none 0 0, .slice none 0 0, .slice none 0 0] 35 := (((kr.alloc _).alloc _).same rfl)
    have kn : Blk (((w1.alloc (.cells #[.int .u64 x0, .int .u64 x1, .int .u64 L, .int .u64 U] 26)).alloc (.cells #[.slice (some ⟨w1.heap.size, 0, none⟩) 4 4, .slice none 0 0, .slice none 0 0, .slice (cutA (some ⟨g, o, none⟩) c U) (n - U) (c - U)] 35)).drew) w1.heap.size #[.int .u64 x0, .int .u64 x1, .int .u64 L, .int .u64 U] 26 := (((Blk.newAt w1 #[.int .u64 x0, .int .u64 x1, .int .u64 L, .int .u64 U] 26 w1.heap.size rfl).alloc (.cells #[.slice (some ⟨w1.heap.size, 0, none⟩) 4 4, .slice none 0 0, .slice none 0 0, .slice (cutA (some ⟨g, o, none⟩) c U) (n - U) (c - U)] 35)).same rfl)
    have kl : Blk (((w1.alloc (.cells #[.int .u64 x0, .int .u64 x1, .int .u64 L, .int .u64 U] 26)).alloc (.cells #[.slice (some ⟨w1.heap.size, 0, none⟩) 4 4, .slice none 0 0, .slice none 0 0, .slice (cutA (some ⟨g, o, none⟩) c U) (n - U) (c - U)] 35)).drew) (w1.heap.size + 1) #[.slice (some ⟨w1.heap.size, 0, none⟩) 4 4, .slice none 0 0, .slice none 0 0, .slice (cutA (some ⟨g, o, none⟩) c U) (n - U) (c - U)] 35 := ((Blk.newAt (w1.alloc (.cells #[.int .u64 x0, .int .u64 x1, .int .u64 L, .int .u64 U] 26)) #[.slice (some ⟨w1.heap.size, 0, none⟩) 4 4, .slice none 0 0, .slice none 0 0, .slice (cutA (some ⟨g, o, none⟩) c U) (n - U) (c - U)] 35 (w1.heap.size + 1) (by simp)).same rfl)
    have n1 : w1.heap.size ≠ (w1.heap.size + 1) := by omega
    have n2 : w.heap.size < w1.heap.size := by omega
    have n3 : w.heap.size < (w1.heap.size + 1) := by omega
    clear cr fr
    generalize ((w1.alloc (.cells #[.int .u64 x0, .int .u64 x1, .int .u64 L, .int .u64 U] 26)).alloc (.cells #[.slice (some ⟨w1.heap.size, 0, none⟩) 4 4, .slice none 0 0, .slice none 0 0, .slice (cutA (some ⟨g, o, none⟩) c U) (n - U) (c - U)] 35)).drew = W at *
    generalize H2 : (w1.heap.size + 1) = gl at *
    generalize H1 : w1.heap.size = gn at *
    have cr := kr2.cell
    have fr := kr2.frozen
    have zr2 := kr2.lt
    have cl := kl.cell
    have fl := kl.frozen
    have zl := kl.lt
    have zn := kn.lt
    clear H1 H2
    go_wp2_with fail
    refine wp_region_plan (S := Grw W) [([0, 1, 4, 5], 2), ([3], 6)] [7, 8, 9] (by kernel_rfl) (by kernel_rfl) (Grw.drew W) ?_
    have Bd : Bl W W.drew := (Bl.refl W).drew
    refine wpGr_cons ?_
    simp only [getL, pickL, List.cons_append, List.nil_append]
    repeat (first | go_big_quiet_skip | (go_big_quiet_want; go_big_quiet_op; go_big_quiet_on))
    refine wpQuiet_nil ?_
    refine wpAct_want rfl (fun K hK => ?_)
    go_big_op
    (with_reducible refine (num_any _ _ _ _ _ (P2.out.below (B2.trans Bd)) (HB.out.sub 12 14) (by omega) (by omega)).mono ?_)
    rintro e w2 ⟨rfl, rfl⟩
    rw [hgz]
    refine hK _ _ (Grw.of Bd) ?_
    clear hK K
    refine wpGr_cons ?_
    simp only [getL, pickL, List.cons_append, List.nil_append]
    repeat (first | go_big_quiet_skip | (go_big_quiet_want; go_big_quiet_op; go_big_quiet_on))
    refine wpQuiet_nil ?_
    refine wpAct_want rfl (fun K hK => ?_)
    go_big_op
    (with_reducible refine (num_any _ _ _ _ _ (P3.out.below (B2.trans Bd)) (HB.out.sub 14 16) (by omega) (by omega)).mono ?_)
    rintro e w2 ⟨rfl, rfl⟩
    rw [hqq]
    refine hK _ _ (Grw.of Bd) ?_
    clear hK K
    refine wpGr_nil ?_
    simp only [getL, pickL, List.cons_append, List.nil_append]
    repeat (first | go_big_quiet_skip | (go_big_quiet_want; go_big_quiet_op; go_big_quiet_on))
    refine wpQuiet_nil ?_
    have kr2' := kr2.same (w' := W.drew) rfl
    have kl2' := kl.same (w' := W.drew) rfl
    have kn2' := kn.same (w' := W.drew) rfl
    have B2' := B2.trans Bd
    have cr' := kr2'.cell
    have fr' := kr2'.frozen
    have zr' := kr2'.lt
    have cl' := kl2'.cell
    have fl' := kl2'.frozen
    have zl' := kl2'.lt
    clear cr fr cl fl zl zr2 zn Bd
    refine NoPanic.normal ?_
    go_wp2_with fail
    (with_reducible refine (open_any _).mono ?_)
    rintro e w2 ⟨rfl, hb2⟩
    have kr3 := Blk.keep hb2 kr2'
    have cr3 := kr3.cell
    have fr3 := kr3.frozen
    have zr3 := kr3.lt
    have B3 := B2'.trans hb2
    unfold zeroLyr
    go_wp2_with fail
    refine bodyPost_ret (v := .tuple #[zeroLyr, .bool false, .bool false]) (by simp [results, Try.results43, go_sem, cr3, zeroLyr]) rfl (told_zero _ _ _ _ (Bl.boxed B3 (Nat.le_refl _) _ _ _ _))
  · have B2 : Bl w (((w1.alloc (.cells #[.slice (some ⟨w1.heap.size + 1, 0, none⟩) 4 4, .slice none 0 0, .slice none 0 0, .slice (cutA (some ⟨g, o, none⟩) c U) (n - U) (c - U)] 35)).alloc (.cells #[.int .u64 x0, .int .u64 x1, .int .u64 L, .int .u64 U] 26)).drew) := ((B1.alloc (by (try simp); omega) _).alloc (by (try simp); omega) _).drew
    have kr2 : Blk (((w1.alloc (.cells #[.slice (some ⟨w1.heap.size + 1, 0, none⟩) 4 4, .slice none 0 0, .slice none 0 0, .slice (cutA (some ⟨g, o, none⟩) c U) (n - U) (c - U)] 35)).alloc (.cells #[.int .u64 x0, .int .u64 x1, .int .u64 L, .int .u64 U] 26)).drew) w.heap.size #[.slice none 0 0, .slice none 0 0, .slice none 0 0, .slice none 0 0] 35 := (((kr.alloc _).alloc _).same rfl)
    have kn : Blk (((w1.alloc (.cells #[.slice (some ⟨w1.heap.size + 1, 0, none⟩) 4 4, .slice none 0 0, .slice none 0 0, .slice (cutA (some ⟨g, o, none⟩) c U) (n - U) (c - U)] 35)).alloc (.cells #[.int .u64 x0, .int .u64 x1, .int .u64 L, .int .u64 U] 26)).drew) (w1.heap.size + 1) #[.int .u64 x0, .int .u64 x1, .int .u64 L, .int .u64 U] 26 := ((Blk.newAt (w1.alloc (.cells #[.slice (some ⟨w1.heap.size + 1, 0, none⟩) 4 4, .slice none 0 0, .slice none 0 0, .slice (cutA (some ⟨g, o, none⟩) c U) (n - U) (c - U)] 35)) #[.int .u64 x0, .int .u64 x1, .int .u64 L, .int .u64 U] 26 (w1.heap.size + 1) (by simp)).same rfl)
    have kl : Blk (((w1.alloc (.cells #[.slice (some ⟨w1.heap.size + 1, 0, none⟩) 4 4, .slice none 0 0, .slice none 0 0, .slice (cutA (some ⟨g, o, none⟩) c U) (n - U) (c - U)] 35)).alloc (.cells #[.int .u64 x0, .int .u64 x1, .int .u64 L, .int .u64 U] 26)).drew) w1.heap.size #[.slice (some ⟨w1.heap.size + 1, 0, none⟩) 4 4, .slice none 0 0, .slice none 0 0, .slice (cutA (some ⟨g, o, none⟩) c U) (n - U) (c - U)] 35 := (((Blk.newAt w1 #[.slice (some ⟨w1.heap.size + 1, 0, none⟩) 4 4, .slice none 0 0, .slice none 0 0, .slice (cutA (some ⟨g, o, none⟩) c U) (n - U) (c - U)] 35 w1.heap.size rfl).alloc (.cells #[.int .u64 x0, .int .u64 x1, .int .u64 L, .int .u64 U] 26)).same rfl)
    have n1 : (w1.heap.size + 1) ≠ w1.heap.size := by omega
    have n2 : w.heap.size < (w1.heap.size + 1) := by omega
    have n3 : w.heap.size < w1.heap.size := by omega
    clear cr fr
    generalize ((w1.alloc (.cells #[.slice (some ⟨w1.heap.size + 1, 0, none⟩) 4 4, .slice none 0 0, .slice none 0 0, .slice (cutA (some ⟨g, o, none⟩) c U) (n - U) (c - U)] 35)).alloc (.cells #[.int .u64 x0, .int .u64 x1, .int .u64 L, .int .u64 U] 26)).drew = W at *
    generalize H1 : (w1.heap.size + 1) = gn at *
    generalize H2 : w1.heap.size = gl at *
    have cr := kr2.cell
    have fr := kr2.frozen
    have zr2 := kr2.lt
    have cl := kl.cell
    have fl := kl.frozen
    have zl := kl.lt
    have zn := kn.lt
    clear H1 H2
    go_wp2_with fail
    refine wp_region_plan (S := Grw W) [([0, 1, 4, 5], 2), ([3], 6)] [7, 8, 9] (by kernel_rfl) (by kernel_rfl) (Grw.drew W) ?_
    have Bd : Bl W W.drew := (Bl.refl W).drew
    refine wpGr_cons ?_
    simp only [getL, pickL, List.cons_append, List.nil_append]
    repeat (first | go_big_quiet_skip | (go_big_quiet_want; go_big_quiet_op; go_big_quiet_on))
    refine wpQuiet_nil ?_
    refine wpAct_want rfl (fun K hK => ?_)
    go_big_op
    (with_reducible refine (num_any _ _ _ _ _ (P2.out.below (B2.trans Bd)) (HB.out.sub 12 14) (by omega) (by omega)).mono ?_)
    rintro e w2 ⟨rfl, rfl⟩
    rw [hgz]
    refine hK _ _ (Grw.of Bd) ?_
    clear hK K
    refine wpGr_cons ?_
    simp only [getL, pickL, List.cons_append, List.nil_append]
    repeat (first | go_big_quiet_skip | (go_big_quiet_want; go_big_quiet_op; go_big_quiet_on))
    refine wpQuiet_nil ?_
    refine wpAct_want rfl (fun K hK => ?_)
    go_big_op
    (with_reducible refine (num_any _ _ _ _ _ (P3.out.below (B2.trans Bd)) (HB.out.sub 14 16) (by omega) (by omega)).mono ?_)
    rintro e w2 ⟨rfl, rfl⟩
    rw [hqq]
    refine hK _ _ (Grw.of Bd) ?_
    clear hK K
    refine wpGr_nil ?_
    simp only [getL, pickL, List.cons_append, List.nil_append]
    repeat (first | go_big_quiet_skip | (go_big_quiet_want; go_big_quiet_op; go_big_quiet_on))
    refine wpQuiet_nil ?_
    have kr2' := kr2.same (w' := W.drew) rfl
    have kl2' := kl.same (w' := W.drew) rfl
    have kn2' := kn.same (w' := W.drew) rfl
    have B2' := B2.trans Bd
    have cr' := kr2'.cell
    have fr' := kr2'.frozen
    have zr' := kr2'.lt
    have cl' := kl2'.cell
    have fl' := kl2'.frozen
    have zl' := kl2'.lt
    clear cr fr cl fl zl zr2 zn Bd
    refine NoPanic.normal ?_
    go_wp2_with fail
    (with_reducible refine (open_any _).mono ?_)
    rintro e w2 ⟨rfl, hb2⟩
    have kr3 := Blk.keep hb2 kr2'
    have cr3 := kr3.cell
    have fr3 := kr3.frozen
    have zr3 := kr3.lt
    have B3 := B2'.trans hb2
    unfold zeroLyr
    go_wp2_with fail
    refine bodyPost_ret (v := .tuple #[zeroLyr, .bool false, .bool false]) (by simp [results, Try.results43, go_sem, cr3, zeroLyr]) rfl (told_zero _ _ _ _ (Bl.boxed B3 (Nat.le_refl _) _ _ _ _))
theorem srSac_odd (l : List Int) (hl : By l) (h4' : 4 ≤ chL l) (hup : up4 (chL l) ≤ l.length) (hn2 : l.length ≤ 2147483647) (h : ¬ (16 ≤ chL l ∧ be (sub l 12 14) = 0 ∧ (chL l : Int) = 16 + 4 * be (sub l 14 16))) (hk : kindOf (l.getD 0 0) = ⟨#[115, 99, 116, 112, 115, 97, 99, 107]⟩) :
    SpecAt ⟨#[115, 99, 116, 112, 115, 97, 99, 107]⟩ l nilLyr false false := by
  have u4 : chL l ≤ up4 (chL l) := by unfold up4; omega
  have e1 := chL_int l hl
  by_cases h16 : chL l < 16
  · exact srSac_few l hl h4' hup hn2 h16 hk
  · have hb := be_nonneg (sub l 12 14) (hl.sub _ _)
    by_cases hg : be (sub l 12 14) = 0
    · exact srSac_long l hl h4' hup hn2 (by omega) hg (by omega) hk
    · exact srSac_gaps l hl h4' hup hn2 (by omega) (by omega) hk
end Go.Proofs.Ytoljdgfbkebgcaa
