/- spec.Read where there is no chunk, or nothing is said: any kind. -/
import Derived.Test.YtoljdgfbkebgcaaKind
import Derived.Test.YtoljdgfbkebgcaaRead
import Derived.Test.YtoljdgfbkebgcaaChk
namespace Go.Proofs.Ytoljdgfbkebgcaa
open Go.RowKit
def nilLyr : Lyr := ⟨[], [], [], []⟩
theorem none_any (w : World) : Calls Try.prog 62 #[] w fun e w' => e = .returned (.tuple #[zeroLyr, .bool false, .bool true]) ∧ Bl w w' := by
  go_enter Try.func62, Try.ntmps62
  go_wp2
  refine bodyPost_ret (v := .tuple #[zeroLyr, .bool false, .bool true]) (by simp [results, Try.results62, go_sem, zeroLyr]) rfl ⟨rfl, ?_⟩
  go_grown
theorem open_any (w : World) : Calls Try.prog 63 #[] w fun e w' => e = .returned (.tuple #[zeroLyr, .bool false, .bool false]) ∧ Bl w w' := by
  go_enter Try.func63, Try.ntmps63
  go_wp2
  refine bodyPost_ret (v := .tuple #[zeroLyr, .bool false, .bool false]) (by simp [results, Try.results63, go_sem, zeroLyr]) rfl ⟨rfl, ?_⟩
  go_grown
theorem told_zero (B : Nat) (w w' : World) (told : Bool) (hb : Bl w w') : Told B w w' (.returned (.tuple #[zeroLyr, .bool false, .bool told])) nilLyr false told :=
  ⟨_, rfl, LyrV.zero _ _, hb⟩
set_option maxHeartbeats 2000000 in
set_option maxRecDepth 100000 in
theorem sr_short (s : ByteArray) (l : List Int) (hs : (s.toList == [115, 99, 116, 112]) = false) (hn : l.length < 4) : SpecAt s l nilLyr false true := by
  intro A n c B w h _ _
  have hlen := h.len
  have h4 : n < 4 := by omega
  clear h hlen hn
  go_enter Try.func43, Try.ntmps43
  go_wp2_with fail
  (with_reducible refine (none_any _).mono ?_)
  rintro e w1 ⟨rfl, hb1⟩
  have kr := Blk.keep hb1 (Blk.new w _ _)
  have cr := kr.cell
  have fr := kr.frozen
  have zr := kr.lt
  have B2 := Lib.hid (Bl.trans (Below.alloc (Below.refl _ w) (Nat.le_refl _) _) hb1)
  unfold zeroLyr
  go_wp2_with fail
  refine bodyPost_ret (v := .tuple #[zeroLyr, .bool false, .bool true]) (by simp [results, Try.results43, go_sem, cr, zeroLyr]) rfl (told_zero _ _ _ _ (Bl.boxed B2.out (Nat.le_refl _) _ _ _ _))
set_option maxHeartbeats 2000000 in
set_option maxRecDepth 100000 in
theorem sr_open (s : ByteArray) (l : List Int) (hl : By l) (hs : (s.toList == [115, 99, 116, 112]) = false) (hn : 4 ≤ l.length) (hn2 : l.length ≤ 2147483647) (hk : ((kindOf (l.getD 0 0)).toList == s.toList) = false) : SpecAt s l nilLyr false false := by
  intro A n c B w h _ _
  have hlen := h.len
  have h4 : 4 ≤ n := by omega
  have h5 : n ≤ 2147483647 := by omega
  have hcap := h.cap
  have s1 := run_cut A n c 2 4 2 4 rfl rfl (by omega) (by omega) 24 Try.underlying24 size5
  have R1 := Lib.hid (h.cutm 2 4 2 (by omega) (by omega))
  have HB := Lib.hid hl
  have b1 := be_bd2 (sub l 2 4) (hl.sub _ _) (by rw [sub_length _ _ _ (by omega)])
  obtain ⟨g, o, rfl, hg, hc⟩ := h.at (by omega)
  have d0 := hc 0 (by omega)
  simp only [Nat.add_zero] at d0
  have HK := Lib.hid hk
  generalize l.getD 0 0 = x0 at *
  clear h hlen hn hn2 hc hl hk
  go_enter Try.func43, Try.ntmps43
  go_wp2_with fail
  (with_reducible refine (num_any _ _ _ _ _ (R1.out.below (by go_grown)) (HB.out.sub 2 4) (by omega) (by omega)).mono ?_)
  rintro e w1 ⟨rfl, rfl⟩
  generalize be (sub l 2 4) = L at *
  go_wp2_with fail
  (with_reducible refine (sup_any _ (by omega) (by omega) _).mono ?_)
  rintro e w1 ⟨rfl, rfl⟩
  generalize (L + 3) / 4 * 4 = U at *
  go_wp2_with fail
  (with_reducible refine (kind_any _ _).mono ?_)
  rintro e w1 ⟨rfl, hb1⟩
  have hk := HK.out
  generalize kindOf x0 = kx at *
  go_wp2_with fail
  (with_reducible refine (open_any _).mono ?_)
  rintro e w2 ⟨rfl, hb2⟩
  have kr := Blk.keep hb2 (Blk.keep hb1 (Blk.new w _ _))
  have cr := kr.cell
  have fr := kr.frozen
  have zr := kr.lt
  have B2 := Lib.hid ((Bl.trans (Below.alloc (Below.refl _ w) (Nat.le_refl _) _) hb1).trans hb2)
  unfold zeroLyr
  go_wp2_with fail
  refine bodyPost_ret (v := .tuple #[zeroLyr, .bool false, .bool false]) (by simp [results, Try.results43, go_sem, cr, zeroLyr]) rfl (told_zero _ _ _ _ (Bl.boxed B2.out (Nat.le_refl _) _ _ _ _))
set_option maxHeartbeats 2000000 in
set_option maxRecDepth 100000 in
theorem sr_low (s : ByteArray) (l : List Int) (hl : By l) (hs : (s.toList == [115, 99, 116, 112]) = false) (hn : 4 ≤ l.length) (hn2 : l.length ≤ 2147483647) (hk : ((kindOf (l.getD 0 0)).toList == s.toList) = true) (hL : chL l < 4) : SpecAt s l nilLyr false true := by
  intro A n c B w h _ _
  have hlen := h.len
  have h4 : 4 ≤ n := by omega
  have h5 : n ≤ 2147483647 := by omega
  have hcap := h.cap
  have s1 := run_cut A n c 2 4 2 4 rfl rfl (by omega) (by omega) 24 Try.underlying24 size5
  have R1 := Lib.hid (h.cutm 2 4 2 (by omega) (by omega))
  have HB := Lib.hid hl
  have b1 := be_bd2 (sub l 2 4) (hl.sub _ _) (by rw [sub_length _ _ _ (by omega)])
  obtain ⟨g, o, rfl, hg, hc⟩ := h.at (by omega)
  have d0 := hc 0 (by omega)
  simp only [Nat.add_zero] at d0
  have HK := Lib.hid hk
  have e1 := chL_int l hl
  have b2 : be (sub l 2 4) < 4 := by omega
  clear e1
  generalize l.getD 0 0 = x0 at *
  clear h hlen hn hn2 hc hl hk
  go_enter Try.func43, Try.ntmps43
  go_wp2_with fail
  (with_reducible refine (num_any _ _ _ _ _ (R1.out.below (by go_grown)) (HB.out.sub 2 4) (by omega) (by omega)).mono ?_)
  rintro e w1 ⟨rfl, rfl⟩
  generalize be (sub l 2 4) = L at *
  go_wp2_with fail
  (with_reducible refine (sup_any _ (by omega) (by omega) _).mono ?_)
  rintro e w1 ⟨rfl, rfl⟩
  generalize (L + 3) / 4 * 4 = U at *
  go_wp2_with fail
  (with_reducible refine (kind_any _ _).mono ?_)
  rintro e w1 ⟨rfl, hb1⟩
  have hk := HK.out
  generalize kindOf x0 = kx at *
  go_wp2_with fail
  (with_reducible refine (none_any _).mono ?_)
  rintro e w2 ⟨rfl, hb2⟩
  have kr := Blk.keep hb2 (Blk.keep hb1 (Blk.new w _ _))
  have cr := kr.cell
  have fr := kr.frozen
  have zr := kr.lt
  have B2 := Lib.hid ((Bl.trans (Below.alloc (Below.refl _ w) (Nat.le_refl _) _) hb1).trans hb2)
  unfold zeroLyr
  go_wp2_with fail
  refine bodyPost_ret (v := .tuple #[zeroLyr, .bool false, .bool true]) (by simp [results, Try.results43, go_sem, cr, zeroLyr]) rfl (told_zero _ _ _ _ (Bl.boxed B2.out (Nat.le_refl _) _ _ _ _))
set_option maxHeartbeats 2000000 in
set_option maxRecDepth 100000 in
theorem sr_long (s : ByteArray) (l : List Int) (hl : By l) (hs : (s.toList == [115, 99, 116, 112]) = false) (hn : 4 ≤ l.length) (hn2 : l.length ≤ 2147483647) (hk : ((kindOf (l.getD 0 0)).toList == s.toList) = true) (hd : (s.toList == [115, 99, 116, 112, 100, 97, 116, 97]) = false) (hL : l.length < chL l) : SpecAt s l nilLyr false true := by
  intro A n c B w h _ _
  have hlen := h.len
  have h4 : 4 ≤ n := by omega
  have h5 : n ≤ 2147483647 := by omega
  have hcap := h.cap
  have s1 := run_cut A n c 2 4 2 4 rfl rfl (by omega) (by omega) 24 Try.underlying24 size5
  have R1 := Lib.hid (h.cutm 2 4 2 (by omega) (by omega))
  have HB := Lib.hid hl
  have b1 := be_bd2 (sub l 2 4) (hl.sub _ _) (by rw [sub_length _ _ _ (by omega)])
  obtain ⟨g, o, rfl, hg, hc⟩ := h.at (by omega)
  have d0 := hc 0 (by omega)
  simp only [Nat.add_zero] at d0
  have HK := Lib.hid hk
  have e1 := chL_int l hl
  have b2 : (n : Int) < be (sub l 2 4) := by omega
  have b3 : 4 ≤ be (sub l 2 4) := by omega
  clear e1
  generalize l.getD 0 0 = x0 at *
  clear h hlen hn hn2 hc hl hk
  go_enter Try.func43, Try.ntmps43
  go_wp2_with fail
  (with_reducible refine (num_any _ _ _ _ _ (R1.out.below (by go_grown)) (HB.out.sub 2 4) (by omega) (by omega)).mono ?_)
  rintro e w1 ⟨rfl, rfl⟩
  generalize be (sub l 2 4) = L at *
  go_wp2_with fail
  (with_reducible refine (sup_any _ (by omega) (by omega) _).mono ?_)
  rintro e w1 ⟨rfl, rfl⟩
  generalize (L + 3) / 4 * 4 = U at *
  go_wp2_with fail
  (with_reducible refine (kind_any _ _).mono ?_)
  rintro e w1 ⟨rfl, hb1⟩
  have hk := HK.out
  generalize kindOf x0 = kx at *
  go_wp2_with fail
  (with_reducible refine (none_any _).mono ?_)
  rintro e w2 ⟨rfl, hb2⟩
  have kr := Blk.keep hb2 (Blk.keep hb1 (Blk.new w _ _))
  have cr := kr.cell
  have fr := kr.frozen
  have zr := kr.lt
  have B2 := Lib.hid ((Bl.trans (Below.alloc (Below.refl _ w) (Nat.le_refl _) _) hb1).trans hb2)
  unfold zeroLyr
  go_wp2_with fail
  refine bodyPost_ret (v := .tuple #[zeroLyr, .bool false, .bool true]) (by simp [results, Try.results43, go_sem, cr, zeroLyr]) rfl (told_zero _ _ _ _ (Bl.boxed B2.out (Nat.le_refl _) _ _ _ _))
set_option maxHeartbeats 2000000 in
set_option maxRecDepth 100000 in
theorem sr_full (s : ByteArray) (l : List Int) (hl : By l) (hs : (s.toList == [115, 99, 116, 112]) = false) (hn : 4 ≤ l.length) (hn2 : l.length ≤ 2147483647) (hk : ((kindOf (l.getD 0 0)).toList == s.toList) = true) (hd : (s.toList == [115, 99, 116, 112, 100, 97, 116, 97]) = false) (hL0 : 4 ≤ chL l) (hL : chL l ≤ l.length) (hU : l.length < up4 (chL l)) : SpecAt s l nilLyr false false := by
  intro A n c B w h _ _
  have hlen := h.len
  have h4 : 4 ≤ n := by omega
  have h5 : n ≤ 2147483647 := by omega
  have hcap := h.cap
  have s1 := run_cut A n c 2 4 2 4 rfl rfl (by omega) (by omega) 24 Try.underlying24 size5
  have R1 := Lib.hid (h.cutm 2 4 2 (by omega) (by omega))
  have HB := Lib.hid hl
  have b1 := be_bd2 (sub l 2 4) (hl.sub _ _) (by rw [sub_length _ _ _ (by omega)])
  obtain ⟨g, o, rfl, hg, hc⟩ := h.at (by omega)
  have d0 := hc 0 (by omega)
  simp only [Nat.add_zero] at d0
  have HK := Lib.hid hk
  have e1 := chL_int l hl
  have b2 : be (sub l 2 4) ≤ (n : Int) := by omega
  have b3 : 4 ≤ be (sub l 2 4) := by omega
  have b4 : (n : Int) < (be (sub l 2 4) + 3) / 4 * 4 := by rw [e1]; unfold up4 at hU; omega
  clear e1
  generalize l.getD 0 0 = x0 at *
  clear h hlen hn hn2 hc hl hk
  go_enter Try.func43, Try.ntmps43
  go_wp2_with fail
  (with_reducible refine (num_any _ _ _ _ _ (R1.out.below (by go_grown)) (HB.out.sub 2 4) (by omega) (by omega)).mono ?_)
  rintro e w1 ⟨rfl, rfl⟩
  generalize be (sub l 2 4) = L at *
  go_wp2_with fail
  (with_reducible refine (sup_any _ (by omega) (by omega) _).mono ?_)
  rintro e w1 ⟨rfl, rfl⟩
  generalize (L + 3) / 4 * 4 = U at *
  go_wp2_with fail
  (with_reducible refine (kind_any _ _).mono ?_)
  rintro e w1 ⟨rfl, hb1⟩
  have hk := HK.out
  generalize kindOf x0 = kx at *
  go_wp2_with fail
  (with_reducible refine (open_any _).mono ?_)
  rintro e w2 ⟨rfl, hb2⟩
  have kr := Blk.keep hb2 (Blk.keep hb1 (Blk.new w _ _))
  have cr := kr.cell
  have fr := kr.frozen
  have zr := kr.lt
  have B2 := Lib.hid ((Bl.trans (Below.alloc (Below.refl _ w) (Nat.le_refl _) _) hb1).trans hb2)
  unfold zeroLyr
  go_wp2_with fail
  refine bodyPost_ret (v := .tuple #[zeroLyr, .bool false, .bool false]) (by simp [results, Try.results43, go_sem, cr, zeroLyr]) rfl (told_zero _ _ _ _ (Bl.boxed B2.out (Nat.le_refl _) _ _ _ _))
end Go.Proofs.Ytoljdgfbkebgcaa
