/- ZZDecode, called, impl.Read: sctpshutdownack. spec.Read where there is no chunk, or nothing is said: any kind. spec.Read: sctpshutdownack, where there is a chunk. spec.Read and decoded, of a chunk of the kind sctpshutdownack. -/
import Derived.Test.YtoljdgfbkebgcaaPq07
import Derived.Test.YtoljdgfbkebgcaaPq04
import Derived.Test.YtoljdgfbkebgcaaPq09
import Derived.Test.YtoljdgfbkebgcaaPq03
namespace Go.Proofs.Ytoljdgfbkebgcaa
open Go.RowKit
set_option linter.unusedVariables false
def sAck : ByteArray := ⟨#[115, 99, 116, 112, 115, 104, 117, 116, 100, 111, 119, 110, 97, 99, 107]⟩
set_option maxHeartbeats 1000000 in
theorem zzAck_ok (l : List Int) (hl : By l) (h4' : 4 ≤ chL l) (hup : up4 (chL l) ≤ l.length) (h0 : l.getD 0 0 ≠ 0) (hn2 : l.length ≤ 2000)  : ZzOk ⟨#[115, 99, 116, 112, 115, 104, 117, 116, 100, 111, 119, 110, 97, 99, 107]⟩ l 133 135 (fun A n c => chk A n c l) := by
  intro A n c w h
  have hlen := h.len
  have hup' : up4 (chL l) ≤ n := by omega
  have h5 : n ≤ 2147483647 := by omega
  have H := Lib.hid h
  have HB := Lib.hid hl
  have H0 := Lib.hid h0
  clear h hl h0
  go_enter Try.func69, Try.ntmps69
  go_wp2_with fail
  (with_reducible refine (errNew_any _ _).mono ?_)
  rintro e w1 ⟨rfl, hb1⟩
  have k1 := Blk.keep hb1 (Blk.new w _ _)
  have hz : w.heap.size < w1.heap.size := k1.lt
  go_wp2_with fail
  (with_reducible refine (decAck_any _ _ _ _ _ _ (H.out.below (Bl.trans (by go_grown) hb1)) HB.out h4' hup' H0.out h5 _ k1).mono ?_)
  rintro e w2 ⟨rfl, gl, kp⟩
  have c2 := kp.keeper.cell
  go_wp2_with fail
  go_ret2
  exact ⟨gl, rfl, Below.trans (Bl.trans (by go_grown) hb1) kp.low, kp.layer⟩
theorem zzAck_err (l : List Int) (hl : By l) (h4 : 4 ≤ l.length) (hL : chL l < 4) : ZzErr ⟨#[115, 99, 116, 112, 115, 104, 117, 116, 100, 111, 119, 110, 97, 99, 107]⟩ l := by
  intro A n c w h
  have hlen := h.len
  have h4n : 4 ≤ n := by omega
  have H := Lib.hid h
  have HB := Lib.hid hl
  clear h hl
  go_enter Try.func69, Try.ntmps69
  go_wp2_with fail
  (with_reducible refine (errNew_any _ _).mono ?_)
  rintro e w1 ⟨rfl, hb1⟩
  have hz : w.heap.size < w1.heap.size := by have := hb1.size; simp at this; omega
  go_wp2_with fail
  (with_reducible refine (decAck_short _ _ _ _ _ (H.out.below (Bl.trans (by go_grown) hb1)) HB.out h4n hL _).mono ?_)
  rintro e w2 ⟨⟨u, rfl⟩, hb2⟩
  go_wp2_with fail
  go_ret2
  exact ⟨⟨_, rfl⟩, Bl.trans (Bl.trans (by go_grown) hb1) hb2⟩
set_option maxHeartbeats 1000000 in
theorem calledAck_yes (l : List Int) (hl : By l) (h4' : 4 ≤ chL l) (hup : up4 (chL l) ≤ l.length) (h0 : l.getD 0 0 ≠ 0) (hn2 : l.length ≤ 2000)  : CallAt ⟨#[115, 99, 116, 112, 115, 104, 117, 116, 100, 111, 119, 110, 97, 99, 107]⟩ l true := by
  intro A n c w h
  have hlen := h.len
  have u4 : chL l ≤ up4 (chL l) := by unfold up4; omega
  have HH := Lib.hid h
  have HB := Lib.hid hl
  obtain ⟨g, o, rfl, hg, hc⟩ := h.at (by omega)
  have d0 := hc 0 (by omega)
  simp only [Nat.add_zero] at d0
  have h4 : 4 ≤ n := by omega
  have h5 : n ≤ 2000 := by omega
  have h8 : 4 ≤ n := by omega
  have e1 : be (sub l 2 (2 + 2)) = (chL l : Int) := chL_int l hl
  have b1 : 4 ≤ be (sub l 2 (2 + 2)) := by omega
  have b2 : be (sub l 2 (2 + 2)) ≤ 65535 := by have := chL_le l hl (by omega); omega
  have b3 : (be (sub l 2 (2 + 2)) + 3) / 4 * 4 ≤ (n : Int) := by rw [e1]; unfold up4 at hup; omega
  have b4 : be (sub l 2 (2 + 2)) ≤ (n : Int) := by omega
  generalize l.getD 0 0 = x0 at *
  have H0 := Lib.hid h0
  have d0' : ∀ q, (w.drewN q).cell? ⟨g, o, none⟩ = some (.int .u8 x0) := fun q => d0
  clear h hlen hn2 hl e1 hc h4' hup h0 d0 u4
  go_enter Try.func68, Try.ntmps68
  go_wp2_with fail
  (with_reducible refine (number_any _ _ _ 2 _ _ HH.out HB.out (by omega) (by omega) 2 rfl).mono ?_)
  rintro e w1 ⟨rfl, q, rfl⟩
  generalize be (sub l 2 (2 + 2)) = L at *
  go_wp2_with fail
  (with_reducible refine (iup_any _ (by omega) (by omega) _).mono ?_)
  rintro e w1 ⟨rfl, rfl⟩
  generalize (L + 3) / 4 * 4 = U at *
  have h0 := H0.out
  go_wp2_with fail
  go_ret
  exact ⟨ret_bool (by simp; try omega), (Bl.refl _).drewN _⟩
theorem readAck_no (l : List Int) (hd : ∀ (A : Option Addr) (n c : Nat) (w : World), Rd .u8 w A n c l → Calls Try.prog 48 #[.string ⟨#[115, 99, 116, 112, 115, 104, 117, 116, 100, 111, 119, 110, 97, 99, 107]⟩, .slice A n c] w fun e w' => e = .returned (.tuple #[.nilIface, .bool false]) ∧ Bl w w') : NoReadAt ⟨#[115, 99, 116, 112, 115, 104, 117, 116, 100, 111, 119, 110, 97, 99, 107]⟩ l := by
  intro A n c w h
  have H := Lib.hid h
  have HD := Lib.hid hd
  clear h hd
  go_enter Try.func33, Try.ntmps33
  go_wp2_with fail
  (with_reducible refine (HD.out _ _ _ _ (H.out.below (by go_grown))).mono ?_)
  rintro e w1 ⟨rfl, hb1⟩
  have kr := Blk.keep hb1 (Blk.new w _ _)
  have cr := kr.cell
  have fr := kr.frozen
  have zr := kr.lt
  have B2 := Lib.hid (Bl.trans (Below.alloc (Below.refl _ w) (Nat.le_refl _) _) hb1)
  go_wp2_with fail
  refine bodyPost_ret (v := .tuple #[.agg #[.slice none 0 0, .slice none 0 0, .slice none 0 0, .slice none 0 0], .bool false]) (by simp [results, Try.results33, go_sem, cr]) rfl
    ⟨rfl, Bl.boxed B2.out (Nat.le_refl _) _ _ _ _⟩
set_option maxHeartbeats 1000000 in
theorem readAck_ok (l : List Int) (hl : By l) (h4' : 4 ≤ chL l) (hup : up4 (chL l) ≤ l.length) (h0 : l.getD 0 0 ≠ 0) (hn2 : l.length ≤ 2000)  :
    ReadAt ⟨#[115, 99, 116, 112, 115, 104, 117, 116, 100, 111, 119, 110, 97, 99, 107]⟩ l ⟨[l.getD 0 0, l.getD 1 0, be (sub l 2 4), (up4 (chL l) : Int)], [], [], sub l (up4 (chL l)) l.length⟩ := by
  intro A n c w h
  have H := Lib.hid h
  have HB := Lib.hid hl
  have hlen := h.len
  have hup' : up4 (chL l) ≤ n := by omega
  have hn2' : n ≤ 2000 := by omega
  have HC := Lib.hid (calledAck_yes l hl h4' hup h0 hn2)
  have HZ := Lib.hid (zzAck_ok l hl h4' hup h0 hn2)
  clear h hl h0
  go_enter Try.func33, Try.ntmps33
  go_wp2_with fail
  (with_reducible refine (decoded_ok _ _ _ _ _ hn2 HC.out HZ.out _ _ _ _ (H.out.below (by go_grown))).mono ?_)
  rintro e w1 ⟨A1, c1, gl, rfl, ho, r1⟩
  have R1 := Lib.hid r1
  have kl := ho.layer
  have kr := Blk.keep ho.bl (Blk.new w _ _)
  have cl : w1.cell? ⟨gl, 1, none⟩ = some (.slice (cutA A1 c1 (up4 (chL l))) (n - up4 (chL l)) (c1 - up4 (chL l))) := by rw [kl.cell]; rfl
  have HO := Lib.hid ho.bl
  have zr := kr.lt
  clear r1 ho
  go_wp2_with fail
  (with_reducible refine (payload_any _ _ _ _ _ cl).mono ?_)
  rintro e w2 ⟨rfl, rfl⟩
  go_wp2_with fail
  have q := (R1.out.cut (up4 (chL l)) n (by omega) (by omega))
  (with_reducible refine (toldAck_any _ _ _ _ _ _ _ _ _ _ HB.out h4' hup' hn2' R1.out kl q (HB.out.sub _ _) (by omega)).mono ?_)
  rintro e w2 ⟨v, rfl, hL, hb2⟩
  obtain ⟨A4, c4, A5, c5, A6, c6, A7, c7, rfl⟩ := hL.form
  have HL := Lib.hid hL
  clear hL
  have kr2 := Blk.keep hb2 kr
  have cr := kr2.cell
  have fr := kr2.frozen
  have zr2 := kr2.lt
  have B2 := Lib.hid ((Bl.trans (Below.alloc (Below.refl _ w) (Nat.le_refl _) _) HO.out).trans hb2)
  have hz : w.heap.size ≤ w1.heap.size := Nat.le_of_lt zr
  subst hlen
  go_wp2_with fail
  refine bodyPost_ret (v := .tuple #[.agg #[.slice A4 4 c4, .slice A5 0 c5, .slice A6 0 c6, .slice A7 (sub l (up4 (chL l)) l.length).length c7], .bool true]) (by simp [results, Try.results33, go_sem, cr]) rfl
    ⟨_, rfl, LyrV.mono (LyrV.boxed HL.out (by show ¬ (w1.heap.size ≤ w.heap.size); omega) _ _ _ _) (fun k hk => Nat.le_trans hz hk), Bl.boxed B2.out (Nat.le_refl _) _ _ _ _⟩
end Go.Proofs.Ytoljdgfbkebgcaa
namespace Go.Proofs.Ytoljdgfbkebgcaa
open Go.RowKit
set_option linter.unusedVariables false
def nilLyr : Lyr := ⟨[], [], [], []⟩
theorem none_any (w : World) : Calls Try.prog 62 #[] w fun e w' => e = .returned (.tuple #[zeroLyr, .bool false, .bool true]) ∧ Bl w w' := by
  go_enter Try.func62, Try.ntmps62
  go_wp2
  refine bodyPost_ret (v := .tuple #[zeroLyr, .bool false, .bool true]) (by simp [results, Try.results62, go_sem, zeroLyr]) rfl ⟨rfl, ?_⟩
  go_grown
theorem open_any (w : World) : Calls Try.prog 63 #[] w fun e w' => e = .returned (.tuple #[zeroLyr, .bool false, .bool false]) ∧ Bl w w' := by
  go_enter Try.func63, Try.ntmps63
  go_wp2
  refine bodyPost_ret (v := .tuple #[zeroLyr, .bool false, .bool false]) (by simp [results, Try.results63, go_sem, zeroLyr]) rfl ⟨rfl, ?_⟩
  go_grown
theorem told_zero (B : Nat) (w w' : World) (told : Bool) (hb : Bl w w') : Told B w w' (.returned (.tuple #[zeroLyr, .bool false, .bool told])) nilLyr false told :=
  ⟨_, rfl, LyrV.zero _ _, hb⟩
set_option maxHeartbeats 2000000 in
set_option maxRecDepth 100000 in
theorem sr_short (s : ByteArray) (l : List Int) (hs : (s.toList == [115, 99, 116, 112]) = false) (hn : l.length < 4) : SpecAt s l nilLyr false true := by
  intro A n c B w h _ _
  have hlen := h.len
  have h4 : n < 4 := by omega
  clear h hlen hn
  go_enter Try.func43, Try.ntmps43
  go_wp2_with fail
  (with_reducible refine (none_any _).mono ?_)
  rintro e w1 ⟨rfl, hb1⟩
  have kr := Blk.keep hb1 (Blk.new w _ _)
  have cr := kr.cell
  have fr := kr.frozen
  have zr := kr.lt
  have B2 := Lib.hid (Bl.trans (Below.alloc (Below.refl _ w) (Nat.le_refl _) _) hb1)
  unfold zeroLyr
  go_wp2_with fail
  refine bodyPost_ret (v := .tuple #[zeroLyr, .bool false, .bool true]) (by simp [results, Try.results43, go_sem, cr, zeroLyr]) rfl (told_zero _ _ _ _ (Bl.boxed B2.out (Nat.le_refl _) _ _ _ _))
set_option maxHeartbeats 2000000 in
set_option maxRecDepth 100000 in
theorem sr_open (s : ByteArray) (l : List Int) (hl : By l) (hs : (s.toList == [115, 99, 116, 112]) = false) (hn : 4 ≤ l.length) (hn2 : l.length ≤ 2147483647) (hk : ((kindOf (l.getD 0 0)).toList == s.toList) = false) : SpecAt s l nilLyr false false := by
  intro A n c B w h _ _
  have hlen := h.len
  have h4 : 4 ≤ n := by omega
  have h5 : n ≤ 2147483647 := by omega
  have hcap := h.cap
  have s1 := run_cut A n c 2 4 2 4 rfl rfl (by omega) (by omega) 24 Try.underlying24 size5
  have R1 := Lib.hid (h.cutm 2 4 2 (by omega) (by omega))
  have HB := Lib.hid hl
  have b1 := be_bd2 (sub l 2 4) (hl.sub _ _) (by rw [sub_length _ _ _ (by omega)])
  obtain ⟨g, o, rfl, hg, hc⟩ := h.at (by omega)
  have d0 := hc 0 (by omega)
  simp only [Nat.add_zero] at d0
  have HK := Lib.hid hk
  generalize l.getD 0 0 = x0 at *
  clear h hlen hn hn2 hc hl hk
  go_enter Try.func43, Try.ntmps43
  go_wp2_with fail
  (with_reducible refine (num_any _ _ _ _ _ (R1.out.below (by go_grown)) (HB.out.sub 2 4) (by omega) (by omega)).mono ?_)
  rintro e w1 ⟨rfl, rfl⟩
  generalize be (sub l 2 4) = L at *
  go_wp2_with fail
  (with_reducible refine (sup_any _ (by omega) (by omega) _).mono ?_)
  rintro e w1 ⟨rfl, rfl⟩
  generalize (L + 3) / 4 * 4 = U at *
  go_wp2_with fail
  (with_reducible refine (kind_any _ _).mono ?_)
  rintro e w1 ⟨rfl, hb1⟩
  have hk := HK.out
  generalize kindOf x0 = kx at *
  go_wp2_with fail
  (with_reducible refine (open_any _).mono ?_)
  rintro e w2 ⟨rfl, hb2⟩
  have kr := Blk.keep hb2 (Blk.keep hb1 (Blk.new w _ _))
  have cr := kr.cell
  have fr := kr.frozen
  have zr := kr.lt
  have B2 := Lib.hid ((Bl.trans (Below.alloc (Below.refl _ w) (Nat.le_refl _) _) hb1).trans hb2)
  unfold zeroLyr
  go_wp2_with fail
  refine bodyPost_ret (v := .tuple #[zeroLyr, .bool false, .bool false]) (by simp [results, Try.results43, go_sem, cr, zeroLyr]) rfl (told_zero _ _ _ _ (Bl.boxed B2.out (Nat.le_refl _) _ _ _ _))
set_option maxHeartbeats 2000000 in
set_option maxRecDepth 100000 in
theorem sr_low (s : ByteArray) (l : List Int) (hl : By l) (hs : (s.toList == [115, 99, 116, 112]) = false) (hn : 4 ≤ l.length) (hn2 : l.length ≤ 2147483647) (hk : ((kindOf (l.getD 0 0)).toList == s.toList) = true) (hL : chL l < 4) : SpecAt s l nilLyr false true := by
  intro A n c B w h _ _
  have hlen := h.len
  have h4 : 4 ≤ n := by omega
  have h5 : n ≤ 2147483647 := by omega
  have hcap := h.cap
  have s1 := run_cut A n c 2 4 2 4 rfl rfl (by omega) (by omega) 24 Try.underlying24 size5
  have R1 := Lib.hid (h.cutm 2 4 2 (by omega) (by omega))
  have HB := Lib.hid hl
  have b1 := be_bd2 (sub l 2 4) (hl.sub _ _) (by rw [sub_length _ _ _ (by omega)])
  obtain ⟨g, o, rfl, hg, hc⟩ := h.at (by omega)
  have d0 := hc 0 (by omega)
  simp only [Nat.add_zero] at d0
  have HK := Lib.hid hk
  have e1 := chL_int l hl
  have b2 : be (sub l 2 4) < 4 := by omega
  clear e1
  generalize l.getD 0 0 = x0 at *
  clear h hlen hn hn2 hc hl hk
  go_enter Try.func43, Try.ntmps43
  go_wp2_with fail
  (with_reducible refine (num_any _ _ _ _ _ (R1.out.below (by go_grown)) (HB.out.sub 2 4) (by omega) (by omega)).mono ?_)
  rintro e w1 ⟨rfl, rfl⟩
  generalize be (sub l 2 4) = L at *
  go_wp2_with fail
  (with_reducible refine (sup_any _ (by omega) (by omega) _).mono ?_)
  rintro e w1 ⟨rfl, rfl⟩
  generalize (L + 3) / 4 * 4 = U at *
  go_wp2_with fail
  (with_reducible refine (kind_any _ _).mono ?_)
  rintro e w1 ⟨rfl, hb1⟩
  have hk := HK.out
  generalize kindOf x0 = kx at *
  go_wp2_with fail
  (with_reducible refine (none_any _).mono ?_)
  rintro e w2 ⟨rfl, hb2⟩
  have kr := Blk.keep hb2 (Blk.keep hb1 (Blk.new w _ _))
  have cr := kr.cell
  have fr := kr.frozen
  have zr := kr.lt
  have B2 := Lib.hid ((Bl.trans (Below.alloc (Below.refl _ w) (Nat.le_refl _) _) hb1).trans hb2)
  unfold zeroLyr
  go_wp2_with fail
  refine bodyPost_ret (v := .tuple #[zeroLyr, .bool false, .bool true]) (by simp [results, Try.results43, go_sem, cr, zeroLyr]) rfl (told_zero _ _ _ _ (Bl.boxed B2.out (Nat.le_refl _) _ _ _ _))
set_option maxHeartbeats 2000000 in
set_option maxRecDepth 100000 in
theorem sr_long (s : ByteArray) (l : List Int) (hl : By l) (hs : (s.toList == [115, 99, 116, 112]) = false) (hn : 4 ≤ l.length) (hn2 : l.length ≤ 2147483647) (hk : ((kindOf (l.getD 0 0)).toList == s.toList) = true) (hd : (s.toList == [115, 99, 116, 112, 100, 97, 116, 97]) = false) (hL : l.length < chL l) : SpecAt s l nilLyr false true := by
  intro A n c B w h _ _
  have hlen := h.len
  have h4 : 4 ≤ n := by omega
  have h5 : n ≤ 2147483647 := by omega
  have hcap := h.cap
  have s1 := run_cut A n c 2 4 2 4 rfl rfl (by omega) (by omega) 24 Try.underlying24 size5
  have R1 := Lib.hid (h.cutm 2 4 2 (by omega) (by omega))
  have HB := Lib.hid hl
  have b1 := be_bd2 (sub l 2 4) (hl.sub _ _) (by rw [sub_length _ _ _ (by omega)])
  obtain ⟨g, o, rfl, hg, hc⟩ := h.at (by omega)
  have d0 := hc 0 (by omega)
  simp only [Nat.add_zero] at d0
  have HK := Lib.hid hk
  have e1 := chL_int l hl
  have b2 : (n : Int) < be (sub l 2 4) := by omega
  have b3 : 4 ≤ be (sub l 2 4) := by omega
  clear e1
  generalize l.getD 0 0 = x0 at *
  clear h hlen hn hn2 hc hl hk
  go_enter Try.func43, Try.ntmps43
  go_wp2_with fail
  (with_reducible refine (num_any _ _ _ _ _ (R1.out.below (by go_grown)) (HB.out.sub 2 4) (by omega) (by omega)).mono ?_)
  rintro e w1 ⟨rfl, rfl⟩
  generalize be (sub l 2 4) = L at *
  go_wp2_with fail
  (with_reducible refine (sup_any _ (by omega) (by omega) _).mono ?_)
  rintro e w1 ⟨rfl, rfl⟩
  generalize (L + 3) / 4 * 4 = U at *
  go_wp2_with fail
  (with_reducible refine (kind_any _ _).mono ?_)
  rintro e w1 ⟨rfl, hb1⟩
  have hk := HK.out
  generalize kindOf x0 = kx at *
  go_wp2_with fail
  (with_reducible refine (none_any _).mono ?_)
  rintro e w2 ⟨rfl, hb2⟩
  have kr := Blk.keep hb2 (Blk.keep hb1 (Blk.new w _ _))
  have cr := kr.cell
  have fr := kr.frozen
  have zr := kr.lt
  have B2 := Lib.hid ((Bl.trans (Below.alloc (Below.refl _ w) (Nat.le_refl _) _) hb1).trans hb2)
  unfold zeroLyr
  go_wp2_with fail
  refine bodyPost_ret (v := .tuple #[zeroLyr, .bool false, .bool true]) (by simp [results, Try.results43, go_sem, cr, zeroLyr]) rfl (told_zero _ _ _ _ (Bl.boxed B2.out (Nat.le_refl _) _ _ _ _))
set_option maxHeartbeats 2000000 in
set_option maxRecDepth 100000 in
theorem sr_full (s : ByteArray) (l : List Int) (hl : By l) (hs : (s.toList == [115, 99, 116, 112]) = false) (hn : 4 ≤ l.length) (hn2 : l.length ≤ 2147483647) (hk : ((kindOf (l.getD 0 0)).toList == s.toList) = true) (hd : (s.toList == [115, 99, 116, 112, 100, 97, 116, 97]) = false) (hL0 : 4 ≤ chL l) (hL : chL l ≤ l.length) (hU : l.length < up4 (chL l)) : SpecAt s l nilLyr false false := by
  intro A n c B w h _ _
  have hlen := h.len
  have h4 : 4 ≤ n := by omega
  have h5 : n ≤ 2147483647 := by omega
  have hcap := h.cap
  have s1 := run_cut A n c 2 4 2 4 rfl rfl (by omega) (by omega) 24 Try.underlying24 size5
  have R1 := Lib.hid (h.cutm 2 4 2 (by omega) (by omega))
  have HB := Lib.hid hl
  have b1 := be_bd2 (sub l 2 4) (hl.sub _ _) (by rw [sub_length _ _ _ (by omega)])
  obtain ⟨g, o, rfl, hg, hc⟩ := h.at (by omega)
  have d0 := hc 0 (by omega)
  simp only [Nat.add_zero] at d0
  have HK := Lib.hid hk
  have e1 := chL_int l hl
  have b2 : be (sub l 2 4) ≤ (n : Int) := by omega
  have b3 : 4 ≤ be (sub l 2 4) := by omega
  have b4 : (n : Int) < (be (sub l 2 4) + 3) / 4 * 4 := by rw [e1]; unfold up4 at hU; omega
  clear e1
  generalize l.getD 0 0 = x0 at *
  clear h hlen hn hn2 hc hl hk
  go_enter Try.func43, Try.ntmps43
  go_wp2_with fail
  (with_reducible refine (num_any _ _ _ _ _ (R1.out.below (by go_grown)) (HB.out.sub 2 4) (by omega) (by omega)).mono ?_)
  rintro e w1 ⟨rfl, rfl⟩
  generalize be (sub l 2 4) = L at *
  go_wp2_with fail
  (with_reducible refine (sup_any _ (by omega) (by omega) _).mono ?_)
  rintro e w1 ⟨rfl, rfl⟩
  generalize (L + 3) / 4 * 4 = U at *
  go_wp2_with fail
  (with_reducible refine (kind_any _ _).mono ?_)
  rintro e w1 ⟨rfl, hb1⟩
  have hk := HK.out
  generalize kindOf x0 = kx at *
  go_wp2_with fail
  (with_reducible refine (open_any _).mono ?_)
  rintro e w2 ⟨rfl, hb2⟩
  have kr := Blk.keep hb2 (Blk.keep hb1 (Blk.new w _ _))
  have cr := kr.cell
  have fr := kr.frozen
  have zr := kr.lt
  have B2 := Lib.hid ((Bl.trans (Below.alloc (Below.refl _ w) (Nat.le_refl _) _) hb1).trans hb2)
  unfold zeroLyr
  go_wp2_with fail
  refine bodyPost_ret (v := .tuple #[zeroLyr, .bool false, .bool false]) (by simp [results, Try.results43, go_sem, cr, zeroLyr]) rfl (told_zero _ _ _ _ (Bl.boxed B2.out (Nat.le_refl _) _ _ _ _))
end Go.Proofs.Ytoljdgfbkebgcaa
namespace Go.Proofs.Ytoljdgfbkebgcaa
open Go.RowKit
set_option linter.unusedVariables false
set_option maxHeartbeats 4000000 in
set_option maxRecDepth 100000 in
theorem srAck_some (l : List Int) (hl : By l) (h4' : 4 ≤ chL l) (hup : up4 (chL l) ≤ l.length) (hn2 : l.length ≤ 2147483647) (hk : kindOf (l.getD 0 0) = ⟨#[115, 99, 116, 112, 115, 104, 117, 116, 100, 111, 119, 110, 97, 99, 107]⟩) :
    SpecAt ⟨#[115, 99, 116, 112, 115, 104, 117, 116, 100, 111, 119, 110, 97, 99, 107]⟩ l ⟨[l.getD 0 0, l.getD 1 0, be (sub l 2 4), (up4 (chL l) : Int)], [], [], sub l (up4 (chL l)) l.length⟩ true true := by
  intro A n c B w h hA _
  have u4 : chL l ≤ up4 (chL l) := by unfold up4; omega
  have hlen := h.len
  have h4 : 4 ≤ n := by omega
  have h5 : n ≤ 2147483647 := by omega
  have hcap := h.cap
  have HH := Lib.hid h
  have HA := Lib.hid hA
  have s1 := run_cut A n c 2 4 2 4 rfl rfl (by omega) (by omega) 24 Try.underlying24 size5
  have s2 := run_cut_l A n c (up4 (chL l)) _ rfl (by omega) 24 Try.underlying24 size5
  have s3 := run_cut A n c 4 (chL l) 4 (be (sub l 2 4)) rfl (chL_int l hl) h4' (by omega) 24 Try.underlying24 size5
  have R1 := Lib.hid (h.cutm 2 4 2 (by omega) (by omega))
  have HB := Lib.hid hl
  have b1 := be_bd2 (sub l 2 4) (hl.sub _ _) (by rw [sub_length _ _ _ (by omega)])
  have b0 := hl.getD 0
  have b0' := hl.getD 1
  have e1 := chL_int l hl
  have b2 : 4 ≤ be (sub l 2 4) := by omega
  have b3 : be (sub l 2 4) ≤ (n : Int) := by omega
  have e2 : (be (sub l 2 4) + 3) / 4 * 4 = (up4 (chL l) : Int) := by rw [e1]; unfold up4; omega
  have b4 : (up4 (chL l) : Int) ≤ (n : Int) := by omega
  obtain ⟨g, o, rfl, hg, hc⟩ := h.at (by omega)
  have d0 := hc 0 (by omega)
  have d1 := hc 1 (by omega)
  simp only [Nat.add_zero] at d0
  have HK := Lib.hid hk
  generalize l.getD 0 0 = x0 at *
  generalize l.getD 1 0 = x1 at *
  generalize up4 (chL l) = U at *
  generalize chL l = V at *
  clear h hn2 hc hl hk e1 hA
  go_enter Try.func43, Try.ntmps43
  go_wp2_with fail
  (with_reducible refine (num_any _ _ _ _ _ (R1.out.below (by go_grown)) (HB.out.sub 2 4) (by omega) (by omega)).mono ?_)
  rintro e w1 ⟨rfl, rfl⟩
  generalize G2 : be (sub l 2 4) = L at *
  go_wp2_with fail
  (with_reducible refine (sup_any _ (by omega) (by omega) _).mono ?_)
  rintro e w1 ⟨rfl, rfl⟩
  rw [e2]
  go_wp2_with fail
  (with_reducible refine (kind_any _ _).mono ?_)
  rintro e w1 ⟨rfl, hb1⟩
  rw [HK.out]
  have kr := Blk.keep hb1 (Blk.new w _ _)
  have cr := kr.cell
  have fr := kr.frozen
  have zr := kr.lt
  have B1 : Bl w w1 := Bl.trans (by go_grown) hb1
  have d0' := (B1.cell (p := ⟨g, o, none⟩) hg).trans d0
  have d1' := (B1.cell (p := ⟨g, o + 1, none⟩) hg).trans d1
  have zg : g < w1.heap.size := Nat.lt_of_lt_of_le hg B1.size
  have HX := Lib.hid HH
  clear d0 d1 hb1
  go_wp2_with fail
  go_region
  all_goals go_wp2_with fail
  all_goals subst_vars
  · have BF : Bl w ((((((w1.setCell ⟨w.heap.size, 0, none⟩ (.slice (some ⟨w1.heap.size, 0, none⟩) 4 4)).setCell ⟨w.heap.size, 1, none⟩ (.slice none 0 0)).setCell ⟨w.heap.size, 2, none⟩ (.slice none 0 0)).setCell ⟨w.heap.size, 3, none⟩ (.slice (cutA (some ⟨g, o, none⟩) c U) (l.length - U) (c - U))).alloc (.cells #[.int .u64 x0, .int .u64 x1, .int .u64 (be (sub l 2 4)), .int .u64 U] 26)).alloc (.cells #[.slice (some ⟨w1.heap.size, 0, none⟩) 4 4, .slice none 0 0, .slice none 0 0, .slice (cutA (some ⟨g, o, none⟩) c U) (l.length - U) (c - U)] 35)).drew := (((Bl.boxed B1 (Nat.le_refl _) _ _ _ _).alloc (by simp; omega) _).alloc (by simp; omega) _).drew
    have kf : Blk ((((((w1.setCell ⟨w.heap.size, 0, none⟩ (.slice (some ⟨w1.heap.size, 0, none⟩) 4 4)).setCell ⟨w.heap.size, 1, none⟩ (.slice none 0 0)).setCell ⟨w.heap.size, 2, none⟩ (.slice none 0 0)).setCell ⟨w.heap.size, 3, none⟩ (.slice (cutA (some ⟨g, o, none⟩) c U) (l.length - U) (c - U))).alloc (.cells #[.int .u64 x0, .int .u64 x1, .int .u64 (be (sub l 2 4)), .int .u64 U] 26)).alloc (.cells #[.slice (some ⟨w1.heap.size, 0, none⟩) 4 4, .slice none 0 0, .slice none 0 0, .slice (cutA (some ⟨g, o, none⟩) c U) (l.length - U) (c - U)] 35)).drew w.heap.size #[.slice (some ⟨w1.heap.size, 0, none⟩) 4 4, .slice none 0 0, .slice none 0 0, .slice (cutA (some ⟨g, o, none⟩) c U) (l.length - U) (c - U)] 35 := (((((((kr.set 0 _).set 1 _).set 2 _).set 3 _).alloc _).alloc _).same rfl)
    have kn : Blk ((((((w1.setCell ⟨w.heap.size, 0, none⟩ (.slice (some ⟨w1.heap.size, 0, none⟩) 4 4)).setCell ⟨w.heap.size, 1, none⟩ (.slice none 0 0)).setCell ⟨w.heap.size, 2, none⟩ (.slice none 0 0)).setCell ⟨w.heap.size, 3, none⟩ (.slice (cutA (some ⟨g, o, none⟩) c U) (l.length - U) (c - U))).alloc (.cells #[.int .u64 x0, .int .u64 x1, .int .u64 (be (sub l 2 4)), .int .u64 U] 26)).alloc (.cells #[.slice (some ⟨w1.heap.size, 0, none⟩) 4 4, .slice none 0 0, .slice none 0 0, .slice (cutA (some ⟨g, o, none⟩) c U) (l.length - U) (c - U)] 35)).drew (w1.heap.size) #[.int .u64 x0, .int .u64 x1, .int .u64 (be (sub l 2 4)), .int .u64 U] 26 := (((Blk.newAt ((((w1.setCell ⟨w.heap.size, 0, none⟩ (.slice (some ⟨w1.heap.size, 0, none⟩) 4 4)).setCell ⟨w.heap.size, 1, none⟩ (.slice none 0 0)).setCell ⟨w.heap.size, 2, none⟩ (.slice none 0 0)).setCell ⟨w.heap.size, 3, none⟩ (.slice (cutA (some ⟨g, o, none⟩) c U) (l.length - U) (c - U))) #[.int .u64 x0, .int .u64 x1, .int .u64 (be (sub l 2 4)), .int .u64 U] 26 (w1.heap.size) (by simp)).alloc (.cells #[.slice (some ⟨w1.heap.size, 0, none⟩) 4 4, .slice none 0 0, .slice none 0 0, .slice (cutA (some ⟨g, o, none⟩) c U) (l.length - U) (c - U)] 35)).same rfl)
    have cf := kf.cell
    generalize ((((((w1.setCell ⟨w.heap.size, 0, none⟩ (.slice (some ⟨w1.heap.size, 0, none⟩) 4 4)).setCell ⟨w.heap.size, 1, none⟩ (.slice none 0 0)).setCell ⟨w.heap.size, 2, none⟩ (.slice none 0 0)).setCell ⟨w.heap.size, 3, none⟩ (.slice (cutA (some ⟨g, o, none⟩) c U) (l.length - U) (c - U))).alloc (.cells #[.int .u64 x0, .int .u64 x1, .int .u64 (be (sub l 2 4)), .int .u64 U] 26)).alloc (.cells #[.slice (some ⟨w1.heap.size, 0, none⟩) 4 4, .slice none 0 0, .slice none 0 0, .slice (cutA (some ⟨g, o, none⟩) c U) (l.length - U) (c - U)] 35)).drew = WF at *
    refine bodyPost_ret (v := .tuple #[.agg #[.slice (some ⟨w1.heap.size, 0, none⟩) 4 4, .slice none 0 0, .slice none 0 0, .slice (cutA (some ⟨g, o, none⟩) c U) (l.length - U) (c - U)], .bool true, .bool true]) (by simp [results, Try.results43, go_sem, cf]) rfl ?_
    refine ⟨_, rfl, ⟨_, _, _, _, rfl, ?_, DataV.nil _ _, PartsV.nil _ _, ?_⟩, BF⟩
    · exact NumV.of_block _ (.inr (by omega)) kn.heap rfl rfl
    · exact ((HH.out.below BF).cut U l.length (by omega) (by omega)).bytV (cutA_inF (HA.out.mono fun _ h => .inl h) (fun _ => by omega)) (HB.out.sub _ _)
  · have BF : Bl w ((((((w1.setCell ⟨w.heap.size, 0, none⟩ (.slice (some ⟨w1.heap.size + 1, 0, none⟩) 4 4)).setCell ⟨w.heap.size, 1, none⟩ (.slice none 0 0)).setCell ⟨w.heap.size, 2, none⟩ (.slice none 0 0)).setCell ⟨w.heap.size, 3, none⟩ (.slice (cutA (some ⟨g, o, none⟩) c U) (l.length - U) (c - U))).alloc (.cells #[.slice (some ⟨w1.heap.size + 1, 0, none⟩) 4 4, .slice none 0 0, .slice none 0 0, .slice (cutA (some ⟨g, o, none⟩) c U) (l.length - U) (c - U)] 35)).alloc (.cells #[.int .u64 x0, .int .u64 x1, .int .u64 (be (sub l 2 4)), .int .u64 U] 26)).drew := (((Bl.boxed B1 (Nat.le_refl _) _ _ _ _).alloc (by simp; omega) _).alloc (by simp; omega) _).drew
    have kf : Blk ((((((w1.setCell ⟨w.heap.size, 0, none⟩ (.slice (some ⟨w1.heap.size + 1, 0, none⟩) 4 4)).setCell ⟨w.heap.size, 1, none⟩ (.slice none 0 0)).setCell ⟨w.heap.size, 2, none⟩ (.slice none 0 0)).setCell ⟨w.heap.size, 3, none⟩ (.slice (cutA (some ⟨g, o, none⟩) c U) (l.length - U) (c - U))).alloc (.cells #[.slice (some ⟨w1.heap.size + 1, 0, none⟩) 4 4, .slice none 0 0, .slice none 0 0, .slice (cutA (some ⟨g, o, none⟩) c U) (l.length - U) (c - U)] 35)).alloc (.cells #[.int .u64 x0, .int .u64 x1, .int .u64 (be (sub l 2 4)), .int .u64 U] 26)).drew w.heap.size #[.slice (some ⟨w1.heap.size + 1, 0, none⟩) 4 4, .slice none 0 0, .slice none 0 0, .slice (cutA (some ⟨g, o, none⟩) c U) (l.length - U) (c - U)] 35 := (((((((kr.set 0 _).set 1 _).set 2 _).set 3 _).alloc _).alloc _).same rfl)
    have kn : Blk ((((((w1.setCell ⟨w.heap.size, 0, none⟩ (.slice (some ⟨w1.heap.size + 1, 0, none⟩) 4 4)).setCell ⟨w.heap.size, 1, none⟩ (.slice none 0 0)).setCell ⟨w.heap.size, 2, none⟩ (.slice none 0 0)).setCell ⟨w.heap.size, 3, none⟩ (.slice (cutA (some ⟨g, o, none⟩) c U) (l.length - U) (c - U))).alloc (.cells #[.slice (some ⟨w1.heap.size + 1, 0, none⟩) 4 4, .slice none 0 0, .slice none 0 0, .slice (cutA (some ⟨g, o, none⟩) c U) (l.length - U) (c - U)] 35)).alloc (.cells #[.int .u64 x0, .int .u64 x1, .int .u64 (be (sub l 2 4)), .int .u64 U] 26)).drew (w1.heap.size + 1) #[.int .u64 x0, .int .u64 x1, .int .u64 (be (sub l 2 4)), .int .u64 U] 26 := ((Blk.newAt (((((w1.setCell ⟨w.heap.size, 0, none⟩ (.slice (some ⟨w1.heap.size + 1, 0, none⟩) 4 4)).setCell ⟨w.heap.size, 1, none⟩ (.slice none 0 0)).setCell ⟨w.heap.size, 2, none⟩ (.slice none 0 0)).setCell ⟨w.heap.size, 3, none⟩ (.slice (cutA (some ⟨g, o, none⟩) c U) (l.length - U) (c - U))).alloc (.cells #[.slice (some ⟨w1.heap.size + 1, 0, none⟩) 4 4, .slice none 0 0, .slice none 0 0, .slice (cutA (some ⟨g, o, none⟩) c U) (l.length - U) (c - U)] 35)) #[.int .u64 x0, .int .u64 x1, .int .u64 (be (sub l 2 4)), .int .u64 U] 26 (w1.heap.size + 1) (by simp)).same rfl)
    have cf := kf.cell
    generalize ((((((w1.setCell ⟨w.heap.size, 0, none⟩ (.slice (some ⟨w1.heap.size + 1, 0, none⟩) 4 4)).setCell ⟨w.heap.size, 1, none⟩ (.slice none 0 0)).setCell ⟨w.heap.size, 2, none⟩ (.slice none 0 0)).setCell ⟨w.heap.size, 3, none⟩ (.slice (cutA (some ⟨g, o, none⟩) c U) (l.length - U) (c - U))).alloc (.cells #[.slice (some ⟨w1.heap.size + 1, 0, none⟩) 4 4, .slice none 0 0, .slice none 0 0, .slice (cutA (some ⟨g, o, none⟩) c U) (l.length - U) (c - U)] 35)).alloc (.cells #[.int .u64 x0, .int .u64 x1, .int .u64 (be (sub l 2 4)), .int .u64 U] 26)).drew = WF at *
    refine bodyPost_ret (v := .tuple #[.agg #[.slice (some ⟨w1.heap.size + 1, 0, none⟩) 4 4, .slice none 0 0, .slice none 0 0, .slice (cutA (some ⟨g, o, none⟩) c U) (l.length - U) (c - U)], .bool true, .bool true]) (by simp [results, Try.results43, go_sem, cf]) rfl ?_
    refine ⟨_, rfl, ⟨_, _, _, _, rfl, ?_, DataV.nil _ _, PartsV.nil _ _, ?_⟩, BF⟩
    · exact NumV.of_block _ (.inr (by omega)) kn.heap rfl rfl
    · exact ((HH.out.below BF).cut U l.length (by omega) (by omega)).bytV (cutA_inF (HA.out.mono fun _ h => .inl h) (fun _ => by omega)) (HB.out.sub _ _)
end Go.Proofs.Ytoljdgfbkebgcaa
namespace Go.Proofs.Ytoljdgfbkebgcaa
open Go.RowKit
set_option linter.unusedVariables false
theorem decAck_at (l : List Int) (hl : By l) (hk : kindOf (l.getD 0 0) = ⟨#[115, 99, 116, 112, 115, 104, 117, 116, 100, 111, 119, 110, 97, 99, 107]⟩) (h4' : 4 ≤ chL l) (hup : up4 (chL l) ≤ l.length) (h0 : l.getD 0 0 ≠ 0) (hn2 : l.length ≤ 2000) : DecAt l := by
  intro A n c w h
  have hlen := h.len
  rw [hk]
  refine (decodedN_ok _ l _ _ _ hn2 (calledAck_yes l hl h4' hup h0 hn2) (zzAck_ok l hl h4' hup h0 hn2) A n c w h).mono ?_
  rintro e w1 ⟨A1, c1, gl, rfl, ho, r1, i1⟩
  exact Obj1.dec h0 rfl hup (by omega) rfl meth133 ho.bl ho.layer (by decide) rfl rfl r1 i1
theorem Ack_kind (l : List Int) (hl : By l) (hn : l.length ≤ 2147483647) (hk : kindOf (l.getD 0 0) = ⟨#[115, 99, 116, 112, 115, 104, 117, 116, 100, 111, 119, 110, 97, 99, 107]⟩) : KindAt l := by
  have hs : ((⟨#[115, 99, 116, 112, 115, 104, 117, 116, 100, 111, 119, 110, 97, 99, 107]⟩ : ByteArray).toList == [115, 99, 116, 112]) = false := by simp [go_sem]
  have hd : ((⟨#[115, 99, 116, 112, 115, 104, 117, 116, 100, 111, 119, 110, 97, 99, 107]⟩ : ByteArray).toList == [115, 99, 116, 112, 100, 97, 116, 97]) = false := by simp [go_sem]
  by_cases h4 : l.length < 4
  · exact KindAt.no hk nilLyr false true (sr_short _ l hs h4) rfl
  have hk' : ((kindOf (l.getD 0 0)).toList == (⟨#[115, 99, 116, 112, 115, 104, 117, 116, 100, 111, 119, 110, 97, 99, 107]⟩ : ByteArray).toList) = true := by rw [hk]; simp
  have h0 : l.getD 0 0 ≠ 0 := by
    intro h0
    rw [h0] at hk
    rw [← hk] at hd
    simp [kindOf, kDat, go_sem] at hd
  by_cases hL : chL l < 4
  · exact KindAt.no hk nilLyr false true (sr_low _ l hl hs (by omega) (by omega) hk' hL) rfl
  by_cases hlong : l.length < chL l
  · exact KindAt.no hk nilLyr false true (sr_long _ l hl hs (by omega) (by omega) hk' hd hlong) rfl
  by_cases hup : l.length < up4 (chL l)
  · exact KindAt.no hk nilLyr false false (sr_full _ l hl hs (by omega) (by omega) hk' hd (by omega) (by omega) hup) rfl
  exact ⟨_, true, true, by rw [hk]; exact srAck_some l hl (by omega) (by omega) (by omega) hk, fun _ _ => ⟨by omega, by omega, ⟨_, rfl⟩, fun h => absurd h h0, fun h2 => decAck_at l hl hk (by omega) (by omega) h0 h2⟩⟩
end Go.Proofs.Ytoljdgfbkebgcaa
