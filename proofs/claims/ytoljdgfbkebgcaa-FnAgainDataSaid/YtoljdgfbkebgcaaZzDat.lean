/- ZZDecode, called, impl.Read: sctpdata. -/
import Derived.Test.YtoljdgfbkebgcaaGen
import Derived.Test.YtoljdgfbkebgcaaDecDat
import Derived.Test.YtoljdgfbkebgcaaToDat
import Derived.Test.YtoljdgfbkebgcaaRead
import Derived.Test.YtoljdgfbkebgcaaRow
namespace Go.Proofs.Ytoljdgfbkebgcaa
open Go.RowKit
set_option maxHeartbeats 1000000 in
theorem zzDat_ok (l : List Int) (hl : By l) (h17 : 17 ≤ chL l) (hfull : up4 (chL l) = l.length) (h0 : l.getD 0 0 = 0) (hn2 : l.length ≤ 2000) : ZzOk ⟨#[115, 99, 116, 112, 100, 97, 116, 97]⟩ l 97 103 (fun A n c => datC A n c l) := by
  intro A n c w h
  have hlen := h.len
  have u4 : chL l ≤ up4 (chL l) := by unfold up4; omega
  have hup' : up4 (chL l) ≤ n := by omega
  have h16 : 16 + (up4 (chL l) - chL l) ≤ n := by omega
  have h4' : 4 ≤ chL l := by omega
  have h5 : n ≤ 2147483647 := by omega
  have H := Lib.hid h
  have HB := Lib.hid hl
  have H0 := Lib.hid h0
  clear h hl h0 hfull
  go_enter Try.func69, Try.ntmps69
  go_wp2_with fail
  (with_reducible refine (errNew_any _ _).mono ?_)
  rintro e w1 ⟨rfl, hb1⟩
  have k1 := Blk.keep hb1 (Blk.new w _ _)
  have hz : w.heap.size < w1.heap.size := k1.lt
  go_wp2_with fail
  (with_reducible refine (decDat_any _ _ _ _ _ _ (H.out.below (Bl.trans (by go_grown) hb1)) HB.out h4' hup' h16 H0.out h5 _ k1).mono ?_)
  rintro e w2 ⟨rfl, gl, kp⟩
  have c2 := kp.keeper.cell
  go_wp2_with fail
  go_ret2
  exact ⟨gl, rfl, Below.trans (Bl.trans (by go_grown) hb1) kp.low, kp.layer⟩
theorem zzDat_err (l : List Int) (hl : By l) (h4 : 4 ≤ l.length) (hL : chL l < 4) : ZzErr ⟨#[115, 99, 116, 112, 100, 97, 116, 97]⟩ l := by
  intro A n c w h
  have hlen := h.len
  have h4n : 4 ≤ n := by omega
  have H := Lib.hid h
  have HB := Lib.hid hl
  clear h hl
  go_enter Try.func69, Try.ntmps69
  go_wp2_with fail
  (with_reducible refine (errNew_any _ _).mono ?_)
  rintro e w1 ⟨rfl, hb1⟩
  have hz : w.heap.size < w1.heap.size := by have := hb1.size; simp at this; omega
  go_wp2_with fail
  (with_reducible refine (decDat_short _ _ _ _ _ (H.out.below (Bl.trans (by go_grown) hb1)) HB.out h4n hL _).mono ?_)
  rintro e w2 ⟨⟨u, rfl⟩, hb2⟩
  go_wp2_with fail
  go_ret2
  exact ⟨⟨_, rfl⟩, Bl.trans (Bl.trans (by go_grown) hb1) hb2⟩
set_option maxHeartbeats 1000000 in
theorem calledDat_yes (l : List Int) (hl : By l) (h17 : 17 ≤ chL l) (hfull : up4 (chL l) = l.length) (h0 : l.getD 0 0 = 0) (hn2 : l.length ≤ 2000) : CallAt ⟨#[115, 99, 116, 112, 100, 97, 116, 97]⟩ l true := by
  intro A n c w h
  have hlen := h.len
  have u4 : chL l ≤ up4 (chL l) := by unfold up4; omega
  have HH := Lib.hid h
  have HB := Lib.hid hl
  obtain ⟨g, o, rfl, hg, hc⟩ := h.at (by omega)
  have d0 := hc 0 (by omega)
  simp only [Nat.add_zero] at d0
  rw [h0] at d0
  have h4 : 4 ≤ n := by omega
  have h5 : n ≤ 2000 := by omega
  have h16 : 16 ≤ n := by omega
  have e1 : be (sub l 2 (2 + 2)) = (chL l : Int) := chL_int l hl
  have b1 : 17 ≤ be (sub l 2 (2 + 2)) := by omega
  have b2 : be (sub l 2 (2 + 2)) ≤ 65535 := by have := chL_le l hl (by omega); omega
  have b3 : 16 ≤ (n : Int) - ((be (sub l 2 (2 + 2)) + 3) / 4 * 4 - be (sub l 2 (2 + 2))) := by rw [e1]; unfold up4 at hfull; omega
  have b5 : (be (sub l 2 (2 + 2)) + 3) / 4 * 4 ≤ (n : Int) := by rw [e1]; unfold up4 at hfull; omega
  have b4 : be (sub l 2 (2 + 2)) ≤ (n : Int) := by omega
  have d0' : ∀ q, (w.drewN q).cell? ⟨g, o, none⟩ = some (.int .u8 0) := fun q => d0
  clear h hlen hn2 hl e1 hc h0 d0 u4 hfull
  go_enter Try.func68, Try.ntmps68
  go_wp2_with fail
  (with_reducible refine (number_any _ _ _ 2 _ _ HH.out HB.out (by omega) (by omega) 2 rfl).mono ?_)
  rintro e w1 ⟨rfl, q, rfl⟩
  generalize be (sub l 2 (2 + 2)) = L at *
  have b6 : L ≤ (L + 3) / 4 * 4 := by omega
  go_wp2_with fail
  (with_reducible refine (iup_any _ (by omega) (by omega) _).mono ?_)
  rintro e w1 ⟨rfl, rfl⟩
  generalize (L + 3) / 4 * 4 = U at *
  go_wp2_with fail
  go_ret
  exact ⟨ret_bool (by simp; try omega), (Bl.refl _).drewN _⟩
theorem readDat_no (l : List Int) (hd : ∀ (A : Option Addr) (n c : Nat) (w : World), Rd .u8 w A n c l → Calls Try.prog 48 #[.string ⟨#[115, 99, 116, 112, 100, 97, 116, 97]⟩, .slice A n c] w fun e w' => e = .returned (.tuple #[.nilIface, .bool false]) ∧ Bl w w') : NoReadAt ⟨#[115, 99, 116, 112, 100, 97, 116, 97]⟩ l := by
  intro A n c w h
  have H := Lib.hid h
  have HD := Lib.hid hd
  clear h hd
  go_enter Try.func33, Try.ntmps33
  go_wp2_with fail
  (with_reducible refine (HD.out _ _ _ _ (H.out.below (by go_grown))).mono ?_)
  rintro e w1 ⟨rfl, hb1⟩
  have kr := Blk.keep hb1 (Blk.new w _ _)
  have cr := kr.cell
  have fr := kr.frozen
  have zr := kr.lt
  have B2 := Lib.hid (Bl.trans (Below.alloc (Below.refl _ w) (Nat.le_refl _) _) hb1)
  go_wp2_with fail
  refine bodyPost_ret (v := .tuple #[.agg #[.slice none 0 0, .slice none 0 0, .slice none 0 0, .slice none 0 0], .bool false]) (by simp [results, Try.results33, go_sem, cr]) rfl
    ⟨rfl, Bl.boxed B2.out (Nat.le_refl _) _ _ _ _⟩
set_option maxHeartbeats 1000000 in
theorem readDat_ok (l : List Int) (hl : By l) (h17 : 17 ≤ chL l) (hfull : up4 (chL l) = l.length) (h0 : l.getD 0 0 = 0) (hn2 : l.length ≤ 2000) :
    ReadAt ⟨#[115, 99, 116, 112, 100, 97, 116, 97]⟩ l ⟨[l.getD 0 0, l.getD 1 0, be (sub l 2 4), 16, l.getD 1 0 / 4 % 2, l.getD 1 0 / 2 % 2, l.getD 1 0 % 2, be (sub l 4 8), be (sub l 8 10), be (sub l 10 12), be (sub l 12 16)], [], [], sub l 16 (chL l)⟩ := by
  intro A n c w h
  have H := Lib.hid h
  have HB := Lib.hid hl
  have hlen := h.len
  have u4 : chL l ≤ up4 (chL l) := by unfold up4; omega
  have hup' : up4 (chL l) ≤ n := by omega
  have hn2' : n ≤ 2000 := by omega
  have h16 : 16 ≤ n := by omega
  have h4' : 4 ≤ chL l := by omega
  have hD : n - (up4 (chL l) - chL l) - 16 = chL l - 16 := by omega
  have HC := Lib.hid (calledDat_yes l hl h17 hfull h0 hn2)
  have HZ := Lib.hid (zzDat_ok l hl h17 hfull h0 hn2)
  have b1 := hl.getD 1
  have HE : [0, l.getD 1 0, be (sub l 2 4), 16, b2i (bits .and .u8 (l.getD 1 0) 4 != 0), b2i (bits .and .u8 (l.getD 1 0) 2 != 0), b2i (bits .and .u8 (l.getD 1 0) 1 != 0), be (sub l 4 8), be (sub l 8 10), be (sub l 10 12), be (sub l 12 16)] = [l.getD 0 0, l.getD 1 0, be (sub l 2 4), 16, l.getD 1 0 / 4 % 2, l.getD 1 0 / 2 % 2, l.getD 1 0 % 2, be (sub l 4 8), be (sub l 8 10), be (sub l 10 12), be (sub l 12 16)] := by
    rw [h0]
    unfold b2i
    rw [bit4 _ b1.1 b1.2, bit2 _ b1.1 b1.2, bit1 _ b1.1 b1.2]
  have HE' := Lib.hid HE
  have HDD := Lib.hid hD
  clear h hl h0 hfull HE hD
  go_enter Try.func33, Try.ntmps33
  go_wp2_with fail
  (with_reducible refine (decoded_ok _ _ _ _ _ hn2 HC.out HZ.out _ _ _ _ (H.out.below (by go_grown))).mono ?_)
  rintro e w1 ⟨A1, c1, gl, rfl, ho, r1⟩
  have R1 := Lib.hid r1
  have kl := ho.layer
  have kr := Blk.keep ho.bl (Blk.new w _ _)
  have cl : w1.cell? ⟨gl, 1, none⟩ = some (.slice (cutA A1 c1 16) (chL l - 16) (c1 - 16)) := by rw [kl.cell, ← HDD.out]; rfl
  have HO := Lib.hid ho.bl
  have zr := kr.lt
  clear r1 ho
  go_wp2_with fail
  (with_reducible refine (payload_any _ _ _ _ _ cl).mono ?_)
  rintro e w2 ⟨rfl, rfl⟩
  go_wp2_with fail
  have q := (R1.out.cut 16 (chL l) (by omega) (by omega))
  (with_reducible refine (toldDat_any _ _ _ _ _ _ _ _ _ _ HB.out h4' hup' h16 hn2' R1.out kl q (HB.out.sub _ _) (by omega)).mono ?_)
  rintro e w2 ⟨v, rfl, hL, hb2⟩
  rw [HE'.out] at hL
  obtain ⟨A4, c4, A5, c5, A6, c6, A7, c7, rfl⟩ := hL.form
  have HL := Lib.hid hL
  clear hL
  have kr2 := Blk.keep hb2 kr
  have cr := kr2.cell
  have fr := kr2.frozen
  have zr2 := kr2.lt
  have B2 := Lib.hid ((Bl.trans (Below.alloc (Below.refl _ w) (Nat.le_refl _) _) HO.out).trans hb2)
  have hz : w.heap.size ≤ w1.heap.size := Nat.le_of_lt zr
  subst hlen
  go_wp2_with fail
  refine bodyPost_ret (v := .tuple #[.agg #[.slice A4 11 c4, .slice A5 0 c5, .slice A6 0 c6, .slice A7 (sub l 16 (chL l)).length c7], .bool true]) (by simp [results, Try.results33, go_sem, cr]) rfl
    ⟨_, rfl, LyrV.mono (LyrV.boxed HL.out (by show ¬ (w1.heap.size ≤ w.heap.size); omega) _ _ _ _) (fun k hk => Nat.le_trans hz hk), Bl.boxed B2.out (Nat.le_refl _) _ _ _ _⟩
end Go.Proofs.Ytoljdgfbkebgcaa
