/- ZZDecode, called, impl.Read: sctpsack. -/
import Derived.Test.YtoljdgfbkebgcaaGenP
import Derived.Test.YtoljdgfbkebgcaaDecSac
import Derived.Test.YtoljdgfbkebgcaaDecShort2
import Derived.Test.YtoljdgfbkebgcaaToSac
import Derived.Test.YtoljdgfbkebgcaaRead
import Derived.Test.YtoljdgfbkebgcaaAre
import Derived.Test.YtoljdgfbkebgcaaPrc
namespace Go.Proofs.Ytoljdgfbkebgcaa
open Go.RowKit
abbrev PhiSac (q : Nat) (l : List Int) : Option Addr → Nat → Nat → World → Nat → Prop := (fun A n c w gl => ∃ A00 c00 v B, Blk w gl (((sacC A n c l q).push (.slice A00 0 c00)).push v) 119 ∧ w.ownsRow B 23 1 v q ((fours l q).map (Value.int .u32)))
theorem fours_bd (l : List Int) (hl : By l) (q : Nat) (hq : 16 + 4 * q ≤ l.length) : ∀ j, j < q → 0 ≤ (fours l q).getD j 0 ∧ (fours l q).getD j 0 ≤ 4294967295 := by
  induction q with
  | zero => intro j hj; omega
  | succ q ih =>
    intro j hj
    rw [fours, List.getD_eq_getElem?_getD]
    by_cases h : j < q
    · rw [List.getElem?_append_left (by rw [fours_len]; exact h), ← List.getD_eq_getElem?_getD]
      exact ih (by omega) j h
    · obtain rfl : j = q := by omega
      rw [List.getElem?_append_right (by rw [fours_len]; omega), fours_len, Nat.sub_self]
      exact be_bd4 (sub l (16 + 4 * j) (20 + 4 * j)) (hl.sub _ _) (by rw [sub_length _ _ _ (by omega)]; omega)
set_option maxHeartbeats 1000000 in
theorem zzSac_ok (l : List Int) (hl : By l) (q : Nat) (hV16 : chL l = 16 + 4 * q) (hg0 : be (sub l 12 14) = 0) (hq : be (sub l 14 16) = (q : Int)) (hup : up4 (chL l) ≤ l.length) (h0 : l.getD 0 0 ≠ 0) (hn2 : l.length ≤ 2000) : ZzOkP ⟨#[115, 99, 116, 112, 115, 97, 99, 107]⟩ l 115 (PhiSac q l) := by
  intro A n c w h
  have hlen := h.len
  have hup' : up4 (chL l) ≤ n := by omega
  have h5 : n ≤ 2000 := by omega
  have H := Lib.hid h
  have HB := Lib.hid hl
  have H0 := Lib.hid h0
  have H1 := Lib.hid hV16
  have H2 := Lib.hid hg0
  have H3 := Lib.hid hq
  clear h hl h0 hV16 hg0 hq
  go_enter Try.func69, Try.ntmps69
  go_wp2_with fail
  (with_reducible refine (errNew_any _ _).mono ?_)
  rintro e w1 ⟨rfl, hb1⟩
  have k1 := Blk.keep hb1 (Blk.new w _ _)
  have hz : w.heap.size < w1.heap.size := k1.lt
  go_wp2_with fail
  (with_reducible refine (decSac_any q _ _ _ _ _ _ (H.out.below (Bl.trans (by go_grown) hb1)) HB.out H1.out hup' H0.out h5 H2.out H3.out _ k1).mono ?_)
  rintro e w2 ⟨rfl, gl, v0, v, kp, ⟨A00, c00, rfl⟩, ho⟩
  have HO := Lib.hid ho
  have c2 := kp.keeper.cell
  clear ho
  go_wp2_with fail
  go_ret2
  exact ⟨gl, rfl, Below.trans (Bl.trans (by go_grown) hb1) kp.low, A00, c00, v, _, kp.layer, HO.out⟩
theorem zzSac_err (l : List Int) (hl : By l) (h4 : 4 ≤ l.length) (hL : chL l < 4) : ZzErr ⟨#[115, 99, 116, 112, 115, 97, 99, 107]⟩ l := by
  intro A n c w h
  have hlen := h.len
  have h4n : 4 ≤ n := by omega
  have H := Lib.hid h
  have HB := Lib.hid hl
  clear h hl
  go_enter Try.func69, Try.ntmps69
  go_wp2_with fail
  (with_reducible refine (errNew_any _ _).mono ?_)
  rintro e w1 ⟨rfl, hb1⟩
  have hz : w.heap.size < w1.heap.size := by have := hb1.size; simp at this; omega
  go_wp2_with fail
  (with_reducible refine (decSac_short _ _ _ _ _ (H.out.below (Bl.trans (by go_grown) hb1)) HB.out h4n hL _).mono ?_)
  rintro e w2 ⟨⟨u, rfl⟩, hb2⟩
  go_wp2_with fail
  go_ret2
  exact ⟨⟨_, rfl⟩, Bl.trans (Bl.trans (by go_grown) hb1) hb2⟩
set_option maxHeartbeats 1000000 in
theorem calledSac_yes (l : List Int) (hl : By l) (q : Nat) (hV16 : chL l = 16 + 4 * q) (hg0 : be (sub l 12 14) = 0) (hq : be (sub l 14 16) = (q : Int)) (hup : up4 (chL l) ≤ l.length) (h0 : l.getD 0 0 ≠ 0) (hn2 : l.length ≤ 2000) : CallAt ⟨#[115, 99, 116, 112, 115, 97, 99, 107]⟩ l true := by
  intro A n c w h
  have hlen := h.len
  have hcap := h.cap
  have u4 : chL l ≤ up4 (chL l) := by unfold up4; omega
  have HH := Lib.hid h
  have HB := Lib.hid hl
  obtain ⟨g, o, rfl, hg, hc⟩ := h.at (by omega)
  have d0 := hc 0 (by omega)
  simp only [Nat.add_zero] at d0
  have h4 : 4 ≤ n := by omega
  have h5 : n ≤ 2000 := by omega
  have e1 : be (sub l 2 (2 + 2)) = (chL l : Int) := chL_int l hl
  have b1 : 4 ≤ be (sub l 2 (2 + 2)) := by omega
  have b6 : 16 + 4 * (q : Int) ≤ (n : Int) := by omega
  have b7 : (q : Int) ≤ 500 := by omega
  have b2 : be (sub l 2 (2 + 2)) ≤ 65535 := by have := chL_le l hl (by omega); omega
  have b3 : (be (sub l 2 (2 + 2)) + 3) / 4 * 4 ≤ (n : Int) := by rw [e1]; unfold up4 at hup; omega
  have b4 : be (sub l 2 (2 + 2)) ≤ (n : Int) := by omega
  have hV : chL l ≤ 2000 := by omega
  generalize l.getD 0 0 = x0 at *
  have H0 := Lib.hid h0
  have d0' : ∀ q, (w.drewN q).cell? ⟨g, o, none⟩ = some (.int .u8 x0) := fun q => d0
  have H2 : Hid (be (sub l 12 (12 + 2)) = 0) := Lib.hid hg0
  have H3 : Hid (be (sub l 14 (14 + 2)) = (q : Int)) := Lib.hid hq
  clear h hlen hn2 hl e1 hc hup h0 d0 u4 hV hV16 hg0 hq
  go_enter Try.func68, Try.ntmps68
  go_wp2_with fail
  (with_reducible refine (number_any _ _ _ 2 _ _ HH.out HB.out (by omega) (by omega) 2 rfl).mono ?_)
  rintro e w1 ⟨rfl, q, rfl⟩
  generalize be (sub l 2 (2 + 2)) = L at *
  go_wp2_with fail
  (with_reducible refine (iup_any _ (by omega) (by omega) _).mono ?_)
  rintro e w1 ⟨rfl, rfl⟩
  generalize (L + 3) / 4 * 4 = U at *
  have h0 := H0.out
  go_wp2_with fail
  (with_reducible refine (number_any _ _ _ 12 _ _ (HH.out.below ((Bl.refl w).drewN _)) HB.out (by omega) (by omega) 12 rfl).mono ?_)
  rintro e w2 ⟨rfl, q2, rfl⟩
  rw [H2.out]
  go_wp2_with fail
  (with_reducible refine (number_any _ _ _ 14 _ _ (HH.out.below ((Bl.refl w).drewN _)) HB.out (by omega) (by omega) 14 rfl).mono ?_)
  rintro e w2 ⟨rfl, q3, rfl⟩
  rw [H3.out]
  go_wp2_with fail
  go_ret
  exact ⟨ret_bool (by simp; try omega), (Bl.refl _).drewN _⟩
theorem readSac_no (l : List Int) (hd : ∀ (A : Option Addr) (n c : Nat) (w : World), Rd .u8 w A n c l → Calls Try.prog 48 #[.string ⟨#[115, 99, 116, 112, 115, 97, 99, 107]⟩, .slice A n c] w fun e w' => e = .returned (.tuple #[.nilIface, .bool false]) ∧ Bl w w') : NoReadAt ⟨#[115, 99, 116, 112, 115, 97, 99, 107]⟩ l := by
  intro A n c w h
  have H := Lib.hid h
  have HD := Lib.hid hd
  clear h hd
  go_enter Try.func33, Try.ntmps33
  go_wp2_with fail
  (with_reducible refine (HD.out _ _ _ _ (H.out.below (by go_grown))).mono ?_)
  rintro e w1 ⟨rfl, hb1⟩
  have kr := Blk.keep hb1 (Blk.new w _ _)
  have cr := kr.cell
  have fr := kr.frozen
  have zr := kr.lt
  have B2 := Lib.hid (Bl.trans (Below.alloc (Below.refl _ w) (Nat.le_refl _) _) hb1)
  go_wp2_with fail
  refine bodyPost_ret (v := .tuple #[.agg #[.slice none 0 0, .slice none 0 0, .slice none 0 0, .slice none 0 0], .bool false]) (by simp [results, Try.results33, go_sem, cr]) rfl
    ⟨rfl, Bl.boxed B2.out (Nat.le_refl _) _ _ _ _⟩
set_option maxHeartbeats 1000000 in
theorem readSac_ok (l : List Int) (hl : By l) (q : Nat) (hV16 : chL l = 16 + 4 * q) (hg0 : be (sub l 12 14) = 0) (hq : be (sub l 14 16) = (q : Int)) (hup : up4 (chL l) ≤ l.length) (h0 : l.getD 0 0 ≠ 0) (hn2 : l.length ≤ 2000) :
    ReadAt ⟨#[115, 99, 116, 112, 115, 97, 99, 107]⟩ l ⟨[l.getD 0 0, l.getD 1 0, be (sub l 2 4), (up4 (chL l) : Int), be (sub l 4 8), be (sub l 8 12), 0, (q : Int)], [], sacPs l q, sub l (up4 (chL l)) l.length⟩ := by
  intro A n c w h
  have H := Lib.hid h
  have HB := Lib.hid hl
  have hlen := h.len
  have hup' : up4 (chL l) ≤ n := by omega
  have u4 : chL l ≤ up4 (chL l) := by unfold up4; omega
  have hn2' : n ≤ 2000 := by omega
  have HC := Lib.hid (calledSac_yes l hl q hV16 hg0 hq hup h0 hn2)
  have HZ := Lib.hid (zzSac_ok l hl q hV16 hg0 hq hup h0 hn2)
  have hVb : chL l ≤ 65535 := by omega
  have h16 : 16 + 4 * q ≤ n := by omega
  have hyb : ∀ j, j < q → 0 ≤ (fours l q).getD j 0 ∧ (fours l q).getD j 0 ≤ 4294967295 := fours_bd l hl q (by omega)
  have HYB := Lib.hid hyb
  clear h hl h0 hV16 hg0 hq hyb
  go_enter Try.func33, Try.ntmps33
  go_wp2_with fail
  (with_reducible refine (decodedP_ok _ _ _ _ (fun A n c w w' gl h hb => by obtain ⟨A00, c00, v, B, h1, h2⟩ := h; exact ⟨A00, c00, v, B, Blk.keep hb h1, own_bl h2 hb⟩) hn2 HC.out HZ.out _ _ _ _ (H.out.below (by go_grown))).mono ?_)
  rintro e w1 ⟨A1, c1, gl, rfl, hb1, ⟨A00, c00, v, B, kl, ho⟩, r1⟩
  have R1 := Lib.hid r1
  have kr := Blk.keep hb1 (Blk.new w _ _)
  have cl : w1.cell? ⟨gl, 1, none⟩ = some (.slice (cutA A1 c1 (up4 (chL l))) (n - up4 (chL l)) (c1 - up4 (chL l))) := by rw [kl.cell]; rfl
  have HO1 := Lib.hid hb1
  have zr := kr.lt
  have OR := Lib.hid ho
  have KL := Lib.hid kl
  clear r1 ho kl
  go_wp2_with fail
  (with_reducible refine (payload_any _ _ _ _ _ cl).mono ?_)
  rintro e w2 ⟨rfl, rfl⟩
  go_wp2_with fail
  have rq := (R1.out.cut (up4 (chL l)) n (by omega) (by omega))
  (with_reducible refine (toldSac_any q _ _ _ _ _ _ _ _ _ _ HB.out h16 hVb hup' hn2' R1.out _ _ _ _ KL.out OR.out HYB.out rq (HB.out.sub _ _) (by omega)).mono ?_)
  rintro e w2 ⟨v, rfl, hL, hb2⟩
  obtain ⟨A4, c4, A5, c5, A6, c6, A7, c7, rfl⟩ := hL.form
  have HL := Lib.hid hL
  clear hL
  have kr2 := Blk.keep hb2 kr
  have cr := kr2.cell
  have fr := kr2.frozen
  have zr2 := kr2.lt
  have B2 := Lib.hid ((Bl.trans (Below.alloc (Below.refl _ w) (Nat.le_refl _) _) HO1.out).trans hb2)
  have hz : w.heap.size ≤ w1.heap.size := Nat.le_of_lt zr
  subst hlen
  go_wp2_with fail
  refine bodyPost_ret (v := .tuple #[.agg #[.slice A4 8 c4, .slice A5 0 c5, .slice A6 (sacPs l q).length c6, .slice A7 (sub l (up4 (chL l)) l.length).length c7], .bool true]) (by simp [results, Try.results33, go_sem, cr]) rfl
    ⟨_, rfl, LyrV.mono (LyrV.boxed HL.out (by show ¬ (w1.heap.size ≤ w.heap.size); omega) _ _ _ _) (fun k hk => Nat.le_trans hz hk), Bl.boxed B2.out (Nat.le_refl _) _ _ _ _⟩
end Go.Proofs.Ytoljdgfbkebgcaa
