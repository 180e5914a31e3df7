/- ZZDecode, called, impl.Read: sctpinit. -/
import Derived.Test.YtoljdgfbkebgcaaGenP
import Derived.Test.YtoljdgfbkebgcaaDecIni
import Derived.Test.YtoljdgfbkebgcaaDecShort2
import Derived.Test.YtoljdgfbkebgcaaToIni
import Derived.Test.YtoljdgfbkebgcaaRead
import Derived.Test.YtoljdgfbkebgcaaAre
import Derived.Test.YtoljdgfbkebgcaaPrc
namespace Go.Proofs.Ytoljdgfbkebgcaa
open Go.RowKit
abbrev PhiIni (l : List Int) : Option Addr → Nat → Nat → World → Nat → Prop := (fun A n c w gl => ∃ v q B, Blk w gl ((iniC A n c l).push v) 108 ∧ w.ownsRow B 114 4 v q (prmCells (cutA A c 20) (c - 20) (sub l 20 (chL l))))
set_option maxHeartbeats 1000000 in
theorem zzIni_ok (l : List Int) (hl : By l) (h4' : 4 ≤ chL l) (h20 : 20 ≤ chL l) (hm : chL l % 4 = 0) (hup : up4 (chL l) ≤ l.length) (h0 : l.getD 0 0 ≠ 0) (hn2 : l.length ≤ 2000) (hf : fullOf (sub l 20 (chL l)) = true) : ZzOkP ⟨#[115, 99, 116, 112, 105, 110, 105, 116]⟩ l 105 (PhiIni l) := by
  intro A n c w h
  have hlen := h.len
  have hup' : up4 (chL l) ≤ n := by omega
  have h5 : n ≤ 2000 := by omega
  have H := Lib.hid h
  have HB := Lib.hid hl
  have H0 := Lib.hid h0
  have HF := Lib.hid hf
  clear h hl h0 hf
  go_enter Try.func69, Try.ntmps69
  go_wp2_with fail
  (with_reducible refine (errNew_any _ _).mono ?_)
  rintro e w1 ⟨rfl, hb1⟩
  have k1 := Blk.keep hb1 (Blk.new w _ _)
  have hz : w.heap.size < w1.heap.size := k1.lt
  go_wp2_with fail
  (with_reducible refine (decIni_any _ _ _ _ _ _ (H.out.below (Bl.trans (by go_grown) hb1)) HB.out h4' h20 hm hup' H0.out h5 HF.out _ k1).mono ?_)
  rintro e w2 ⟨rfl, gl, v, q, kp, ho⟩
  have HO := Lib.hid ho
  have c2 := kp.keeper.cell
  clear ho
  go_wp2_with fail
  go_ret2
  exact ⟨gl, rfl, Below.trans (Bl.trans (by go_grown) hb1) kp.low, v, q, _, kp.layer, HO.out⟩
theorem zzIni_err (l : List Int) (hl : By l) (h4 : 4 ≤ l.length) (hL : chL l < 4) : ZzErr ⟨#[115, 99, 116, 112, 105, 110, 105, 116]⟩ l := by
  intro A n c w h
  have hlen := h.len
  have h4n : 4 ≤ n := by omega
  have H := Lib.hid h
  have HB := Lib.hid hl
  clear h hl
  go_enter Try.func69, Try.ntmps69
  go_wp2_with fail
  (with_reducible refine (errNew_any _ _).mono ?_)
  rintro e w1 ⟨rfl, hb1⟩
  have hz : w.heap.size < w1.heap.size := by have := hb1.size; simp at this; omega
  go_wp2_with fail
  (with_reducible refine (decIni_short _ _ _ _ _ (H.out.below (Bl.trans (by go_grown) hb1)) HB.out h4n hL _).mono ?_)
  rintro e w2 ⟨⟨u, rfl⟩, hb2⟩
  go_wp2_with fail
  go_ret2
  exact ⟨⟨_, rfl⟩, Bl.trans (Bl.trans (by go_grown) hb1) hb2⟩
set_option maxHeartbeats 1000000 in
theorem calledIni_any (l : List Int) (hl : By l) (h4' : 4 ≤ chL l) (h20 : 20 ≤ chL l) (hm : chL l % 4 = 0) (hup : up4 (chL l) ≤ l.length) (h0 : l.getD 0 0 ≠ 0) (hn2 : l.length ≤ 2000) : CallAt ⟨#[115, 99, 116, 112, 105, 110, 105, 116]⟩ l (fullOf (sub l 20 (chL l))) := by
  intro A n c w h
  have hlen := h.len
  have hcap := h.cap
  have u4 : chL l ≤ up4 (chL l) := by unfold up4; omega
  have HH := Lib.hid h
  have HB := Lib.hid hl
  have HR := Lib.hid (h.cut 20 (chL l) h20 (by omega))
  have s3 := run_cut A n c 20 (chL l) 20 ((be (sub l 2 (2 + 2)) + 3) / 4 * 4) rfl (by have e1 : be (sub l 2 (2 + 2)) = (chL l : Int) := chL_int l hl; omega) h20 (by omega) 24 Try.underlying24 size5
  obtain ⟨g, o, rfl, hg, hc⟩ := h.at (by omega)
  have d0 := hc 0 (by omega)
  simp only [Nat.add_zero] at d0
  have h4 : 4 ≤ n := by omega
  have h5 : n ≤ 2000 := by omega
  have e1 : be (sub l 2 (2 + 2)) = (chL l : Int) := chL_int l hl
  have b1 : 20 ≤ be (sub l 2 (2 + 2)) := by omega
  have b2 : be (sub l 2 (2 + 2)) ≤ 65535 := by have := chL_le l hl (by omega); omega
  have b3 : (be (sub l 2 (2 + 2)) + 3) / 4 * 4 ≤ (n : Int) := by rw [e1]; unfold up4 at hup; omega
  have b4 : be (sub l 2 (2 + 2)) ≤ (n : Int) := by omega
  have b5 : 20 ≤ (be (sub l 2 (2 + 2)) + 3) / 4 * 4 := by omega
  have hV : chL l ≤ 2000 := by omega
  generalize l.getD 0 0 = x0 at *
  have H0 := Lib.hid h0
  have d0' : ∀ q, (w.drewN q).cell? ⟨g, o, none⟩ = some (.int .u8 x0) := fun q => d0
  clear h hlen hn2 hl e1 hc h4' hup h0 d0 u4
  generalize hVV : chL l = V at *
  go_enter Try.func68, Try.ntmps68
  go_wp2_with fail
  (with_reducible refine (number_any _ _ _ 2 _ _ HH.out HB.out (by omega) (by omega) 2 rfl).mono ?_)
  rintro e w1 ⟨rfl, q, rfl⟩
  generalize be (sub l 2 (2 + 2)) = L at *
  go_wp2_with fail
  (with_reducible refine (iup_any _ (by omega) (by omega) _).mono ?_)
  rintro e w1 ⟨rfl, rfl⟩
  generalize (L + 3) / 4 * 4 = U at *
  have h0 := H0.out
  go_wp2_with fail
  (with_reducible refine (are_any _ _ _ _ _ (HR.out.below ((Bl.refl w).drewN _)) (HB.out.sub _ _) (by omega)).mono ?_)
  rintro e w2 ⟨rfl, q2, rfl⟩
  go_wp2_with fail
  go_ret
  exact ⟨rfl, (Bl.refl _).drewN _⟩
theorem readIni_no (l : List Int) (hd : ∀ (A : Option Addr) (n c : Nat) (w : World), Rd .u8 w A n c l → Calls Try.prog 48 #[.string ⟨#[115, 99, 116, 112, 105, 110, 105, 116]⟩, .slice A n c] w fun e w' => e = .returned (.tuple #[.nilIface, .bool false]) ∧ Bl w w') : NoReadAt ⟨#[115, 99, 116, 112, 105, 110, 105, 116]⟩ l := by
  intro A n c w h
  have H := Lib.hid h
  have HD := Lib.hid hd
  clear h hd
  go_enter Try.func33, Try.ntmps33
  go_wp2_with fail
  (with_reducible refine (HD.out _ _ _ _ (H.out.below (by go_grown))).mono ?_)
  rintro e w1 ⟨rfl, hb1⟩
  have kr := Blk.keep hb1 (Blk.new w _ _)
  have cr := kr.cell
  have fr := kr.frozen
  have zr := kr.lt
  have B2 := Lib.hid (Bl.trans (Below.alloc (Below.refl _ w) (Nat.le_refl _) _) hb1)
  go_wp2_with fail
  refine bodyPost_ret (v := .tuple #[.agg #[.slice none 0 0, .slice none 0 0, .slice none 0 0, .slice none 0 0], .bool false]) (by simp [results, Try.results33, go_sem, cr]) rfl
    ⟨rfl, Bl.boxed B2.out (Nat.le_refl _) _ _ _ _⟩
set_option maxHeartbeats 1000000 in
theorem readIni_ok (l : List Int) (hl : By l) (h4' : 4 ≤ chL l) (h20 : 20 ≤ chL l) (hm : chL l % 4 = 0) (hup : up4 (chL l) ≤ l.length) (h0 : l.getD 0 0 ≠ 0) (hn2 : l.length ≤ 2000) (ps : List Prt) (hf : fullOf (sub l 20 (chL l)) = true) (hps : prmsOf (sub l 20 (chL l)) = some ps) :
    ReadAt ⟨#[115, 99, 116, 112, 105, 110, 105, 116]⟩ l ⟨[l.getD 0 0, l.getD 1 0, be (sub l 2 4), (up4 (chL l) : Int), be (sub l 4 8), be (sub l 8 12), be (sub l 12 14), be (sub l 14 16), be (sub l 16 20)], [], ps, sub l (up4 (chL l)) l.length⟩ := by
  intro A n c w h
  have H := Lib.hid h
  have HB := Lib.hid hl
  have hlen := h.len
  have hup' : up4 (chL l) ≤ n := by omega
  have u4 : chL l ≤ up4 (chL l) := by unfold up4; omega
  have hn2' : n ≤ 2000 := by omega
  have HC := Lib.hid (calledIni_any l hl h4' h20 hm hup h0 hn2)
  rw [hf] at HC
  have HZ := Lib.hid (zzIni_ok l hl h4' h20 hm hup h0 hn2 hf)
  have HPS := Lib.hid hps
  have HF := Lib.hid hf
  clear h hl h0 hps hf
  go_enter Try.func33, Try.ntmps33
  go_wp2_with fail
  (with_reducible refine (decodedP_ok _ _ _ _ (fun A n c w w' gl h hb => by obtain ⟨v, q, B, h1, h2⟩ := h; exact ⟨v, q, B, Blk.keep hb h1, own_bl h2 hb⟩) hn2 HC.out HZ.out _ _ _ _ (H.out.below (by go_grown))).mono ?_)
  rintro e w1 ⟨A1, c1, gl, rfl, hb1, ⟨v, q, B, kl, ho⟩, r1⟩
  have R1 := Lib.hid r1
  have kr := Blk.keep hb1 (Blk.new w _ _)
  have cl : w1.cell? ⟨gl, 1, none⟩ = some (.slice (cutA A1 c1 (up4 (chL l))) (n - up4 (chL l)) (c1 - up4 (chL l))) := by rw [kl.cell]; rfl
  have HO1 := Lib.hid hb1
  have zr := kr.lt
  have hpc := pcells_of _ w1 (cutA A1 c1 20) (chL l - 20) (c1 - 20) (sub l 20 (chL l)) ps (Nat.le_refl _) (r1.cut 20 (chL l) (by omega) (by omega)) (HB.out.sub _ _) (by omega) HF.out HPS.out
  have hql : q = ps.length := by have h1 := ho.1; have h2 := hpc.1; omega
  have hpl := (prms_len _ (sub l 20 (chL l)) ps (Nat.le_refl _) HPS.out).1
  rw [sub_length _ _ _ (by omega)] at hpl
  subst hql
  have PC := Lib.hid hpc
  have OR := Lib.hid ho
  have KL := Lib.hid kl
  clear r1 ho hpc kl
  go_wp2_with fail
  (with_reducible refine (payload_any _ _ _ _ _ cl).mono ?_)
  rintro e w2 ⟨rfl, rfl⟩
  go_wp2_with fail
  have q := (R1.out.cut (up4 (chL l)) n (by omega) (by omega))
  (with_reducible refine (toldIni_any _ _ _ _ _ _ _ _ _ _ HB.out h4' (by omega) hup' hn2' R1.out _ _ _ _ KL.out OR.out PC.out (by omega) q (HB.out.sub _ _) (by omega)).mono ?_)
  rintro e w2 ⟨v, rfl, hL, hb2⟩
  obtain ⟨A4, c4, A5, c5, A6, c6, A7, c7, rfl⟩ := hL.form
  have HL := Lib.hid hL
  clear hL
  have kr2 := Blk.keep hb2 kr
  have cr := kr2.cell
  have fr := kr2.frozen
  have zr2 := kr2.lt
  have B2 := Lib.hid ((Bl.trans (Below.alloc (Below.refl _ w) (Nat.le_refl _) _) HO1.out).trans hb2)
  have hz : w.heap.size ≤ w1.heap.size := Nat.le_of_lt zr
  subst hlen
  go_wp2_with fail
  refine bodyPost_ret (v := .tuple #[.agg #[.slice A4 9 c4, .slice A5 0 c5, .slice A6 ps.length c6, .slice A7 (sub l (up4 (chL l)) l.length).length c7], .bool true]) (by simp [results, Try.results33, go_sem, cr]) rfl
    ⟨_, rfl, LyrV.mono (LyrV.boxed HL.out (by show ¬ (w1.heap.size ≤ w.heap.size); omega) _ _ _ _) (fun k hk => Nat.le_trans hz hk), Bl.boxed B2.out (Nat.le_refl _) _ _ _ _⟩
end Go.Proofs.Ytoljdgfbkebgcaa
