/- impl.told: sctpempty. ZZDecode, called, impl.Read: sctpempty. spec.Read: sctpempty, where there is a chunk. spec.Read and decoded, of a chunk of the kind sctpempty. impl.parameter: a parameter told. Decoded parameters as parts, in plain Lean. -/
import Derived.Test.YtoljdgfbkebgcaaPq03
import Derived.Test.YtoljdgfbkebgcaaPq04
import Derived.Test.YtoljdgfbkebgcaaPq07
import Derived.Test.YtoljdgfbkebgcaaPq10
import Derived.Test.YtoljdgfbkebgcaaPq02
import Derived.Test.YtoljdgfbkebgcaaPq06
import Derived.Test.YtoljdgfbkebgcaaPq05
namespace Go.Proofs.Ytoljdgfbkebgcaa
open Go.RowKit
set_option linter.unusedVariables false
set_option maxHeartbeats 4000000 in
set_option maxRecDepth 100000 in
theorem toldEmp_any (A1 A : Option Addr) (n c1 m c gl : Nat) (l p : List Int) (w : World) (hl : By l) (h4 : 4 ≤ chL l) (hup : up4 (chL l) ≤ n) (hn2 : n ≤ 2000) (r : Rd .u8 w A1 n c1 l) (k : Blk w gl (chk A1 n c1 l) 140) (h : Rd .u8 w A m c p) (hp : By p) (hm : m ≤ 2000) :
    Calls Try.prog 49 #[.iface 139 (.pointer (some ⟨gl, 0, none⟩)), .slice A m c] w fun e w' =>
      Got w w' e ⟨[l.getD 0 0, l.getD 1 0, be (sub l 2 4), (up4 (chL l) : Int)], [], [], p⟩ := by
  have u4 : chL l ≤ up4 (chL l) := by unfold up4; omega
  have H := Lib.hid h
  have HP := Lib.hid hp
  have R := Lib.hid r
  have HB := Lib.hid hl
  have hlen := r.len
  have b0 := hl.getD 0
  have b1 := hl.getD 1
  have b2 := be_bd2 (sub l 2 4) (hl.sub _ _) (by rw [sub_length _ _ _ (by omega)])
  have b3 : (0 : Int) ≤ (up4 (chL l) : Int) ∧ (up4 (chL l) : Int) ≤ 2147483647 := by omega
  have hk : Blk w gl (#[.slice A1 (up4 (chL l)) c1, .slice (cutA A1 c1 (up4 (chL l))) (n - up4 (chL l)) (c1 - up4 (chL l)), .int .u8 (l.getD 0 0), .int .u8 (l.getD 1 0), .int .u16 (be (sub l 2 4)), .int .i64 (up4 (chL l))]) 140 := k
  generalize l.getD 0 0 = x0 at *
  generalize l.getD 1 0 = x1 at *
  generalize be (sub l 2 4) = L at *
  generalize up4 (chL l) = U at *
  generalize chL l = V at *
  clear h hp hl r k
  have t0 := ta_139_90
  have t1 := ta_139_97
  have t2 := ta_139_105
  have t3 := ta_139_115
  have t4 := ta_139_120
  have t5 := ta_139_125
  have t6 := ta_139_130
  have t7 := ta_139_133
  have t8 := ta_139_136
  have t9 := ta_139
  go_enter Try.func49, Try.ntmps49
  go_wp2_with fail
  (with_reducible refine (clone_any _ _ _ _ _ (H.out.below (by go_grown)) (by omega)).mono ?_)
  rintro e w1 ⟨⟨A2, c2, rfl, ho⟩, hb1⟩
  have kr := Blk.keep hb1 (Blk.new w _ _)
  have kl := Blk.keep hb1 (hk.alloc _)
  have OW := Lib.hid ho
  have cl := kl.cell
  have zl := kl.lt
  have cr := kr.cell
  have fr := kr.frozen
  have zr := kr.lt
  have B0 : Bl w w1 := Bl.trans (by go_grown) hb1
  have v3 := Lib.hid (own_bytV (F := fun k => w.heap.size < k ∧ k ≠ w1.heap.size) ho HP.out (fun k h1 h2 => by simp at h1; exact ⟨by omega, by omega⟩))
  clear ho
  go_wp2_with fail
  have kb := Blk.new w1 #[.slice none 0 0, .slice none 0 0, .slice none 0 0, .slice A2 m c2] 35
  have kl1 := kl.alloc (.cells #[.slice none 0 0, .slice none 0 0, .slice none 0 0, .slice A2 m c2] 35)
  have kr1 := kr.alloc (.cells #[.slice none 0 0, .slice none 0 0, .slice none 0 0, .slice A2 m c2] 35)
  have B1 : Bl w (w1.alloc (.cells #[.slice none 0 0, .slice none 0 0, .slice none 0 0, .slice A2 m c2] 35)) := B0.trans (by go_grown)
  have v31 := Lib.hid (BytV.below v3.out (w' := w1.alloc (.cells #[.slice none 0 0, .slice none 0 0, .slice none 0 0, .slice A2 m c2] 35)) (by go_grown))
  clear v3 cl zl cr fr kl kr hb1 hk OW B0
  have zr' : w.heap.size < w1.heap.size := zr
  generalize w1.alloc (.cells #[.slice none 0 0, .slice none 0 0, .slice none 0 0, .slice A2 m c2] 35) = W at *
  generalize w1.heap.size = gb at *
  clear zr
  (with_reducible refine (chunkv_any _ _ _ _ _ _ _ _ _ _ _ b0 b1 b2 b3).mono ?_)
  rintro e w2 ⟨rfl, hb2, kn, _⟩
  have kb2 := Blk.keep hb2 kb
  have kr2 := Blk.keep hb2 kr1
  have kl2 := Blk.keep hb2 kl1
  have zW : gb < W.heap.size := kb.lt
  have B2 := B1.trans hb2
  have cb := kb2.cell
  have fb := kb2.frozen
  have zb := kb2.lt
  have cr := kr2.cell
  have fr := kr2.frozen
  have zr := kr2.lt
  have cl := kl2.cell
  have zl := kl2.lt
  have hne : w.heap.size ≠ gb := Nat.ne_of_lt zr'
  go_wp2_with fail
  have hv0 := Lib.hid (NumV.of_block (F := fun k => w.heap.size < k ∧ k ≠ gb) [x0, x1, L, (U : Int)] (show _ ∧ _ from ⟨by omega, by omega⟩) kn.heap rfl rfl)
  refine bodyPost_ret (v := .tuple #[.agg #[.slice (some ⟨W.heap.size + 1, 0, none⟩) 4 4, .slice none 0 0, .slice none 0 0, .slice A2 m c2], .bool true]) (by simp [results, Try.results49, go_sem, cr]) rfl ⟨_, rfl, ?_, ?_⟩
  · have hL : LyrV (fun k => w.heap.size < k ∧ k ≠ gb) w2 (.agg #[.slice (some ⟨W.heap.size + 1, 0, none⟩) 4 4, .slice none 0 0, .slice none 0 0, .slice A2 m c2]) ⟨[x0, x1, L, (U : Int)], [], [], p⟩ :=
      ⟨_, _, _, _, rfl, hv0.out, DataV.nil _ _, PartsV.nil _ _, BytV.below v31.out hb2⟩
    have hL1 := LyrV.keepF hL ((KeepF.refl _ w2).setCell (p := ⟨gb, 0, none⟩) (fun h => h.2 rfl) (.slice (some ⟨W.heap.size + 1, 0, none⟩) 4 4))
    exact LyrV.mono (LyrV.boxed (g := w.heap.size) hL1 (fun h => by omega) _ _ _ _) (fun k h => Nat.le_of_lt h.1)
  · exact Bl.boxed (Below.setCell B2 (p := ⟨gb, 0, none⟩) (Nat.le_of_lt zr') _) (Nat.le_refl _) _ _ _ _
end Go.Proofs.Ytoljdgfbkebgcaa
namespace Go.Proofs.Ytoljdgfbkebgcaa
open Go.RowKit
set_option linter.unusedVariables false
def sEmp : ByteArray := ⟨#[115, 99, 116, 112, 101, 109, 112, 116, 121]⟩
set_option maxHeartbeats 1000000 in
theorem zzEmp_ok (l : List Int) (hl : By l) (h4' : 4 ≤ chL l) (hup : up4 (chL l) ≤ l.length) (h0 : l.getD 0 0 ≠ 0) (hn2 : l.length ≤ 2000)  : ZzOk ⟨#[115, 99, 116, 112, 101, 109, 112, 116, 121]⟩ l 139 140 (fun A n c => chk A n c l) := by
  intro A n c w h
  have hlen := h.len
  have hup' : up4 (chL l) ≤ n := by omega
  have h5 : n ≤ 2147483647 := by omega
  have H := Lib.hid h
  have HB := Lib.hid hl
  have H0 := Lib.hid h0
  clear h hl h0
  go_enter Try.func69, Try.ntmps69
  go_wp2_with fail
  (with_reducible refine (errNew_any _ _).mono ?_)
  rintro e w1 ⟨rfl, hb1⟩
  have k1 := Blk.keep hb1 (Blk.new w _ _)
  have hz : w.heap.size < w1.heap.size := k1.lt
  go_wp2_with fail
  (with_reducible refine (decEmp_any _ _ _ _ _ _ (H.out.below (Bl.trans (by go_grown) hb1)) HB.out h4' hup' H0.out h5 _ k1).mono ?_)
  rintro e w2 ⟨rfl, gl, kp⟩
  have c2 := kp.keeper.cell
  go_wp2_with fail
  go_ret2
  exact ⟨gl, rfl, Below.trans (Bl.trans (by go_grown) hb1) kp.low, kp.layer⟩
theorem zzEmp_err (l : List Int) (hl : By l) (h4 : 4 ≤ l.length) (hL : chL l < 4) : ZzErr ⟨#[115, 99, 116, 112, 101, 109, 112, 116, 121]⟩ l := by
  intro A n c w h
  have hlen := h.len
  have h4n : 4 ≤ n := by omega
  have H := Lib.hid h
  have HB := Lib.hid hl
  clear h hl
  go_enter Try.func69, Try.ntmps69
  go_wp2_with fail
  (with_reducible refine (errNew_any _ _).mono ?_)
  rintro e w1 ⟨rfl, hb1⟩
  have hz : w.heap.size < w1.heap.size := by have := hb1.size; simp at this; omega
  go_wp2_with fail
  (with_reducible refine (decEmp_short _ _ _ _ _ (H.out.below (Bl.trans (by go_grown) hb1)) HB.out h4n hL _).mono ?_)
  rintro e w2 ⟨⟨u, rfl⟩, hb2⟩
  go_wp2_with fail
  go_ret2
  exact ⟨⟨_, rfl⟩, Bl.trans (Bl.trans (by go_grown) hb1) hb2⟩
set_option maxHeartbeats 1000000 in
theorem calledEmp_yes (l : List Int) (hl : By l) (h4' : 4 ≤ chL l) (hup : up4 (chL l) ≤ l.length) (h0 : l.getD 0 0 ≠ 0) (hn2 : l.length ≤ 2000)  : CallAt ⟨#[115, 99, 116, 112, 101, 109, 112, 116, 121]⟩ l true := by
  intro A n c w h
  have hlen := h.len
  have u4 : chL l ≤ up4 (chL l) := by unfold up4; omega
  have HH := Lib.hid h
  have HB := Lib.hid hl
  obtain ⟨g, o, rfl, hg, hc⟩ := h.at (by omega)
  have d0 := hc 0 (by omega)
  simp only [Nat.add_zero] at d0
  have h4 : 4 ≤ n := by omega
  have h5 : n ≤ 2000 := by omega
  have h8 : 4 ≤ n := by omega
  have e1 : be (sub l 2 (2 + 2)) = (chL l : Int) := chL_int l hl
  have b1 : 4 ≤ be (sub l 2 (2 + 2)) := by omega
  have b2 : be (sub l 2 (2 + 2)) ≤ 65535 := by have := chL_le l hl (by omega); omega
  have b3 : (be (sub l 2 (2 + 2)) + 3) / 4 * 4 ≤ (n : Int) := by rw [e1]; unfold up4 at hup; omega
  have b4 : be (sub l 2 (2 + 2)) ≤ (n : Int) := by omega
  generalize l.getD 0 0 = x0 at *
  have H0 := Lib.hid h0
  have d0' : ∀ q, (w.drewN q).cell? ⟨g, o, none⟩ = some (.int .u8 x0) := fun q => d0
  clear h hlen hn2 hl e1 hc h4' hup h0 d0 u4
  go_enter Try.func68, Try.ntmps68
  go_wp2_with fail
  (with_reducible refine (number_any _ _ _ 2 _ _ HH.out HB.out (by omega) (by omega) 2 rfl).mono ?_)
  rintro e w1 ⟨rfl, q, rfl⟩
  generalize be (sub l 2 (2 + 2)) = L at *
  go_wp2_with fail
  (with_reducible refine (iup_any _ (by omega) (by omega) _).mono ?_)
  rintro e w1 ⟨rfl, rfl⟩
  generalize (L + 3) / 4 * 4 = U at *
  have h0 := H0.out
  go_wp2_with fail
  go_ret
  exact ⟨ret_bool (by simp; try omega), (Bl.refl _).drewN _⟩
theorem readEmp_no (l : List Int) (hd : ∀ (A : Option Addr) (n c : Nat) (w : World), Rd .u8 w A n c l → Calls Try.prog 48 #[.string ⟨#[115, 99, 116, 112, 101, 109, 112, 116, 121]⟩, .slice A n c] w fun e w' => e = .returned (.tuple #[.nilIface, .bool false]) ∧ Bl w w') : NoReadAt ⟨#[115, 99, 116, 112, 101, 109, 112, 116, 121]⟩ l := by
  intro A n c w h
  have H := Lib.hid h
  have HD := Lib.hid hd
  clear h hd
  go_enter Try.func33, Try.ntmps33
  go_wp2_with fail
  (with_reducible refine (HD.out _ _ _ _ (H.out.below (by go_grown))).mono ?_)
  rintro e w1 ⟨rfl, hb1⟩
  have kr := Blk.keep hb1 (Blk.new w _ _)
  have cr := kr.cell
  have fr := kr.frozen
  have zr := kr.lt
  have B2 := Lib.hid (Bl.trans (Below.alloc (Below.refl _ w) (Nat.le_refl _) _) hb1)
  go_wp2_with fail
  refine bodyPost_ret (v := .tuple #[.agg #[.slice none 0 0, .slice none 0 0, .slice none 0 0, .slice none 0 0], .bool false]) (by simp [results, Try.results33, go_sem, cr]) rfl
    ⟨rfl, Bl.boxed B2.out (Nat.le_refl _) _ _ _ _⟩
set_option maxHeartbeats 1000000 in
theorem readEmp_ok (l : List Int) (hl : By l) (h4' : 4 ≤ chL l) (hup : up4 (chL l) ≤ l.length) (h0 : l.getD 0 0 ≠ 0) (hn2 : l.length ≤ 2000)  :
    ReadAt ⟨#[115, 99, 116, 112, 101, 109, 112, 116, 121]⟩ l ⟨[l.getD 0 0, l.getD 1 0, be (sub l 2 4), (up4 (chL l) : Int)], [], [], sub l (up4 (chL l)) l.length⟩ := by
  intro A n c w h
  have H := Lib.hid h
  have HB := Lib.hid hl
  have hlen := h.len
  have hup' : up4 (chL l) ≤ n := by omega
  have hn2' : n ≤ 2000 := by omega
  have HC := Lib.hid (calledEmp_yes l hl h4' hup h0 hn2)
  have HZ := Lib.hid (zzEmp_ok l hl h4' hup h0 hn2)
  clear h hl h0
  go_enter Try.func33, Try.ntmps33
  go_wp2_with fail
  (with_reducible refine (decoded_ok _ _ _ _ _ hn2 HC.out HZ.out _ _ _ _ (H.out.below (by go_grown))).mono ?_)
  rintro e w1 ⟨A1, c1, gl, rfl, ho, r1⟩
  have R1 := Lib.hid r1
  have kl := ho.layer
  have kr := Blk.keep ho.bl (Blk.new w _ _)
  have cl : w1.cell? ⟨gl, 1, none⟩ = some (.slice (cutA A1 c1 (up4 (chL l))) (n - up4 (chL l)) (c1 - up4 (chL l))) := by rw [kl.cell]; rfl
  have HO := Lib.hid ho.bl
  have zr := kr.lt
  clear r1 ho
  go_wp2_with fail
  (with_reducible refine (payload_any _ _ _ _ _ cl).mono ?_)
  rintro e w2 ⟨rfl, rfl⟩
  go_wp2_with fail
  have q := (R1.out.cut (up4 (chL l)) n (by omega) (by omega))
  (with_reducible refine (toldEmp_any _ _ _ _ _ _ _ _ _ _ HB.out h4' hup' hn2' R1.out kl q (HB.out.sub _ _) (by omega)).mono ?_)
  rintro e w2 ⟨v, rfl, hL, hb2⟩
  obtain ⟨A4, c4, A5, c5, A6, c6, A7, c7, rfl⟩ := hL.form
  have HL := Lib.hid hL
  clear hL
  have kr2 := Blk.keep hb2 kr
  have cr := kr2.cell
  have fr := kr2.frozen
  have zr2 := kr2.lt
  have B2 := Lib.hid ((Bl.trans (Below.alloc (Below.refl _ w) (Nat.le_refl _) _) HO.out).trans hb2)
  have hz : w.heap.size ≤ w1.heap.size := Nat.le_of_lt zr
  subst hlen
  go_wp2_with fail
  refine bodyPost_ret (v := .tuple #[.agg #[.slice A4 4 c4, .slice A5 0 c5, .slice A6 0 c6, .slice A7 (sub l (up4 (chL l)) l.length).length c7], .bool true]) (by simp [results, Try.results33, go_sem, cr]) rfl
    ⟨_, rfl, LyrV.mono (LyrV.boxed HL.out (by show ¬ (w1.heap.size ≤ w.heap.size); omega) _ _ _ _) (fun k hk => Nat.le_trans hz hk), Bl.boxed B2.out (Nat.le_refl _) _ _ _ _⟩
end Go.Proofs.Ytoljdgfbkebgcaa
namespace Go.Proofs.Ytoljdgfbkebgcaa
open Go.RowKit
set_option linter.unusedVariables false
set_option maxHeartbeats 4000000 in
set_option maxRecDepth 100000 in
theorem srEmp_some (l : List Int) (hl : By l) (h4' : 4 ≤ chL l) (hup : up4 (chL l) ≤ l.length) (hn2 : l.length ≤ 2147483647) (hk : kindOf (l.getD 0 0) = ⟨#[115, 99, 116, 112, 101, 109, 112, 116, 121]⟩) :
    SpecAt ⟨#[115, 99, 116, 112, 101, 109, 112, 116, 121]⟩ l ⟨[l.getD 0 0, l.getD 1 0, be (sub l 2 4), (up4 (chL l) : Int)], [], [], sub l (up4 (chL l)) l.length⟩ true true := by
  intro A n c B w h hA _
  have u4 : chL l ≤ up4 (chL l) := by unfold up4; omega
  have hlen := h.len
  have h4 : 4 ≤ n := by omega
  have h5 : n ≤ 2147483647 := by omega
  have hcap := h.cap
  have HH := Lib.hid h
  have HA := Lib.hid hA
  have s1 := run_cut A n c 2 4 2 4 rfl rfl (by omega) (by omega) 24 Try.underlying24 size5
  have s2 := run_cut_l A n c (up4 (chL l)) _ rfl (by omega) 24 Try.underlying24 size5
  have s3 := run_cut A n c 4 (chL l) 4 (be (sub l 2 4)) rfl (chL_int l hl) h4' (by omega) 24 Try.underlying24 size5
  have R1 := Lib.hid (h.cutm 2 4 2 (by omega) (by omega))
  have HB := Lib.hid hl
  have b1 := be_bd2 (sub l 2 4) (hl.sub _ _) (by rw [sub_length _ _ _ (by omega)])
  have b0 := hl.getD 0
  have b0' := hl.getD 1
  have e1 := chL_int l hl
  have b2 : 4 ≤ be (sub l 2 4) := by omega
  have b3 : be (sub l 2 4) ≤ (n : Int) := by omega
  have e2 : (be (sub l 2 4) + 3) / 4 * 4 = (up4 (chL l) : Int) := by rw [e1]; unfold up4; omega
  have b4 : (up4 (chL l) : Int) ≤ (n : Int) := by omega
  obtain ⟨g, o, rfl, hg, hc⟩ := h.at (by omega)
  have d0 := hc 0 (by omega)
  have d1 := hc 1 (by omega)
  simp only [Nat.add_zero] at d0
  have HK := Lib.hid hk
  generalize l.getD 0 0 = x0 at *
  generalize l.getD 1 0 = x1 at *
  generalize up4 (chL l) = U at *
  generalize chL l = V at *
  clear h hn2 hc hl hk e1 hA
  go_enter Try.func43, Try.ntmps43
  go_wp2_with fail
  (with_reducible refine (num_any _ _ _ _ _ (R1.out.below (by go_grown)) (HB.out.sub 2 4) (by omega) (by omega)).mono ?_)
  rintro e w1 ⟨rfl, rfl⟩
  generalize G2 : be (sub l 2 4) = L at *
  go_wp2_with fail
  (with_reducible refine (sup_any _ (by omega) (by omega) _).mono ?_)
  rintro e w1 ⟨rfl, rfl⟩
  rw [e2]
  go_wp2_with fail
  (with_reducible refine (kind_any _ _).mono ?_)
  rintro e w1 ⟨rfl, hb1⟩
  rw [HK.out]
  have kr := Blk.keep hb1 (Blk.new w _ _)
  have cr := kr.cell
  have fr := kr.frozen
  have zr := kr.lt
  have B1 : Bl w w1 := Bl.trans (by go_grown) hb1
  have d0' := (B1.cell (p := ⟨g, o, none⟩) hg).trans d0
  have d1' := (B1.cell (p := ⟨g, o + 1, none⟩) hg).trans d1
  have zg : g < w1.heap.size := Nat.lt_of_lt_of_le hg B1.size
  have HX := Lib.hid HH
  clear d0 d1 hb1
  go_wp2_with fail
  go_region
  all_goals go_wp2_with fail
  all_goals subst_vars
  · have BF : Bl w ((((((w1.setCell ⟨w.heap.size, 0, none⟩ (.slice (some ⟨w1.heap.size, 0, none⟩) 4 4)).setCell ⟨w.heap.size, 1, none⟩ (.slice none 0 0)).setCell ⟨w.heap.size, 2, none⟩ (.slice none 0 0)).setCell ⟨w.heap.size, 3, none⟩ (.slice (cutA (some ⟨g, o, none⟩) c U) (l.length - U) (c - U))).alloc (.cells #[.int .u64 x0, .int .u64 x1, .int .u64 (be (sub l 2 4)), .int .u64 U] 26)).alloc (.cells #[.slice (some ⟨w1.heap.size, 0, none⟩) 4 4, .slice none 0 0, .slice none 0 0, .slice (cutA (some ⟨g, o, none⟩) c U) (l.length - U) (c - U)] 35)).drew := (((Bl.boxed B1 (Nat.le_refl _) _ _ _ _).alloc (by simp; omega) _).alloc (by simp; omega) _).drew
    have kf : Blk ((((((w1.setCell ⟨w.heap.size, 0, none⟩ (.slice (some ⟨w1.heap.size, 0, none⟩) 4 4)).setCell ⟨w.heap.size, 1, none⟩ (.slice none 0 0)).setCell ⟨w.heap.size, 2, none⟩ (.slice none 0 0)).setCell ⟨w.heap.size, 3, none⟩ (.slice (cutA (some ⟨g, o, none⟩) c U) (l.length - U) (c - U))).alloc (.cells #[.int .u64 x0, .int .u64 x1, .int .u64 (be (sub l 2 4)), .int .u64 U] 26)).alloc (.cells #[.slice (some ⟨w1.heap.size, 0, none⟩) 4 4, .slice none 0 0, .slice none 0 0, .slice (cutA (some ⟨g, o, none⟩) c U) (l.length - U) (c - U)] 35)).drew w.heap.size #[.slice (some ⟨w1.heap.size, 0, none⟩) 4 4, .slice none 0 0, .slice none 0 0, .slice (cutA (some ⟨g, o, none⟩) c U) (l.length - U) (c - U)] 35 := (((((((kr.set 0 _).set 1 _).set 2 _).set 3 _).alloc _).alloc _).same rfl)
    have kn : Blk ((((((w1.setCell ⟨w.heap.size, 0, none⟩ (.slice (some ⟨w1.heap.size, 0, none⟩) 4 4)).setCell ⟨w.heap.size, 1, none⟩ (.slice none 0 0)).setCell ⟨w.heap.size, 2, none⟩ (.slice none 0 0)).setCell ⟨w.heap.size, 3, none⟩ (.slice (cutA (some ⟨g, o, none⟩) c U) (l.length - U) (c - U))).alloc (.cells #[.int .u64 x0, .int .u64 x1, .int .u64 (be (sub l 2 4)), .int .u64 U] 26)).alloc (.cells #[.slice (some ⟨w1.heap.size, 0, none⟩) 4 4, .slice none 0 0, .slice none 0 0, .slice (cutA (some ⟨g, o, none⟩) c U) (l.length - U) (c - U)] 35)).drew (w1.heap.size) #[.int .u64 x0, .int .u64 x1, .int .u64 (be (sub l 2 4)), .int .u64 U] 26 := (((Blk.newAt ((((w1.setCell ⟨w.heap.size, 0, none⟩ (.slice (some ⟨w1.heap.size, 0, none⟩) 4 4)).setCell ⟨w.heap.size, 1, none⟩ (.slice none 0 0)).setCell ⟨w.heap.size, 2, none⟩ (.slice none 0 0)).setCell ⟨w.heap.size, 3, none⟩ (.slice (cutA (some ⟨g, o, none⟩) c U) (l.length - U) (c - U))) #[.int .u64 x0, .int .u64 x1, .int .u64 (be (sub l 2 4)), .int .u64 U] 26 (w1.heap.size) (by simp)).alloc (.cells #[.slice (some ⟨w1.heap.size, 0, none⟩) 4 4, .slice none 0 0, .slice none 0 0, .slice (cutA (some ⟨g, o, none⟩) c U) (l.length - U) (c - U)] 35)).same rfl)
    have cf := kf.cell
    generalize ((((((w1.setCell ⟨w.heap.size, 0, none⟩ (.slice (some ⟨w1.heap.size, 0, none⟩) 4 4)).setCell ⟨w.heap.size, 1, none⟩ (.slice none 0 0)).setCell ⟨w.heap.size, 2, none⟩ (.slice none 0 0)).setCell ⟨w.heap.size, 3, none⟩ (.slice (cutA (some ⟨g, o, none⟩) c U) (l.length - U) (c - U))).alloc (.cells #[.int .u64 x0, .int .u64 x1, .int .u64 (be (sub l 2 4)), .int .u64 U] 26)).alloc (.cells #[.slice (some ⟨w1.heap.size, 0, none⟩) 4 4, .slice none 0 0, .slice none 0 0, .slice (cutA (some ⟨g, o, none⟩) c U) (l.length - U) (c - U)] 35)).drew = WF at *
    refine bodyPost_ret (v := .tuple #[.agg #[.slice (some ⟨w1.heap.size, 0, none⟩) 4 4, .slice none 0 0, .slice none 0 0, .slice (cutA (some ⟨g, o, none⟩) c U) (l.length - U) (c - U)], .bool true, .bool true]) (by simp [results, Try.results43, go_sem, cf]) rfl ?_
    refine ⟨_, rfl, ⟨_, _, _, _, rfl, ?_, DataV.nil _ _, PartsV.nil _ _, ?_⟩, BF⟩
    · exact NumV.of_block _ (.inr (by omega)) kn.heap rfl rfl
    · exact ((HH.out.below BF).cut U l.length (by omega) (by omega)).bytV (cutA_inF (HA.out.mono fun _ h => .inl h) (fun _ => by omega)) (HB.out.sub _ _)
  · have BF : Bl w ((((((w1.setCell ⟨w.heap.size, 0, none⟩ (.slice (some ⟨w1.heap.size + 1, 0, none⟩) 4 4)).setCell ⟨w.heap.size, 1, none⟩ (.slice none 0 0)).setCell ⟨w.heap.size, 2, none⟩ (.slice none 0 0)).setCell ⟨w.heap.size, 3, none⟩ (.slice (cutA (some ⟨g, o, none⟩) c U) (l.length - U) (c - U))).alloc (.cells #[.slice (some ⟨w1.heap.size + 1, 0, none⟩) 4 4, .slice none 0 0, .slice none 0 0, .slice (cutA (some ⟨g, o, none⟩) c U) (l.length - U) (c - U)] 35)).alloc (.cells #[.int .u64 x0, .int .u64 x1, .int .u64 (be (sub l 2 4)), .int .u64 U] 26)).drew := (((Bl.boxed B1 (Nat.le_refl _) _ _ _ _).alloc (by simp; omega) _).alloc (by simp; omega) _).drew
    have kf : Blk ((((((w1.setCell ⟨w.heap.size, 0, none⟩ (.slice (some ⟨w1.heap.size + 1, 0, none⟩) 4 4)).setCell ⟨w.heap.size, 1, none⟩ (.slice none 0 0)).setCell ⟨w.heap.size, 2, none⟩ (.slice none 0 0)).setCell ⟨w.heap.size, 3, none⟩ (.slice (cutA (some ⟨g, o, none⟩) c U) (l.length - U) (c - U))).alloc (.cells #[.slice (some ⟨w1.heap.size + 1, 0, none⟩) 4 4, .slice none 0 0, .slice none 0 0, .slice (cutA (some ⟨g, o, none⟩) c U) (l.length - U) (c - U)] 35)).alloc (.cells #[.int .u64 x0, .int .u64 x1, .int .u64 (be (sub l 2 4)), .int .u64 U] 26)).drew w.heap.size #[.slice (some ⟨w1.heap.size + 1, 0, none⟩) 4 4, .slice none 0 0, .slice none 0 0, .slice (cutA (some ⟨g, o, none⟩) c U) (l.length - U) (c - U)] 35 := (((((((kr.set 0 _).set 1 _).set 2 _).set 3 _).alloc _).alloc _).same rfl)
    have kn : Blk ((((((w1.setCell ⟨w.heap.size, 0, none⟩ (.slice (some ⟨w1.heap.size + 1, 0, none⟩) 4 4)).setCell ⟨w.heap.size, 1, none⟩ (.slice none 0 0)).setCell ⟨w.heap.size, 2, none⟩ (.slice none 0 0)).setCell ⟨w.heap.size, 3, none⟩ (.slice (cutA (some ⟨g, o, none⟩) c U) (l.length - U) (c - U))).alloc (.cells #[.slice (some ⟨w1.heap.size + 1, 0, none⟩) 4 4, .slice none 0 0, .slice none 0 0, .slice (cutA (some ⟨g, o, none⟩) c U) (l.length - U) (c - U)] 35)).alloc (.cells #[.int .u64 x0, .int .u64 x1, .int .u64 (be (sub l 2 4)), .int .u64 U] 26)).drew (w1.heap.size + 1) #[.int .u64 x0, .int .u64 x1, .int .u64 (be (sub l 2 4)), .int .u64 U] 26 := ((Blk.newAt (((((w1.setCell ⟨w.heap.size, 0, none⟩ (.slice (some ⟨w1.heap.size + 1, 0, none⟩) 4 4)).setCell ⟨w.heap.size, 1, none⟩ (.slice none 0 0)).setCell ⟨w.heap.size, 2, none⟩ (.slice none 0 0)).setCell ⟨w.heap.size, 3, none⟩ (.slice (cutA (some ⟨g, o, none⟩) c U) (l.length - U) (c - U))).alloc (.cells #[.slice (some ⟨w1.heap.size + 1, 0, none⟩) 4 4, .slice none 0 0, .slice none 0 0, .slice (cutA (some ⟨g, o, none⟩) c U) (l.length - U) (c - U)] 35)) #[.int .u64 x0, .int .u64 x1, .int .u64 (be (sub l 2 4)), .int .u64 U] 26 (w1.heap.size + 1) (by simp)).same rfl)
    have cf := kf.cell
    generalize ((((((w1.setCell ⟨w.heap.size, 0, none⟩ (.slice (some ⟨w1.heap.size + 1, 0, none⟩) 4 4)).setCell ⟨w.heap.size, 1, none⟩ (.slice none 0 0)).setCell ⟨w.heap.size, 2, none⟩ (.slice none 0 0)).setCell ⟨w.heap.size, 3, none⟩ (.slice (cutA (some ⟨g, o, none⟩) c U) (l.length - U) (c - U))).alloc (.cells #[.slice (some ⟨w1.heap.size + 1, 0, none⟩) 4 4, .slice none 0 0, .slice none 0 0, .slice (cutA (some ⟨g, o, none⟩) c U) (l.length - U) (c - U)] 35)).alloc (.cells #[.int .u64 x0, .int .u64 x1, .int .u64 (be (sub l 2 4)), .int .u64 U] 26)).drew = WF at *
    refine bodyPost_ret (v := .tuple #[.agg #[.slice (some ⟨w1.heap.size + 1, 0, none⟩) 4 4, .slice none 0 0, .slice none 0 0, .slice (cutA (some ⟨g, o, none⟩) c U) (l.length - U) (c - U)], .bool true, .bool true]) (by simp [results, Try.results43, go_sem, cf]) rfl ?_
    refine ⟨_, rfl, ⟨_, _, _, _, rfl, ?_, DataV.nil _ _, PartsV.nil _ _, ?_⟩, BF⟩
    · exact NumV.of_block _ (.inr (by omega)) kn.heap rfl rfl
    · exact ((HH.out.below BF).cut U l.length (by omega) (by omega)).bytV (cutA_inF (HA.out.mono fun _ h => .inl h) (fun _ => by omega)) (HB.out.sub _ _)
end Go.Proofs.Ytoljdgfbkebgcaa
namespace Go.Proofs.Ytoljdgfbkebgcaa
open Go.RowKit
set_option linter.unusedVariables false
theorem decEmp_at (l : List Int) (hl : By l) (hk : kindOf (l.getD 0 0) = ⟨#[115, 99, 116, 112, 101, 109, 112, 116, 121]⟩) (h4' : 4 ≤ chL l) (hup : up4 (chL l) ≤ l.length) (h0 : l.getD 0 0 ≠ 0) (hn2 : l.length ≤ 2000) : DecAt l := by
  intro A n c w h
  have hlen := h.len
  rw [hk]
  refine (decodedN_ok _ l _ _ _ hn2 (calledEmp_yes l hl h4' hup h0 hn2) (zzEmp_ok l hl h4' hup h0 hn2) A n c w h).mono ?_
  rintro e w1 ⟨A1, c1, gl, rfl, ho, r1, i1⟩
  exact Obj1.dec h0 rfl hup (by omega) rfl meth139 ho.bl ho.layer (by decide) rfl rfl r1 i1
theorem Emp_kind (l : List Int) (hl : By l) (hn : l.length ≤ 2147483647) (hk : kindOf (l.getD 0 0) = ⟨#[115, 99, 116, 112, 101, 109, 112, 116, 121]⟩) : KindAt l := by
  have hs : ((⟨#[115, 99, 116, 112, 101, 109, 112, 116, 121]⟩ : ByteArray).toList == [115, 99, 116, 112]) = false := by simp [go_sem]
  have hd : ((⟨#[115, 99, 116, 112, 101, 109, 112, 116, 121]⟩ : ByteArray).toList == [115, 99, 116, 112, 100, 97, 116, 97]) = false := by simp [go_sem]
  by_cases h4 : l.length < 4
  · exact KindAt.no hk nilLyr false true (sr_short _ l hs h4) rfl
  have hk' : ((kindOf (l.getD 0 0)).toList == (⟨#[115, 99, 116, 112, 101, 109, 112, 116, 121]⟩ : ByteArray).toList) = true := by rw [hk]; simp
  have h0 : l.getD 0 0 ≠ 0 := by
    intro h0
    rw [h0] at hk
    rw [← hk] at hd
    simp [kindOf, kDat, go_sem] at hd
  by_cases hL : chL l < 4
  · exact KindAt.no hk nilLyr false true (sr_low _ l hl hs (by omega) (by omega) hk' hL) rfl
  by_cases hlong : l.length < chL l
  · exact KindAt.no hk nilLyr false true (sr_long _ l hl hs (by omega) (by omega) hk' hd hlong) rfl
  by_cases hup : l.length < up4 (chL l)
  · exact KindAt.no hk nilLyr false false (sr_full _ l hl hs (by omega) (by omega) hk' hd (by omega) (by omega) hup) rfl
  exact ⟨_, true, true, by rw [hk]; exact srEmp_some l hl (by omega) (by omega) (by omega) hk, fun _ _ => ⟨by omega, by omega, ⟨_, rfl⟩, fun h => absurd h h0, fun h2 => decEmp_at l hl hk (by omega) (by omega) h0 h2⟩⟩
end Go.Proofs.Ytoljdgfbkebgcaa
namespace Go.Proofs.Ytoljdgfbkebgcaa
open Go.RowKit
set_option linter.unusedVariables false
set_option maxHeartbeats 4000000 in
set_option maxRecDepth 100000 in
theorem par_any (T L U : Int) (A : Option Addr) (n c : Nat) (l : List Int) (w : World) (h : Rd .u8 w A n c l) (hl : By l) (hn : n ≤ 2000) (b0 : 0 ≤ T ∧ T ≤ 65535) (b1 : 0 ≤ L ∧ L ≤ 65535) (b2 : 0 ≤ U ∧ U ≤ 100000) :
    Calls Try.prog 72 #[.agg #[.int .u16 T, .int .u16 L, .int .i64 U, .slice A n c]] w fun e w' => ∃ v0 v1, e = .returned (.agg #[v0, v1]) ∧ Bl w w' ∧ NumV (w.heap.size ≤ ·) w' v0 [T, L, U] ∧ BytV (w.heap.size ≤ ·) w' v1 l := by
  have H := Lib.hid h
  have HB := Lib.hid hl
  clear h hl
  go_enter Try.func72, Try.ntmps72
  go_wp2_with fail
  have kb : Blk ((w.alloc (.cells #[.int .u16 T, .int .u16 L, .int .i64 U, .slice A n c] 111)).alloc (.cells #[.slice none 0 0, .slice none 0 0] 57)) w.heap.size #[.int .u16 T, .int .u16 L, .int .i64 U, .slice A n c] 111 := (Blk.new w _ _).alloc _
  have kr : Blk ((w.alloc (.cells #[.int .u16 T, .int .u16 L, .int .i64 U, .slice A n c] 111)).alloc (.cells #[.slice none 0 0, .slice none 0 0] 57)) (w.heap.size + 1) #[.slice none 0 0, .slice none 0 0] 57 := Blk.newAt _ _ _ _ (by simp)
  have B0 : Bl w ((w.alloc (.cells #[.int .u16 T, .int .u16 L, .int .i64 U, .slice A n c] 111)).alloc (.cells #[.slice none 0 0, .slice none 0 0] 57)) := by go_grown
  generalize (w.alloc (.cells #[.int .u16 T, .int .u16 L, .int .i64 U, .slice A n c] 111)).alloc (.cells #[.slice none 0 0, .slice none 0 0] 57) = W at *
  have hz := kr.lt
  have hzw : w.heap.size ≤ w.heap.size + 1 := Nat.le_succ _
  generalize w.heap.size + 1 = gr at *
  have k0 : ∀ d os, (Sort.grow (redrawn W d) os).cell? ⟨w.heap.size, 0, none⟩ = some (.int .u16 T) := fun d os => cell_regrown (kb.cell 0) d os
  have k1 : ∀ d os, (Sort.grow (redrawn W d) os).cell? ⟨w.heap.size, 1, none⟩ = some (.int .u16 L) := fun d os => cell_regrown (kb.cell 1) d os
  have k2 : ∀ d os, (Sort.grow (redrawn W d) os).cell? ⟨w.heap.size, 2, none⟩ = some (.int .i64 U) := fun d os => cell_regrown (kb.cell 2) d os
  have k3 : ∀ d os, (Sort.grow (redrawn W d) os).cell? ⟨w.heap.size, 3, none⟩ = some (.slice A n c) := fun d os => cell_regrown (kb.cell 3) d os
  refine wp_region_float2 (S := Grw W) [true, true, true, true, true, true, true, true, true, false, true, true, false, false, false] [true, true, true, true, true, true, true, true, true, true, true, true, true, false, false] 9 12 13 (by kernel_rfl) (by kernel_rfl) (Grw.drew W) ?_
  simp only [selQ, selN, earlyN, pickL, List.cons_append, List.nil_append]
  repeat (first | go_big_quiet_skip | (go_big_quiet_want; go_big_quiet_op; go_big_quiet_on))
  have Bd : Bl W W.drew := (Bl.refl W).drew
  refine wpQuiet_nil ⟨?_, ?_⟩
  · refine wpN_want rfl (fun K hK => ?_)
    go_big_op
    have B1 : Bl W ((W.alloc (.cells #[.int .u64 T, .int .u64 L, .int .u64 U] 26)).drew) := ((Bl.refl W).trans (by go_grown)).drew
    have kn1 : Blk ((W.alloc (.cells #[.int .u64 T, .int .u64 L, .int .u64 U] 26)).drew) W.heap.size #[.int .u64 T, .int .u64 L, .int .u64 U] 26 := (Blk.new W _ _).same rfl
    have hs1 : W.heap.size ≤ ((W.alloc (.cells #[.int .u64 T, .int .u64 L, .int .u64 U] 26)).drew).heap.size := B1.size
    refine hK _ _ (Grw.of B1) ?_
    clear hK K
    refine wpN_want rfl (fun K hK => ?_)
    go_big_op
    (with_reducible refine (clone_any _ _ _ _ _ (H.out.below (B0.trans B1)) (by omega)).mono ?_)
    rintro e w2 ⟨⟨A1, c1, rfl, ho⟩, hb2⟩
    have BX : Bl W w2 := B1.trans hb2
    have kn := Blk.keep hb2 kn1
    refine hK _ _ (Grw.of BX) ?_
    clear hK K hb2 kn1 B1
    have kr2 := Blk.keep BX kr
    have cr := kr2.cell
    have fr := kr2.frozen
    have zr := kr2.lt
    have KN := Lib.hid kn
    have HO := Lib.hid ho
    clear kn ho k0 k1 k2 k3
    refine wpN_late ?_
    go_wp2_with fail
    refine NoPanic.normal ?_
    go_wp2_with fail
    have kf := (kr2.set 0 (.slice (some ⟨W.heap.size, 0, none⟩) 3 3)).set 1 (.slice A1 n c1)
    have cf := kf.cell
    have hng : W.heap.size ≠ gr := by omega
    have hgw : w.heap.size ≤ W.heap.size := by omega
    have knf := (KN.out.far (p := ⟨gr, 0, none⟩) hng (.slice (some ⟨W.heap.size, 0, none⟩) 3 3)).far (p := ⟨gr, 1, none⟩) hng (.slice A1 n c1)
    have ho1 := own_set HO.out kr2 (by decide) 0 (.slice (some ⟨W.heap.size, 0, none⟩) 3 3)
    have ho2 := own_set ho1 (kr2.set 0 (.slice (some ⟨W.heap.size, 0, none⟩) 3 3)) (by decide) 1 (.slice A1 n c1)
    have BF := Below.setCell (Below.setCell (B0.trans BX) (p := ⟨gr, 0, none⟩) hzw (.slice (some ⟨W.heap.size, 0, none⟩) 3 3)) (p := ⟨gr, 1, none⟩) hzw (.slice A1 n c1)
    clear cr fr zr
    refine bodyPost_ret (v := .agg #[.slice (some ⟨W.heap.size, 0, none⟩) 3 3, .slice A1 n c1]) (by simp [results, Try.results72, go_sem, cf]) rfl ⟨_, _, rfl, BF, NumV.of_block [T, L, U] hgw knf.heap rfl rfl, own_bytV ho2 HB.out (fun k hk _ => by first | omega | (simp at hk; omega))⟩
  · refine wpN_want rfl (fun K hK => ?_)
    go_big_op
    (with_reducible refine (clone_any _ _ _ _ _ (H.out.below (B0.trans Bd)) (by omega)).mono ?_)
    rintro e w2 ⟨⟨A1, c1, rfl, ho'⟩, hb2⟩
    have B1 : Bl W w2 := Bd.trans hb2
    have hs1 : W.heap.size ≤ w2.heap.size := B1.size
    refine hK _ _ (Grw.of B1) ?_
    clear hK K
    refine wpN_want rfl (fun K hK => ?_)
    go_big_op
    have BX : Bl W (w2.alloc (.cells #[.int .u64 T, .int .u64 L, .int .u64 U] 26)) := B1.trans (by go_grown)
    have kn : Blk (w2.alloc (.cells #[.int .u64 T, .int .u64 L, .int .u64 U] 26)) w2.heap.size #[.int .u64 T, .int .u64 L, .int .u64 U] 26 := Blk.new w2 _ _
    have ho := own_bl ho' (show Bl w2 (w2.alloc (.cells #[.int .u64 T, .int .u64 L, .int .u64 U] 26)) by go_grown)
    refine hK _ _ (Grw.of BX) ?_
    clear hK K hb2 ho'
    have kr2 := Blk.keep BX kr
    have cr := kr2.cell
    have fr := kr2.frozen
    have zr := kr2.lt
    have KN := Lib.hid kn
    have HO := Lib.hid ho
    clear kn ho k0 k1 k2 k3
    refine wpN_late ?_
    go_wp2_with fail
    refine NoPanic.normal ?_
    go_wp2_with fail
    have kf := (kr2.set 0 (.slice (some ⟨w2.heap.size, 0, none⟩) 3 3)).set 1 (.slice A1 n c1)
    have cf := kf.cell
    have hng : w2.heap.size ≠ gr := by omega
    have hgw : w.heap.size ≤ w2.heap.size := by omega
    have knf := (KN.out.far (p := ⟨gr, 0, none⟩) hng (.slice (some ⟨w2.heap.size, 0, none⟩) 3 3)).far (p := ⟨gr, 1, none⟩) hng (.slice A1 n c1)
    have ho1 := own_set HO.out kr2 (by decide) 0 (.slice (some ⟨w2.heap.size, 0, none⟩) 3 3)
    have ho2 := own_set ho1 (kr2.set 0 (.slice (some ⟨w2.heap.size, 0, none⟩) 3 3)) (by decide) 1 (.slice A1 n c1)
    have BF := Below.setCell (Below.setCell (B0.trans BX) (p := ⟨gr, 0, none⟩) hzw (.slice (some ⟨w2.heap.size, 0, none⟩) 3 3)) (p := ⟨gr, 1, none⟩) hzw (.slice A1 n c1)
    clear cr fr zr
    refine bodyPost_ret (v := .agg #[.slice (some ⟨w2.heap.size, 0, none⟩) 3 3, .slice A1 n c1]) (by simp [results, Try.results72, go_sem, cf]) rfl ⟨_, _, rfl, BF, NumV.of_block [T, L, U] hgw knf.heap rfl rfl, own_bytV ho2 HB.out (fun k hk _ => by first | omega | (simp at hk; omega))⟩
end Go.Proofs.Ytoljdgfbkebgcaa
namespace Go.Proofs.Ytoljdgfbkebgcaa
open Go.RowKit
set_option linter.unusedVariables false
/-- Cells of decoded parameters, and the parts that they are. -/
def PCells (w : World) (vs : List Value) (ps : List Prt) : Prop :=
  vs.length = ps.length * 4 ∧ ∀ i, i < ps.length → ∃ (T L U : Int) (A : Option Addr) (n c : Nat), vs[i * 4]? = some (.int .u16 T) ∧ vs[i * 4 + 1]? = some (.int .u16 L) ∧ vs[i * 4 + 2]? = some (.int .i64 U) ∧ vs[i * 4 + 3]? = some (.slice A n c) ∧
    (ps.getD i Prt.nil).nums = [T, L, U] ∧ (0 ≤ T ∧ T ≤ 65535) ∧ (0 ≤ L ∧ L ≤ 65535) ∧ (0 ≤ U ∧ U ≤ 100000) ∧ Rd .u8 w A n c (ps.getD i Prt.nil).data ∧ By (ps.getD i Prt.nil).data ∧ n ≤ 2000
theorem PCells.nil (w : World) : PCells w [] [] := ⟨rfl, fun i hi => by simp at hi⟩
theorem PCells.cons {w : World} {vs : List Value} {ps : List Prt} {P : Prt} (h : PCells w vs ps) (T L U : Int) (A : Option Addr) (n c : Nat) (hN : P.nums = [T, L, U]) (hT : 0 ≤ T ∧ T ≤ 65535) (hL : 0 ≤ L ∧ L ≤ 65535) (hU : 0 ≤ U ∧ U ≤ 100000) (r : Rd .u8 w A n c P.data) (hb : By P.data) (hn : n ≤ 2000) :
    PCells w ([.int .u16 T, .int .u16 L, .int .i64 U, .slice A n c] ++ vs) (P :: ps) := by
  refine ⟨by simp [h.1]; omega, fun i hi => ?_⟩
  cases i with
  | zero => exact ⟨T, L, U, A, n, c, rfl, rfl, rfl, rfl, hN, hT, hL, hU, r, hb, hn⟩
  | succ i =>
    obtain ⟨T', L', U', A', n', c', h0, h1, h2, h3, hr⟩ := h.2 i (by simpa using hi)
    refine ⟨T', L', U', A', n', c', ?_, ?_, ?_, ?_, by simpa using hr⟩
    · rw [List.getElem?_append_right (by simp; omega)]; rw [← h0]; congr 1; simp; omega
    · rw [List.getElem?_append_right (by simp; omega)]; rw [← h1]; congr 1; simp; omega
    · rw [List.getElem?_append_right (by simp; omega)]; rw [← h2]; congr 1; simp; omega
    · rw [List.getElem?_append_right (by simp; omega)]; rw [← h3]; congr 1; simp; omega
theorem PCells.below {w w' : World} {vs : List Value} {ps : List Prt} (h : PCells w vs ps) (hb : Bl w w') : PCells w' vs ps :=
  ⟨h.1, fun i hi => by
    obtain ⟨T', L', U', A', n', c', h0, h1, h2, h3, h4, h5, h6, h7, r, hr⟩ := h.2 i hi
    exact ⟨T', L', U', A', n', c', h0, h1, h2, h3, h4, h5, h6, h7, r.below hb, hr⟩⟩
theorem pcells_of (m : Nat) (w : World) (A : Option Addr) (n c : Nat) (l : List Int) (ps : List Prt) (hm : l.length ≤ m) (h : Rd .u8 w A n c l) (hl : By l) (hn : n ≤ 2000) (hf : fullOf l = true) (hp : prmsOf l = some ps) : PCells w (prmCells A c l) ps := by
  induction m generalizing A n c l ps with
  | zero =>
    rw [prmsOf_nil l (by omega)] at hp
    rw [prmCells_nil _ _ _ (by omega)]
    simp at hp
    rw [hp]
    exact PCells.nil w
  | succ m ih =>
    by_cases h0 : l.length = 0
    · rw [prmsOf_nil l h0] at hp
      rw [prmCells_nil _ _ _ h0]
      simp at hp
      rw [hp]
      exact PCells.nil w
    · obtain ⟨h4, hc, hu, hq⟩ := fullOf_step l h0 hf
      have hul : chL l ≤ up4 (chL l) := by unfold up4; omega
      have hlen := h.len
      rw [prmCells_cons _ _ _ h0 hf]
      rw [prmsOf_cons l h4 hc (by omega), Nat.min_eq_left hu] at hp
      obtain ⟨ps', hp', rfl⟩ : ∃ ps', prmsOf (l.drop (up4 (chL l))) = some ps' ∧ prmAt l :: ps' = ps := by simpa using hp
      have hr := h.cut (up4 (chL l)) n (by omega) (Nat.le_refl _)
      have es : sub l (up4 (chL l)) n = l.drop (up4 (chL l)) := by rw [← hlen]; simp [sub]
      rw [es] at hr
      have hb : By (l.drop (up4 (chL l))) := by rw [← es]; exact hl.sub _ _
      have hi := ih _ _ _ _ ps' (by rw [List.length_drop]; omega) hr hb (by omega) hq hp'
      have b0 := be_bd2 (sub l 0 2) (hl.sub _ _) (by rw [sub_length _ _ _ (by omega)])
      have b1 := be_bd2 (sub l 2 4) (hl.sub _ _) (by rw [sub_length _ _ _ (by omega)])
      have e1 := chL_int l hl
      refine PCells.cons hi (be (sub l 0 2)) (be (sub l 2 4)) (up4 (chL l) : Nat) (cutA A c 4) (chL l - 4) (c - 4) ?_ b0 b1 ⟨by omega, by omega⟩ (h.cut 4 (chL l) hc (by omega)) (hl.sub _ _) (by omega)
      unfold prmAt
      rw [e1]
theorem prms_len (m : Nat) (l : List Int) (ps : List Prt) (hm : l.length ≤ m) (hp : prmsOf l = some ps) : ps.length ≤ l.length ∧ ∀ p ∈ ps, p.nums.length = 3 ∧ p.data.length ≤ l.length := by
  induction m generalizing l ps with
  | zero => rw [prmsOf_nil l (by omega)] at hp; simp at hp; subst hp; simp
  | succ m ih =>
    by_cases h0 : l.length = 0
    · rw [prmsOf_nil l h0] at hp; simp at hp; subst hp; simp
    · by_cases hb : l.length < 4 ∨ chL l < 4 ∨ l.length < chL l
      · rw [prmsOf_bad l h0 hb] at hp; simp at hp
      · rw [prmsOf_cons l (by omega) (by omega) (by omega)] at hp
        obtain ⟨ps', hp', rfl⟩ : ∃ ps', prmsOf (l.drop (min (up4 (chL l)) l.length)) = some ps' ∧ prmAt l :: ps' = ps := by simpa using hp
        have hu : 4 ≤ up4 (chL l) := by unfold up4; omega
        have hd : (l.drop (min (up4 (chL l)) l.length)).length + 4 ≤ l.length := by rw [List.length_drop]; omega
        obtain ⟨h1, h2⟩ := ih _ ps' (by omega) hp'
        refine ⟨by simp; omega, fun p hp => ?_⟩
        rcases List.mem_cons.1 hp with rfl | hp
        · exact ⟨rfl, by unfold prmAt; simp only; rw [sub_length _ _ _ (by omega)]; omega⟩
        · have := h2 p hp
          exact ⟨this.1, by omega⟩
end Go.Proofs.Ytoljdgfbkebgcaa
