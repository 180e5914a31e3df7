/- impl.told: sctpcookieecho. ZZDecode, called, impl.Read: sctpcookieecho. spec.Read: sctpcookieecho, where there is a chunk. spec.Read and decoded, of a chunk of the kind sctpcookieecho. -/
import Derived.Test.YtoljdgfbkebgcaaPq03
import Derived.Test.YtoljdgfbkebgcaaPq04
import Derived.Test.YtoljdgfbkebgcaaPq07
import Derived.Test.YtoljdgfbkebgcaaPq10
namespace Go.Proofs.Ytoljdgfbkebgcaa
open Go.RowKit
set_option linter.unusedVariables false
set_option maxHeartbeats 4000000 in
set_option maxRecDepth 100000 in
theorem toldCoo_any (A1 A : Option Addr) (n c1 m c gl : Nat) (l p : List Int) (w : World) (hl : By l) (h4 : 4 ≤ chL l) (hup : up4 (chL l) ≤ n) (hn2 : n ≤ 2000) (r : Rd .u8 w A1 n c1 l) (k : Blk w gl ((chk A1 n c1 l).push (.slice (cutA A1 c1 4) (chL l - 4) (c1 - 4))) 138) (h : Rd .u8 w A m c p) (hp : By p) (hm : m ≤ 2000) :
    Calls Try.prog 49 #[.iface 136 (.pointer (some ⟨gl, 0, none⟩)), .slice A m c] w fun e w' =>
      Got w w' e ⟨[l.getD 0 0, l.getD 1 0, be (sub l 2 4), (up4 (chL l) : Int)], [sub l 4 (chL l)], [], p⟩ := by
  have u4 : chL l ≤ up4 (chL l) := by unfold up4; omega
  have H := Lib.hid h
  have HP := Lib.hid hp
  have R := Lib.hid r
  have HB := Lib.hid hl
  have hlen := r.len
  have b0 := hl.getD 0
  have b1 := hl.getD 1
  have b2 := be_bd2 (sub l 2 4) (hl.sub _ _) (by rw [sub_length _ _ _ (by omega)])
  have b3 : (0 : Int) ≤ (up4 (chL l) : Int) ∧ (up4 (chL l) : Int) ≤ 2147483647 := by omega
  have hk : Blk w gl (#[.slice A1 (up4 (chL l)) c1, .slice (cutA A1 c1 (up4 (chL l))) (n - up4 (chL l)) (c1 - up4 (chL l)), .int .u8 (l.getD 0 0), .int .u8 (l.getD 1 0), .int .u16 (be (sub l 2 4)), .int .i64 (up4 (chL l)), .slice (cutA A1 c1 4) (chL l - 4) (c1 - 4)]) 138 := k
  generalize l.getD 0 0 = x0 at *
  generalize l.getD 1 0 = x1 at *
  generalize be (sub l 2 4) = L at *
  generalize up4 (chL l) = U at *
  generalize chL l = V at *
  clear h hp hl r k
  have t0 := ta_136_90
  have t1 := ta_136_97
  have t2 := ta_136_105
  have t3 := ta_136_115
  have t4 := ta_136_120
  have t5 := ta_136_125
  have t6 := ta_136_130
  have t7 := ta_136_133
  have t8 := ta_136
  go_enter Try.func49, Try.ntmps49
  go_wp2_with fail
  (with_reducible refine (clone_any _ _ _ _ _ (H.out.below (by go_grown)) (by omega)).mono ?_)
  rintro e w1 ⟨⟨A2, c2, rfl, ho⟩, hb1⟩
  have kr := Blk.keep hb1 (Blk.new w _ _)
  have kl := Blk.keep hb1 (hk.alloc _)
  have OW := Lib.hid ho
  have cl := kl.cell
  have zl := kl.lt
  have cr := kr.cell
  have fr := kr.frozen
  have zr := kr.lt
  have B0 : Bl w w1 := Bl.trans (by go_grown) hb1
  have v3 := Lib.hid (own_bytV (F := fun k => w.heap.size < k ∧ k ≠ w1.heap.size) ho HP.out (fun k h1 h2 => by simp at h1; exact ⟨by omega, by omega⟩))
  clear ho
  go_wp2_with fail
  have kb := Blk.new w1 #[.slice none 0 0, .slice none 0 0, .slice none 0 0, .slice A2 m c2] 35
  have kl1 := kl.alloc (.cells #[.slice none 0 0, .slice none 0 0, .slice none 0 0, .slice A2 m c2] 35)
  have kr1 := kr.alloc (.cells #[.slice none 0 0, .slice none 0 0, .slice none 0 0, .slice A2 m c2] 35)
  have B1 : Bl w (w1.alloc (.cells #[.slice none 0 0, .slice none 0 0, .slice none 0 0, .slice A2 m c2] 35)) := B0.trans (by go_grown)
  have v31 := Lib.hid (BytV.below v3.out (w' := w1.alloc (.cells #[.slice none 0 0, .slice none 0 0, .slice none 0 0, .slice A2 m c2] 35)) (by go_grown))
  clear v3 cl zl cr fr kl kr hb1 hk OW B0
  have zr' : w.heap.size < w1.heap.size := zr
  generalize w1.alloc (.cells #[.slice none 0 0, .slice none 0 0, .slice none 0 0, .slice A2 m c2] 35) = W at *
  generalize w1.heap.size = gb at *
  clear zr
  (with_reducible refine (chunkv_any _ _ _ _ _ _ _ _ _ _ _ b0 b1 b2 b3).mono ?_)
  rintro e w2 ⟨rfl, hb2, kn, _⟩
  have kb2 := Blk.keep hb2 kb
  have kr2 := Blk.keep hb2 kr1
  have kl2 := Blk.keep hb2 kl1
  have zW : gb < W.heap.size := kb.lt
  have B2 := B1.trans hb2
  have cb := kb2.cell
  have fb := kb2.frozen
  have zb := kb2.lt
  have cr := kr2.cell
  have fr := kr2.frozen
  have zr := kr2.lt
  have cl := kl2.cell
  have zl := kl2.lt
  have hne : w.heap.size ≠ gb := Nat.ne_of_lt zr'
  go_wp2_with fail
  have hv0 := Lib.hid (NumV.of_block (F := fun k => w.heap.size < k ∧ k ≠ gb) [x0, x1, L, (U : Int)] (show _ ∧ _ from ⟨by omega, by omega⟩) kn.heap rfl rfl)
  have B3 : Bl w (w2.setCell ⟨gb, 0, none⟩ (.slice (some ⟨W.heap.size + 1, 0, none⟩) 4 4)) := Below.setCell B2 (Nat.le_of_lt zr') _
  have rk : Rd .u8 (w2.setCell ⟨gb, 0, none⟩ (.slice (some ⟨W.heap.size + 1, 0, none⟩) 4 4)) (cutA A1 c1 4) (V - 4) (c1 - 4) (sub l 4 V) := (R.out.cut 4 V (by omega) (by omega)).below B3
  have kb3 := kb2.set 0 (.slice (some ⟨W.heap.size + 1, 0, none⟩) 4 4)
  have kr3 := kr2.far (p := ⟨gb, 0, none⟩) hne (.slice (some ⟨W.heap.size + 1, 0, none⟩) 4 4)
  have kn3 := kn.far (p := ⟨gb, 0, none⟩) (by show W.heap.size + 1 ≠ gb; omega) (.slice (some ⟨W.heap.size + 1, 0, none⟩) 4 4)
  have v33 := Lib.hid (BytV.keepF (BytV.below v31.out hb2) ((KeepF.refl _ w2).setCell (p := ⟨gb, 0, none⟩) (fun h => h.2 rfl) (.slice (some ⟨W.heap.size + 1, 0, none⟩) 4 4)))
  have zg : w.heap.size < (w2.setCell ⟨gb, 0, none⟩ (.slice (some ⟨W.heap.size + 1, 0, none⟩) 4 4)).heap.size := kr3.lt
  have zg2 : gb < (w2.setCell ⟨gb, 0, none⟩ (.slice (some ⟨W.heap.size + 1, 0, none⟩) 4 4)).heap.size := kb3.lt
  clear cb fb zb cr fr zr cl zl kl2 hv0 v31 hb2 B2
  generalize w2.setCell ⟨gb, 0, none⟩ (.slice (some ⟨W.heap.size + 1, 0, none⟩) 4 4) = W3 at *
  (with_reducible refine (clone_any _ _ _ _ _ rk (by omega)).mono ?_)
  rintro e w4 ⟨⟨A5, c5, rfl, ho5⟩, hb4⟩
  have hd5 := Lib.hid (own_bytV (F := fun k => w.heap.size < k ∧ k ≠ gb) ho5 (HB.out.sub _ _) (fun k h1 h2 => ⟨by omega, by omega⟩))
  have kb4 := Blk.keep hb4 kb3
  have kr4 := Blk.keep hb4 kr3
  have kn4 := Blk.keep hb4 kn3
  have v34 := Lib.hid (BytV.below v33.out hb4)
  have B4 := B3.trans hb4
  have cb := kb4.cell
  have fb := kb4.frozen
  have zb := kb4.lt
  have cr := kr4.cell
  have fr := kr4.frozen
  have zr := kr4.lt
  clear ho5
  go_wp2_with fail
  have KF : KeepF (fun k => w.heap.size < k ∧ k ≠ gb) w4 (((((w4.setCell ⟨gb, 1, none⟩ (.slice (some ⟨w4.heap.size, 0, none⟩) 1 1)).setCell ⟨w.heap.size, 0, none⟩ (.slice (some ⟨W.heap.size + 1, 0, none⟩) 4 4)).setCell ⟨w.heap.size, 1, none⟩ (.slice (some ⟨w4.heap.size, 0, none⟩) 1 1)).setCell ⟨w.heap.size, 2, none⟩ (.slice none 0 0)).setCell ⟨w.heap.size, 3, none⟩ (.slice A2 m c2)) := (((((KeepF.refl _ w4).setCell (p := ⟨gb, 1, none⟩) (fun h => h.2 rfl) _).setCell (p := ⟨w.heap.size, 0, none⟩) (fun h => Nat.lt_irrefl _ h.1) _).setCell (p := ⟨w.heap.size, 1, none⟩) (fun h => Nat.lt_irrefl _ h.1) _).setCell (p := ⟨w.heap.size, 2, none⟩) (fun h => Nat.lt_irrefl _ h.1) _).setCell (p := ⟨w.heap.size, 3, none⟩) (fun h => Nat.lt_irrefl _ h.1) _
  have BF : Bl w (((((((w4.setCell ⟨gb, 1, none⟩ (.slice (some ⟨w4.heap.size, 0, none⟩) 1 1)).setCell ⟨w.heap.size, 0, none⟩ (.slice (some ⟨W.heap.size + 1, 0, none⟩) 4 4)).setCell ⟨w.heap.size, 1, none⟩ (.slice (some ⟨w4.heap.size, 0, none⟩) 1 1)).setCell ⟨w.heap.size, 2, none⟩ (.slice none 0 0)).setCell ⟨w.heap.size, 3, none⟩ (.slice A2 m c2)).alloc (.cells #[.slice A5 (V - 4) c5] 24))) := (((((Below.setCell B4 (Nat.le_of_lt zr') _).setCell (Nat.le_refl _) _).setCell (Nat.le_refl _) _).setCell (Nat.le_refl _) _).setCell (Nat.le_refl _) _).alloc (by simp; omega) _
  have kf : Blk (((((((w4.setCell ⟨gb, 1, none⟩ (.slice (some ⟨w4.heap.size, 0, none⟩) 1 1)).setCell ⟨w.heap.size, 0, none⟩ (.slice (some ⟨W.heap.size + 1, 0, none⟩) 4 4)).setCell ⟨w.heap.size, 1, none⟩ (.slice (some ⟨w4.heap.size, 0, none⟩) 1 1)).setCell ⟨w.heap.size, 2, none⟩ (.slice none 0 0)).setCell ⟨w.heap.size, 3, none⟩ (.slice A2 m c2)).alloc (.cells #[.slice A5 (V - 4) c5] 24))) w.heap.size #[.slice (some ⟨W.heap.size + 1, 0, none⟩) 4 4, .slice (some ⟨w4.heap.size, 0, none⟩) 1 1, .slice none 0 0, .slice A2 m c2] 35 := (((((kr4.far (p := ⟨gb, 1, none⟩) hne _).set 0 _).set 1 _).set 2 _).set 3 _).alloc _
  have kd : Blk (((((((w4.setCell ⟨gb, 1, none⟩ (.slice (some ⟨w4.heap.size, 0, none⟩) 1 1)).setCell ⟨w.heap.size, 0, none⟩ (.slice (some ⟨W.heap.size + 1, 0, none⟩) 4 4)).setCell ⟨w.heap.size, 1, none⟩ (.slice (some ⟨w4.heap.size, 0, none⟩) 1 1)).setCell ⟨w.heap.size, 2, none⟩ (.slice none 0 0)).setCell ⟨w.heap.size, 3, none⟩ (.slice A2 m c2)).alloc (.cells #[.slice A5 (V - 4) c5] 24))) w4.heap.size #[.slice A5 (V - 4) c5] 24 := Blk.newAt _ _ _ _ (by simp)
  have cf := kf.cell
  have e0 := NumV.below (NumV.keepF (NumV.of_block (F := fun k => w.heap.size < k ∧ k ≠ gb) [x0, x1, L, (U : Int)] (show _ ∧ _ from ⟨by omega, by omega⟩) kn4.heap rfl rfl) KF) (w' := ((((((w4.setCell ⟨gb, 1, none⟩ (.slice (some ⟨w4.heap.size, 0, none⟩) 1 1)).setCell ⟨w.heap.size, 0, none⟩ (.slice (some ⟨W.heap.size + 1, 0, none⟩) 4 4)).setCell ⟨w.heap.size, 1, none⟩ (.slice (some ⟨w4.heap.size, 0, none⟩) 1 1)).setCell ⟨w.heap.size, 2, none⟩ (.slice none 0 0)).setCell ⟨w.heap.size, 3, none⟩ (.slice A2 m c2)).alloc (.cells #[.slice A5 (V - 4) c5] 24))) (by go_grown)
  have e1 := DataV.one kd (show (fun k => w.heap.size < k ∧ k ≠ gb) _ from ⟨by omega, by omega⟩) (BytV.below (BytV.keepF hd5.out KF) (w' := ((((((w4.setCell ⟨gb, 1, none⟩ (.slice (some ⟨w4.heap.size, 0, none⟩) 1 1)).setCell ⟨w.heap.size, 0, none⟩ (.slice (some ⟨W.heap.size + 1, 0, none⟩) 4 4)).setCell ⟨w.heap.size, 1, none⟩ (.slice (some ⟨w4.heap.size, 0, none⟩) 1 1)).setCell ⟨w.heap.size, 2, none⟩ (.slice none 0 0)).setCell ⟨w.heap.size, 3, none⟩ (.slice A2 m c2)).alloc (.cells #[.slice A5 (V - 4) c5] 24))) (by go_grown))
  have e3 := BytV.below (BytV.keepF v34.out KF) (w' := ((((((w4.setCell ⟨gb, 1, none⟩ (.slice (some ⟨w4.heap.size, 0, none⟩) 1 1)).setCell ⟨w.heap.size, 0, none⟩ (.slice (some ⟨W.heap.size + 1, 0, none⟩) 4 4)).setCell ⟨w.heap.size, 1, none⟩ (.slice (some ⟨w4.heap.size, 0, none⟩) 1 1)).setCell ⟨w.heap.size, 2, none⟩ (.slice none 0 0)).setCell ⟨w.heap.size, 3, none⟩ (.slice A2 m c2)).alloc (.cells #[.slice A5 (V - 4) c5] 24))) (by go_grown)
  generalize ((((((w4.setCell ⟨gb, 1, none⟩ (.slice (some ⟨w4.heap.size, 0, none⟩) 1 1)).setCell ⟨w.heap.size, 0, none⟩ (.slice (some ⟨W.heap.size + 1, 0, none⟩) 4 4)).setCell ⟨w.heap.size, 1, none⟩ (.slice (some ⟨w4.heap.size, 0, none⟩) 1 1)).setCell ⟨w.heap.size, 2, none⟩ (.slice none 0 0)).setCell ⟨w.heap.size, 3, none⟩ (.slice A2 m c2)).alloc (.cells #[.slice A5 (V - 4) c5] 24)) = WF at *
  refine bodyPost_ret (v := .tuple #[.agg #[.slice (some ⟨W.heap.size + 1, 0, none⟩) 4 4, .slice (some ⟨w4.heap.size, 0, none⟩) 1 1, .slice none 0 0, .slice A2 m c2], .bool true]) (by simp [results, Try.results49, go_sem, cf]) rfl ⟨_, rfl, LyrV.mono (F := fun k => w.heap.size < k ∧ k ≠ gb) ⟨_, _, _, _, rfl, e0, e1, PartsV.nil _ _, e3⟩ (fun k h => Nat.le_of_lt h.1), BF⟩
end Go.Proofs.Ytoljdgfbkebgcaa
namespace Go.Proofs.Ytoljdgfbkebgcaa
open Go.RowKit
set_option linter.unusedVariables false
def sCoo : ByteArray := ⟨#[115, 99, 116, 112, 99, 111, 111, 107, 105, 101, 101, 99, 104, 111]⟩
set_option maxHeartbeats 1000000 in
theorem zzCoo_ok (l : List Int) (hl : By l) (h4' : 4 ≤ chL l) (hup : up4 (chL l) ≤ l.length) (h0 : l.getD 0 0 ≠ 0) (hn2 : l.length ≤ 2000)  : ZzOk ⟨#[115, 99, 116, 112, 99, 111, 111, 107, 105, 101, 101, 99, 104, 111]⟩ l 136 138 (fun A n c => (chk A n c l).push (.slice (cutA A c 4) (chL l - 4) (c - 4))) := by
  intro A n c w h
  have hlen := h.len
  have hup' : up4 (chL l) ≤ n := by omega
  have h5 : n ≤ 2147483647 := by omega
  have H := Lib.hid h
  have HB := Lib.hid hl
  have H0 := Lib.hid h0
  clear h hl h0
  go_enter Try.func69, Try.ntmps69
  go_wp2_with fail
  (with_reducible refine (errNew_any _ _).mono ?_)
  rintro e w1 ⟨rfl, hb1⟩
  have k1 := Blk.keep hb1 (Blk.new w _ _)
  have hz : w.heap.size < w1.heap.size := k1.lt
  go_wp2_with fail
  (with_reducible refine (decCoo_any _ _ _ _ _ _ (H.out.below (Bl.trans (by go_grown) hb1)) HB.out h4' hup' H0.out h5 _ k1).mono ?_)
  rintro e w2 ⟨rfl, gl, kp⟩
  have c2 := kp.keeper.cell
  go_wp2_with fail
  go_ret2
  exact ⟨gl, rfl, Below.trans (Bl.trans (by go_grown) hb1) kp.low, kp.layer⟩
theorem zzCoo_err (l : List Int) (hl : By l) (h4 : 4 ≤ l.length) (hL : chL l < 4) : ZzErr ⟨#[115, 99, 116, 112, 99, 111, 111, 107, 105, 101, 101, 99, 104, 111]⟩ l := by
  intro A n c w h
  have hlen := h.len
  have h4n : 4 ≤ n := by omega
  have H := Lib.hid h
  have HB := Lib.hid hl
  clear h hl
  go_enter Try.func69, Try.ntmps69
  go_wp2_with fail
  (with_reducible refine (errNew_any _ _).mono ?_)
  rintro e w1 ⟨rfl, hb1⟩
  have hz : w.heap.size < w1.heap.size := by have := hb1.size; simp at this; omega
  go_wp2_with fail
  (with_reducible refine (decCoo_short _ _ _ _ _ (H.out.below (Bl.trans (by go_grown) hb1)) HB.out h4n hL _).mono ?_)
  rintro e w2 ⟨⟨u, rfl⟩, hb2⟩
  go_wp2_with fail
  go_ret2
  exact ⟨⟨_, rfl⟩, Bl.trans (Bl.trans (by go_grown) hb1) hb2⟩
set_option maxHeartbeats 1000000 in
theorem calledCoo_yes (l : List Int) (hl : By l) (h4' : 4 ≤ chL l) (hup : up4 (chL l) ≤ l.length) (h0 : l.getD 0 0 ≠ 0) (hn2 : l.length ≤ 2000)  : CallAt ⟨#[115, 99, 116, 112, 99, 111, 111, 107, 105, 101, 101, 99, 104, 111]⟩ l true := by
  intro A n c w h
  have hlen := h.len
  have u4 : chL l ≤ up4 (chL l) := by unfold up4; omega
  have HH := Lib.hid h
  have HB := Lib.hid hl
  obtain ⟨g, o, rfl, hg, hc⟩ := h.at (by omega)
  have d0 := hc 0 (by omega)
  simp only [Nat.add_zero] at d0
  have h4 : 4 ≤ n := by omega
  have h5 : n ≤ 2000 := by omega
  have h8 : 4 ≤ n := by omega
  have e1 : be (sub l 2 (2 + 2)) = (chL l : Int) := chL_int l hl
  have b1 : 4 ≤ be (sub l 2 (2 + 2)) := by omega
  have b2 : be (sub l 2 (2 + 2)) ≤ 65535 := by have := chL_le l hl (by omega); omega
  have b3 : (be (sub l 2 (2 + 2)) + 3) / 4 * 4 ≤ (n : Int) := by rw [e1]; unfold up4 at hup; omega
  have b4 : be (sub l 2 (2 + 2)) ≤ (n : Int) := by omega
  generalize l.getD 0 0 = x0 at *
  have H0 := Lib.hid h0
  have d0' : ∀ q, (w.drewN q).cell? ⟨g, o, none⟩ = some (.int .u8 x0) := fun q => d0
  clear h hlen hn2 hl e1 hc h4' hup h0 d0 u4
  go_enter Try.func68, Try.ntmps68
  go_wp2_with fail
  (with_reducible refine (number_any _ _ _ 2 _ _ HH.out HB.out (by omega) (by omega) 2 rfl).mono ?_)
  rintro e w1 ⟨rfl, q, rfl⟩
  generalize be (sub l 2 (2 + 2)) = L at *
  go_wp2_with fail
  (with_reducible refine (iup_any _ (by omega) (by omega) _).mono ?_)
  rintro e w1 ⟨rfl, rfl⟩
  generalize (L + 3) / 4 * 4 = U at *
  have h0 := H0.out
  go_wp2_with fail
  go_ret
  exact ⟨ret_bool (by simp; try omega), (Bl.refl _).drewN _⟩
theorem readCoo_no (l : List Int) (hd : ∀ (A : Option Addr) (n c : Nat) (w : World), Rd .u8 w A n c l → Calls Try.prog 48 #[.string ⟨#[115, 99, 116, 112, 99, 111, 111, 107, 105, 101, 101, 99, 104, 111]⟩, .slice A n c] w fun e w' => e = .returned (.tuple #[.nilIface, .bool false]) ∧ Bl w w') : NoReadAt ⟨#[115, 99, 116, 112, 99, 111, 111, 107, 105, 101, 101, 99, 104, 111]⟩ l := by
  intro A n c w h
  have H := Lib.hid h
  have HD := Lib.hid hd
  clear h hd
  go_enter Try.func33, Try.ntmps33
  go_wp2_with fail
  (with_reducible refine (HD.out _ _ _ _ (H.out.below (by go_grown))).mono ?_)
  rintro e w1 ⟨rfl, hb1⟩
  have kr := Blk.keep hb1 (Blk.new w _ _)
  have cr := kr.cell
  have fr := kr.frozen
  have zr := kr.lt
  have B2 := Lib.hid (Bl.trans (Below.alloc (Below.refl _ w) (Nat.le_refl _) _) hb1)
  go_wp2_with fail
  refine bodyPost_ret (v := .tuple #[.agg #[.slice none 0 0, .slice none 0 0, .slice none 0 0, .slice none 0 0], .bool false]) (by simp [results, Try.results33, go_sem, cr]) rfl
    ⟨rfl, Bl.boxed B2.out (Nat.le_refl _) _ _ _ _⟩
set_option maxHeartbeats 1000000 in
theorem readCoo_ok (l : List Int) (hl : By l) (h4' : 4 ≤ chL l) (hup : up4 (chL l) ≤ l.length) (h0 : l.getD 0 0 ≠ 0) (hn2 : l.length ≤ 2000)  :
    ReadAt ⟨#[115, 99, 116, 112, 99, 111, 111, 107, 105, 101, 101, 99, 104, 111]⟩ l ⟨[l.getD 0 0, l.getD 1 0, be (sub l 2 4), (up4 (chL l) : Int)], [sub l 4 (chL l)], [], sub l (up4 (chL l)) l.length⟩ := by
  intro A n c w h
  have H := Lib.hid h
  have HB := Lib.hid hl
  have hlen := h.len
  have hup' : up4 (chL l) ≤ n := by omega
  have hn2' : n ≤ 2000 := by omega
  have HC := Lib.hid (calledCoo_yes l hl h4' hup h0 hn2)
  have HZ := Lib.hid (zzCoo_ok l hl h4' hup h0 hn2)
  clear h hl h0
  go_enter Try.func33, Try.ntmps33
  go_wp2_with fail
  (with_reducible refine (decoded_ok _ _ _ _ _ hn2 HC.out HZ.out _ _ _ _ (H.out.below (by go_grown))).mono ?_)
  rintro e w1 ⟨A1, c1, gl, rfl, ho, r1⟩
  have R1 := Lib.hid r1
  have kl := ho.layer
  have kr := Blk.keep ho.bl (Blk.new w _ _)
  have cl : w1.cell? ⟨gl, 1, none⟩ = some (.slice (cutA A1 c1 (up4 (chL l))) (n - up4 (chL l)) (c1 - up4 (chL l))) := by rw [kl.cell]; rfl
  have HO := Lib.hid ho.bl
  have zr := kr.lt
  clear r1 ho
  go_wp2_with fail
  (with_reducible refine (payload_any _ _ _ _ _ cl).mono ?_)
  rintro e w2 ⟨rfl, rfl⟩
  go_wp2_with fail
  have q := (R1.out.cut (up4 (chL l)) n (by omega) (by omega))
  (with_reducible refine (toldCoo_any _ _ _ _ _ _ _ _ _ _ HB.out h4' hup' hn2' R1.out kl q (HB.out.sub _ _) (by omega)).mono ?_)
  rintro e w2 ⟨v, rfl, hL, hb2⟩
  obtain ⟨A4, c4, A5, c5, A6, c6, A7, c7, rfl⟩ := hL.form
  have HL := Lib.hid hL
  clear hL
  have kr2 := Blk.keep hb2 kr
  have cr := kr2.cell
  have fr := kr2.frozen
  have zr2 := kr2.lt
  have B2 := Lib.hid ((Bl.trans (Below.alloc (Below.refl _ w) (Nat.le_refl _) _) HO.out).trans hb2)
  have hz : w.heap.size ≤ w1.heap.size := Nat.le_of_lt zr
  subst hlen
  go_wp2_with fail
  refine bodyPost_ret (v := .tuple #[.agg #[.slice A4 4 c4, .slice A5 1 c5, .slice A6 0 c6, .slice A7 (sub l (up4 (chL l)) l.length).length c7], .bool true]) (by simp [results, Try.results33, go_sem, cr]) rfl
    ⟨_, rfl, LyrV.mono (LyrV.boxed HL.out (by show ¬ (w1.heap.size ≤ w.heap.size); omega) _ _ _ _) (fun k hk => Nat.le_trans hz hk), Bl.boxed B2.out (Nat.le_refl _) _ _ _ _⟩
end Go.Proofs.Ytoljdgfbkebgcaa
namespace Go.Proofs.Ytoljdgfbkebgcaa
open Go.RowKit
set_option linter.unusedVariables false
set_option maxHeartbeats 4000000 in
set_option maxRecDepth 100000 in
theorem srCoo_some (l : List Int) (hl : By l) (h4' : 4 ≤ chL l) (hup : up4 (chL l) ≤ l.length) (hn2 : l.length ≤ 2147483647) (hk : kindOf (l.getD 0 0) = ⟨#[115, 99, 116, 112, 99, 111, 111, 107, 105, 101, 101, 99, 104, 111]⟩) :
    SpecAt ⟨#[115, 99, 116, 112, 99, 111, 111, 107, 105, 101, 101, 99, 104, 111]⟩ l ⟨[l.getD 0 0, l.getD 1 0, be (sub l 2 4), (up4 (chL l) : Int)], [sub l 4 (chL l)], [], sub l (up4 (chL l)) l.length⟩ true true := by
  intro A n c B w h hA _
  have u4 : chL l ≤ up4 (chL l) := by unfold up4; omega
  have hlen := h.len
  have h4 : 4 ≤ n := by omega
  have h5 : n ≤ 2147483647 := by omega
  have hcap := h.cap
  have HH := Lib.hid h
  have HA := Lib.hid hA
  have s1 := run_cut A n c 2 4 2 4 rfl rfl (by omega) (by omega) 24 Try.underlying24 size5
  have s2 := run_cut_l A n c (up4 (chL l)) _ rfl (by omega) 24 Try.underlying24 size5
  have s3 := run_cut A n c 4 (chL l) 4 (be (sub l 2 4)) rfl (chL_int l hl) h4' (by omega) 24 Try.underlying24 size5
  have R1 := Lib.hid (h.cutm 2 4 2 (by omega) (by omega))
  have HB := Lib.hid hl
  have b1 := be_bd2 (sub l 2 4) (hl.sub _ _) (by rw [sub_length _ _ _ (by omega)])
  have b0 := hl.getD 0
  have b0' := hl.getD 1
  have e1 := chL_int l hl
  have b2 : 4 ≤ be (sub l 2 4) := by omega
  have b3 : be (sub l 2 4) ≤ (n : Int) := by omega
  have e2 : (be (sub l 2 4) + 3) / 4 * 4 = (up4 (chL l) : Int) := by rw [e1]; unfold up4; omega
  have b4 : (up4 (chL l) : Int) ≤ (n : Int) := by omega
  obtain ⟨g, o, rfl, hg, hc⟩ := h.at (by omega)
  have d0 := hc 0 (by omega)
  have d1 := hc 1 (by omega)
  simp only [Nat.add_zero] at d0
  have HK := Lib.hid hk
  generalize l.getD 0 0 = x0 at *
  generalize l.getD 1 0 = x1 at *
  generalize up4 (chL l) = U at *
  generalize chL l = V at *
  clear h hn2 hc hl hk e1 hA
  go_enter Try.func43, Try.ntmps43
  go_wp2_with fail
  (with_reducible refine (num_any _ _ _ _ _ (R1.out.below (by go_grown)) (HB.out.sub 2 4) (by omega) (by omega)).mono ?_)
  rintro e w1 ⟨rfl, rfl⟩
  generalize G2 : be (sub l 2 4) = L at *
  go_wp2_with fail
  (with_reducible refine (sup_any _ (by omega) (by omega) _).mono ?_)
  rintro e w1 ⟨rfl, rfl⟩
  rw [e2]
  go_wp2_with fail
  (with_reducible refine (kind_any _ _).mono ?_)
  rintro e w1 ⟨rfl, hb1⟩
  rw [HK.out]
  have kr := Blk.keep hb1 (Blk.new w _ _)
  have cr := kr.cell
  have fr := kr.frozen
  have zr := kr.lt
  have B1 : Bl w w1 := Bl.trans (by go_grown) hb1
  have d0' := (B1.cell (p := ⟨g, o, none⟩) hg).trans d0
  have d1' := (B1.cell (p := ⟨g, o + 1, none⟩) hg).trans d1
  have zg : g < w1.heap.size := Nat.lt_of_lt_of_le hg B1.size
  have HX := Lib.hid HH
  clear d0 d1 hb1
  go_wp2_with fail
  go_region
  · have B2 : Bl w (((w1.alloc (.cells #[.int .u64 x0, .int .u64 x1, .int .u64 L, .int .u64 U] 26)).alloc (.cells #[.slice (some ⟨w1.heap.size, 0, none⟩) 4 4, .slice none 0 0, .slice none 0 0, .slice (cutA (some ⟨g, o, none⟩) c U) (n - U) (c - U)] 35)).drew) := ((B1.alloc (by (try simp); omega) _).alloc (by (try simp); omega) _).drew
    have kr2 : Blk (((w1.alloc (.cells #[.int .u64 x0, .int .u64 x1, .int .u64 L, .int .u64 U] 26)).alloc (.cells #[.slice (some ⟨w1.heap.size, 0, none⟩) 4 4, .slice none 0 0, .slice none 0 0, .slice (cutA (some ⟨g, o, none⟩) c U) (n - U) (c - U)] 35)).drew) w.heap.size #[.slice none 0 0, .slice none 0 0, .slice none 0 0, .slice none 0 0] 35 := (((kr.alloc _).alloc _).same rfl)
    have kn : Blk (((w1.alloc (.cells #[.int .u64 x0, .int .u64 x1, .int .u64 L, .int .u64 U] 26)).alloc (.cells #[.slice (some ⟨w1.heap.size, 0, none⟩) 4 4, .slice none 0 0, .slice none 0 0, .slice (cutA (some ⟨g, o, none⟩) c U) (n - U) (c - U)] 35)).drew) w1.heap.size #[.int .u64 x0, .int .u64 x1, .int .u64 L, .int .u64 U] 26 := (((Blk.newAt w1 #[.int .u64 x0, .int .u64 x1, .int .u64 L, .int .u64 U] 26 w1.heap.size rfl).alloc (.cells #[.slice (some ⟨w1.heap.size, 0, none⟩) 4 4, .slice none 0 0, .slice none 0 0, .slice (cutA (some ⟨g, o, none⟩) c U) (n - U) (c - U)] 35)).same rfl)
    have kl : Blk (((w1.alloc (.cells #[.int .u64 x0, .int .u64 x1, .int .u64 L, .int .u64 U] 26)).alloc (.cells #[.slice (some ⟨w1.heap.size, 0, none⟩) 4 4, .slice none 0 0, .slice none 0 0, .slice (cutA (some ⟨g, o, none⟩) c U) (n - U) (c - U)] 35)).drew) (w1.heap.size + 1) #[.slice (some ⟨w1.heap.size, 0, none⟩) 4 4, .slice none 0 0, .slice none 0 0, .slice (cutA (some ⟨g, o, none⟩) c U) (n - U) (c - U)] 35 := ((Blk.newAt (w1.alloc (.cells #[.int .u64 x0, .int .u64 x1, .int .u64 L, .int .u64 U] 26)) #[.slice (some ⟨w1.heap.size, 0, none⟩) 4 4, .slice none 0 0, .slice none 0 0, .slice (cutA (some ⟨g, o, none⟩) c U) (n - U) (c - U)] 35 (w1.heap.size + 1) (by simp)).same rfl)
    have n1 : w1.heap.size ≠ (w1.heap.size + 1) := by omega
    have n2 : w.heap.size < w1.heap.size := by omega
    have n3 : w.heap.size < (w1.heap.size + 1) := by omega
    clear cr fr
    generalize ((w1.alloc (.cells #[.int .u64 x0, .int .u64 x1, .int .u64 L, .int .u64 U] 26)).alloc (.cells #[.slice (some ⟨w1.heap.size, 0, none⟩) 4 4, .slice none 0 0, .slice none 0 0, .slice (cutA (some ⟨g, o, none⟩) c U) (n - U) (c - U)] 35)).drew = W at *
    generalize H2 : (w1.heap.size + 1) = gl at *
    generalize H1 : w1.heap.size = gn at *
    have cr := kr2.cell
    have fr := kr2.frozen
    have zr2 := kr2.lt
    have cl := kl.cell
    have fl := kl.frozen
    have zl := kl.lt
    have zn := kn.lt
    clear H1 H2
    go_wp2_with fail
    have BF : Bl w (((((((W.setCell ⟨gl, 1, none⟩ (.slice (some ⟨W.heap.size, 0, none⟩) 1 1)).setCell ⟨w.heap.size, 0, none⟩ (.slice (some ⟨gn, 0, none⟩) 4 4)).setCell ⟨w.heap.size, 1, none⟩ (.slice (some ⟨W.heap.size, 0, none⟩) 1 1)).setCell ⟨w.heap.size, 2, none⟩ (.slice none 0 0)).setCell ⟨w.heap.size, 3, none⟩ (.slice (cutA (some ⟨g, o, none⟩) c U) (n - U) (c - U))).alloc (.cells #[.slice (cutA (some ⟨g, o, none⟩) c 4) (V - 4) (c - 4)] 24))) := (((((Below.setCell B2 (Nat.le_of_lt n3) _).setCell (Nat.le_refl _) _).setCell (Nat.le_refl _) _).setCell (Nat.le_refl _) _).setCell (Nat.le_refl _) _).alloc (by simp; omega) _
    have kf : Blk (((((((W.setCell ⟨gl, 1, none⟩ (.slice (some ⟨W.heap.size, 0, none⟩) 1 1)).setCell ⟨w.heap.size, 0, none⟩ (.slice (some ⟨gn, 0, none⟩) 4 4)).setCell ⟨w.heap.size, 1, none⟩ (.slice (some ⟨W.heap.size, 0, none⟩) 1 1)).setCell ⟨w.heap.size, 2, none⟩ (.slice none 0 0)).setCell ⟨w.heap.size, 3, none⟩ (.slice (cutA (some ⟨g, o, none⟩) c U) (n - U) (c - U))).alloc (.cells #[.slice (cutA (some ⟨g, o, none⟩) c 4) (V - 4) (c - 4)] 24))) w.heap.size #[.slice (some ⟨gn, 0, none⟩) 4 4, .slice (some ⟨W.heap.size, 0, none⟩) 1 1, .slice none 0 0, .slice (cutA (some ⟨g, o, none⟩) c U) (n - U) (c - U)] 35 := ((((((kr2.far (p := ⟨gl, 1, none⟩) (Nat.ne_of_lt n3) _).set 0 _).set 1 _).set 2 _).set 3 _).alloc _)
    have knf : Blk (((((((W.setCell ⟨gl, 1, none⟩ (.slice (some ⟨W.heap.size, 0, none⟩) 1 1)).setCell ⟨w.heap.size, 0, none⟩ (.slice (some ⟨gn, 0, none⟩) 4 4)).setCell ⟨w.heap.size, 1, none⟩ (.slice (some ⟨W.heap.size, 0, none⟩) 1 1)).setCell ⟨w.heap.size, 2, none⟩ (.slice none 0 0)).setCell ⟨w.heap.size, 3, none⟩ (.slice (cutA (some ⟨g, o, none⟩) c U) (n - U) (c - U))).alloc (.cells #[.slice (cutA (some ⟨g, o, none⟩) c 4) (V - 4) (c - 4)] 24))) gn #[.int .u64 x0, .int .u64 x1, .int .u64 L, .int .u64 U] 26 := ((((((kn.far (p := ⟨gl, 1, none⟩) n1 _).far (p := ⟨w.heap.size, 0, none⟩) (Nat.ne_of_gt n2) _).far (p := ⟨w.heap.size, 1, none⟩) (Nat.ne_of_gt n2) _).far (p := ⟨w.heap.size, 2, none⟩) (Nat.ne_of_gt n2) _).far (p := ⟨w.heap.size, 3, none⟩) (Nat.ne_of_gt n2) _).alloc _)
    have kd : Blk (((((((W.setCell ⟨gl, 1, none⟩ (.slice (some ⟨W.heap.size, 0, none⟩) 1 1)).setCell ⟨w.heap.size, 0, none⟩ (.slice (some ⟨gn, 0, none⟩) 4 4)).setCell ⟨w.heap.size, 1, none⟩ (.slice (some ⟨W.heap.size, 0, none⟩) 1 1)).setCell ⟨w.heap.size, 2, none⟩ (.slice none 0 0)).setCell ⟨w.heap.size, 3, none⟩ (.slice (cutA (some ⟨g, o, none⟩) c U) (n - U) (c - U))).alloc (.cells #[.slice (cutA (some ⟨g, o, none⟩) c 4) (V - 4) (c - 4)] 24))) W.heap.size #[.slice (cutA (some ⟨g, o, none⟩) c 4) (V - 4) (c - 4)] 24 := Blk.newAt _ _ _ _ (by simp)
    have cf := kf.cell
    have zW : w.heap.size ≤ W.heap.size := Nat.le_of_lt zr2
    generalize ((((((W.setCell ⟨gl, 1, none⟩ (.slice (some ⟨W.heap.size, 0, none⟩) 1 1)).setCell ⟨w.heap.size, 0, none⟩ (.slice (some ⟨gn, 0, none⟩) 4 4)).setCell ⟨w.heap.size, 1, none⟩ (.slice (some ⟨W.heap.size, 0, none⟩) 1 1)).setCell ⟨w.heap.size, 2, none⟩ (.slice none 0 0)).setCell ⟨w.heap.size, 3, none⟩ (.slice (cutA (some ⟨g, o, none⟩) c U) (n - U) (c - U))).alloc (.cells #[.slice (cutA (some ⟨g, o, none⟩) c 4) (V - 4) (c - 4)] 24)) = WF at *
    refine bodyPost_ret (v := .tuple #[.agg #[.slice (some ⟨gn, 0, none⟩) 4 4, .slice (some ⟨W.heap.size, 0, none⟩) 1 1, .slice none 0 0, .slice (cutA (some ⟨g, o, none⟩) c U) (n - U) (c - U)], .bool true, .bool true]) (by simp [results, Try.results43, go_sem, cf]) rfl ?_
    subst hlen G2
    refine ⟨_, rfl, ⟨_, _, _, _, rfl, NumV.of_block _ (.inr (Nat.le_of_lt n2)) knf.heap rfl rfl, DataV.one kd (.inr zW) ?_, PartsV.nil _ _, ?_⟩, BF⟩
    · exact (((HH.out.below BF).cut 4 V (by omega) (by omega)).bytV (cutA_inF (HA.out.mono fun _ h => .inl h) (fun _ => by omega)) (HB.out.sub _ _))
    · exact ((HH.out.below BF).cut U l.length (by omega) (by omega)).bytV (cutA_inF (HA.out.mono fun _ h => .inl h) (fun _ => by omega)) (HB.out.sub _ _)
  · have B2 : Bl w (((w1.alloc (.cells #[.slice (some ⟨w1.heap.size + 1, 0, none⟩) 4 4, .slice none 0 0, .slice none 0 0, .slice (cutA (some ⟨g, o, none⟩) c U) (n - U) (c - U)] 35)).alloc (.cells #[.int .u64 x0, .int .u64 x1, .int .u64 L, .int .u64 U] 26)).drew) := ((B1.alloc (by (try simp); omega) _).alloc (by (try simp); omega) _).drew
    have kr2 : Blk (((w1.alloc (.cells #[.slice (some ⟨w1.heap.size + 1, 0, none⟩) 4 4, .slice none 0 0, .slice none 0 0, .slice (cutA (some ⟨g, o, none⟩) c U) (n - U) (c - U)] 35)).alloc (.cells #[.int .u64 x0, .int .u64 x1, .int .u64 L, .int .u64 U] 26)).drew) w.heap.size #[.slice none 0 0, .slice none 0 0, .slice none 0 0, .slice none 0 0] 35 := (((kr.alloc _).alloc _).same rfl)
    have kn : Blk (((w1.alloc (.cells #[.slice (some ⟨w1.heap.size + 1, 0, none⟩) 4 4, .slice none 0 0, .slice none 0 0, .slice (cutA (some ⟨g, o, none⟩) c U) (n - U) (c - U)] 35)).alloc (.cells #[.int .u64 x0, .int .u64 x1, .int .u64 L, .int .u64 U] 26)).drew) (w1.heap.size + 1) #[.int .u64 x0, .int .u64 x1, .int .u64 L, .int .u64 U] 26 := ((Blk.newAt (w1.alloc (.cells #[.slice (some ⟨w1.heap.size + 1, 0, none⟩) 4 4, .slice none 0 0, .slice none 0 0, .slice (cutA (some ⟨g, o, none⟩) c U) (n - U) (c - U)] 35)) #[.int .u64 x0, .int .u64 x1, .int .u64 L, .int .u64 U] 26 (w1.heap.size + 1) (by simp)).same rfl)
    have kl : Blk (((w1.alloc (.cells #[.slice (some ⟨w1.heap.size + 1, 0, none⟩) 4 4, .slice none 0 0, .slice none 0 0, .slice (cutA (some ⟨g, o, none⟩) c U) (n - U) (c - U)] 35)).alloc (.cells #[.int .u64 x0, .int .u64 x1, .int .u64 L, .int .u64 U] 26)).drew) w1.heap.size #[.slice (some ⟨w1.heap.size + 1, 0, none⟩) 4 4, .slice none 0 0, .slice none 0 0, .slice (cutA (some ⟨g, o, none⟩) c U) (n - U) (c - U)] 35 := (((Blk.newAt w1 #[.slice (some ⟨w1.heap.size + 1, 0, none⟩) 4 4, .slice none 0 0, .slice none 0 0, .slice (cutA (some ⟨g, o, none⟩) c U) (n - U) (c - U)] 35 w1.heap.size rfl).alloc (.cells #[.int .u64 x0, .int .u64 x1, .int .u64 L, .int .u64 U] 26)).same rfl)
    have n1 : (w1.heap.size + 1) ≠ w1.heap.size := by omega
    have n2 : w.heap.size < (w1.heap.size + 1) := by omega
    have n3 : w.heap.size < w1.heap.size := by omega
    clear cr fr
    generalize ((w1.alloc (.cells #[.slice (some ⟨w1.heap.size + 1, 0, none⟩) 4 4, .slice none 0 0, .slice none 0 0, .slice (cutA (some ⟨g, o, none⟩) c U) (n - U) (c - U)] 35)).alloc (.cells #[.int .u64 x0, .int .u64 x1, .int .u64 L, .int .u64 U] 26)).drew = W at *
    generalize H1 : (w1.heap.size + 1) = gn at *
    generalize H2 : w1.heap.size = gl at *
    have cr := kr2.cell
    have fr := kr2.frozen
    have zr2 := kr2.lt
    have cl := kl.cell
    have fl := kl.frozen
    have zl := kl.lt
    have zn := kn.lt
    clear H1 H2
    go_wp2_with fail
    have BF : Bl w (((((((W.setCell ⟨gl, 1, none⟩ (.slice (some ⟨W.heap.size, 0, none⟩) 1 1)).setCell ⟨w.heap.size, 0, none⟩ (.slice (some ⟨gn, 0, none⟩) 4 4)).setCell ⟨w.heap.size, 1, none⟩ (.slice (some ⟨W.heap.size, 0, none⟩) 1 1)).setCell ⟨w.heap.size, 2, none⟩ (.slice none 0 0)).setCell ⟨w.heap.size, 3, none⟩ (.slice (cutA (some ⟨g, o, none⟩) c U) (n - U) (c - U))).alloc (.cells #[.slice (cutA (some ⟨g, o, none⟩) c 4) (V - 4) (c - 4)] 24))) := (((((Below.setCell B2 (Nat.le_of_lt n3) _).setCell (Nat.le_refl _) _).setCell (Nat.le_refl _) _).setCell (Nat.le_refl _) _).setCell (Nat.le_refl _) _).alloc (by simp; omega) _
    have kf : Blk (((((((W.setCell ⟨gl, 1, none⟩ (.slice (some ⟨W.heap.size, 0, none⟩) 1 1)).setCell ⟨w.heap.size, 0, none⟩ (.slice (some ⟨gn, 0, none⟩) 4 4)).setCell ⟨w.heap.size, 1, none⟩ (.slice (some ⟨W.heap.size, 0, none⟩) 1 1)).setCell ⟨w.heap.size, 2, none⟩ (.slice none 0 0)).setCell ⟨w.heap.size, 3, none⟩ (.slice (cutA (some ⟨g, o, none⟩) c U) (n - U) (c - U))).alloc (.cells #[.slice (cutA (some ⟨g, o, none⟩) c 4) (V - 4) (c - 4)] 24))) w.heap.size #[.slice (some ⟨gn, 0, none⟩) 4 4, .slice (some ⟨W.heap.size, 0, none⟩) 1 1, .slice none 0 0, .slice (cutA (some ⟨g, o, none⟩) c U) (n - U) (c - U)] 35 := ((((((kr2.far (p := ⟨gl, 1, none⟩) (Nat.ne_of_lt n3) _).set 0 _).set 1 _).set 2 _).set 3 _).alloc _)
    have knf : Blk (((((((W.setCell ⟨gl, 1, none⟩ (.slice (some ⟨W.heap.size, 0, none⟩) 1 1)).setCell ⟨w.heap.size, 0, none⟩ (.slice (some ⟨gn, 0, none⟩) 4 4)).setCell ⟨w.heap.size, 1, none⟩ (.slice (some ⟨W.heap.size, 0, none⟩) 1 1)).setCell ⟨w.heap.size, 2, none⟩ (.slice none 0 0)).setCell ⟨w.heap.size, 3, none⟩ (.slice (cutA (some ⟨g, o, none⟩) c U) (n - U) (c - U))).alloc (.cells #[.slice (cutA (some ⟨g, o, none⟩) c 4) (V - 4) (c - 4)] 24))) gn #[.int .u64 x0, .int .u64 x1, .int .u64 L, .int .u64 U] 26 := ((((((kn.far (p := ⟨gl, 1, none⟩) n1 _).far (p := ⟨w.heap.size, 0, none⟩) (Nat.ne_of_gt n2) _).far (p := ⟨w.heap.size, 1, none⟩) (Nat.ne_of_gt n2) _).far (p := ⟨w.heap.size, 2, none⟩) (Nat.ne_of_gt n2) _).far (p := ⟨w.heap.size, 3, none⟩) (Nat.ne_of_gt n2) _).alloc _)
    have kd : Blk (((((((W.setCell ⟨gl, 1, none⟩ (.slice (some ⟨W.heap.size, 0, none⟩) 1 1)).setCell ⟨w.heap.size, 0, none⟩ (.slice (some ⟨gn, 0, none⟩) 4 4)).setCell ⟨w.heap.size, 1, none⟩ (.slice (some ⟨W.heap.size, 0, none⟩) 1 1)).setCell ⟨w.heap.size, 2, none⟩ (.slice none 0 0)).setCell ⟨w.heap.size, 3, none⟩ (.slice (cutA (some ⟨g, o, none⟩) c U) (n - U) (c - U))).alloc (.cells #[.slice (cutA (some ⟨g, o, none⟩) c 4) (V - 4) (c - 4)] 24))) W.heap.size #[.slice (cutA (some ⟨g, o, none⟩) c 4) (V - 4) (c - 4)] 24 := Blk.newAt _ _ _ _ (by simp)
    have cf := kf.cell
    have zW : w.heap.size ≤ W.heap.size := Nat.le_of_lt zr2
    generalize ((((((W.setCell ⟨gl, 1, none⟩ (.slice (some ⟨W.heap.size, 0, none⟩) 1 1)).setCell ⟨w.heap.size, 0, none⟩ (.slice (some ⟨gn, 0, none⟩) 4 4)).setCell ⟨w.heap.size, 1, none⟩ (.slice (some ⟨W.heap.size, 0, none⟩) 1 1)).setCell ⟨w.heap.size, 2, none⟩ (.slice none 0 0)).setCell ⟨w.heap.size, 3, none⟩ (.slice (cutA (some ⟨g, o, none⟩) c U) (n - U) (c - U))).alloc (.cells #[.slice (cutA (some ⟨g, o, none⟩) c 4) (V - 4) (c - 4)] 24)) = WF at *
    refine bodyPost_ret (v := .tuple #[.agg #[.slice (some ⟨gn, 0, none⟩) 4 4, .slice (some ⟨W.heap.size, 0, none⟩) 1 1, .slice none 0 0, .slice (cutA (some ⟨g, o, none⟩) c U) (n - U) (c - U)], .bool true, .bool true]) (by simp [results, Try.results43, go_sem, cf]) rfl ?_
    subst hlen G2
    refine ⟨_, rfl, ⟨_, _, _, _, rfl, NumV.of_block _ (.inr (Nat.le_of_lt n2)) knf.heap rfl rfl, DataV.one kd (.inr zW) ?_, PartsV.nil _ _, ?_⟩, BF⟩
    · exact (((HH.out.below BF).cut 4 V (by omega) (by omega)).bytV (cutA_inF (HA.out.mono fun _ h => .inl h) (fun _ => by omega)) (HB.out.sub _ _))
    · exact ((HH.out.below BF).cut U l.length (by omega) (by omega)).bytV (cutA_inF (HA.out.mono fun _ h => .inl h) (fun _ => by omega)) (HB.out.sub _ _)
end Go.Proofs.Ytoljdgfbkebgcaa
namespace Go.Proofs.Ytoljdgfbkebgcaa
open Go.RowKit
set_option linter.unusedVariables false
theorem decCoo_at (l : List Int) (hl : By l) (hk : kindOf (l.getD 0 0) = ⟨#[115, 99, 116, 112, 99, 111, 111, 107, 105, 101, 101, 99, 104, 111]⟩) (h4' : 4 ≤ chL l) (hup : up4 (chL l) ≤ l.length) (h0 : l.getD 0 0 ≠ 0) (hn2 : l.length ≤ 2000) : DecAt l := by
  intro A n c w h
  have hlen := h.len
  rw [hk]
  refine (decodedN_ok _ l _ _ _ hn2 (calledCoo_yes l hl h4' hup h0 hn2) (zzCoo_ok l hl h4' hup h0 hn2) A n c w h).mono ?_
  rintro e w1 ⟨A1, c1, gl, rfl, ho, r1, i1⟩
  exact Obj1.dec h0 rfl hup (by omega) rfl meth136 ho.bl ho.layer (by decide) rfl rfl r1 i1
theorem Coo_kind (l : List Int) (hl : By l) (hn : l.length ≤ 2147483647) (hk : kindOf (l.getD 0 0) = ⟨#[115, 99, 116, 112, 99, 111, 111, 107, 105, 101, 101, 99, 104, 111]⟩) : KindAt l := by
  have hs : ((⟨#[115, 99, 116, 112, 99, 111, 111, 107, 105, 101, 101, 99, 104, 111]⟩ : ByteArray).toList == [115, 99, 116, 112]) = false := by simp [go_sem]
  have hd : ((⟨#[115, 99, 116, 112, 99, 111, 111, 107, 105, 101, 101, 99, 104, 111]⟩ : ByteArray).toList == [115, 99, 116, 112, 100, 97, 116, 97]) = false := by simp [go_sem]
  by_cases h4 : l.length < 4
  · exact KindAt.no hk nilLyr false true (sr_short _ l hs h4) rfl
  have hk' : ((kindOf (l.getD 0 0)).toList == (⟨#[115, 99, 116, 112, 99, 111, 111, 107, 105, 101, 101, 99, 104, 111]⟩ : ByteArray).toList) = true := by rw [hk]; simp
  have h0 : l.getD 0 0 ≠ 0 := by
    intro h0
    rw [h0] at hk
    rw [← hk] at hd
    simp [kindOf, kDat, go_sem] at hd
  by_cases hL : chL l < 4
  · exact KindAt.no hk nilLyr false true (sr_low _ l hl hs (by omega) (by omega) hk' hL) rfl
  by_cases hlong : l.length < chL l
  · exact KindAt.no hk nilLyr false true (sr_long _ l hl hs (by omega) (by omega) hk' hd hlong) rfl
  by_cases hup : l.length < up4 (chL l)
  · exact KindAt.no hk nilLyr false false (sr_full _ l hl hs (by omega) (by omega) hk' hd (by omega) (by omega) hup) rfl
  exact ⟨_, true, true, by rw [hk]; exact srCoo_some l hl (by omega) (by omega) (by omega) hk, fun _ _ => ⟨by omega, by omega, ⟨_, rfl⟩, fun h => absurd h h0, fun h2 => decCoo_at l hl hk (by omega) (by omega) h0 h2⟩⟩
end Go.Proofs.Ytoljdgfbkebgcaa
