/- impl.told: sctpunknown. -/
import Derived.Test.YtoljdgfbkebgcaaRdSctp
import Derived.Test.YtoljdgfbkebgcaaChk
import Derived.Test.YtoljdgfbkebgcaaChunkv
import Derived.Test.YtoljdgfbkebgcaaDatV
namespace Go.Proofs.Ytoljdgfbkebgcaa
open Go.RowKit
theorem unkPayload_any (g : Nat) (A : Option Addr) (n c : Nat) (w : World) (h : w.cell? ⟨g, 6, none⟩ = some (.slice A n c)) :
    Calls Try.prog 73 #[.pointer (some ⟨g, 0, none⟩)] w fun e w' => e = .returned (.slice A n c) ∧ w = w' := by
  go_enter Try.func73, Try.ntmps73
  go_wp2
  go_ret
  exact ⟨rfl, rfl⟩
set_option maxHeartbeats 4000000 in
set_option maxRecDepth 100000 in
theorem toldUnk_any (A1 A : Option Addr) (n c1 m c gl : Nat) (l p : List Int) (w : World) (hl : By l) (h4 : 4 ≤ chL l) (hup : up4 (chL l) ≤ n) (hn2 : n ≤ 2000) (r : Rd .u8 w A1 n c1 l) (k : Blk w gl ((chk A1 n c1 l).push (.slice A1 (up4 (chL l)) c1)) 161) (h : Rd .u8 w A m c p) (hp : By p) (hm : m ≤ 2000) :
    Calls Try.prog 49 #[.iface 159 (.pointer (some ⟨gl, 0, none⟩)), .slice A m c] w fun e w' =>
      Got w w' e ⟨[l.getD 0 0, l.getD 1 0, be (sub l 2 4), (up4 (chL l) : Int)], [sub l 0 (up4 (chL l))], [], p⟩ := by
  have u4 : chL l ≤ up4 (chL l) := by unfold up4; omega
  have H := Lib.hid h
  have HP := Lib.hid hp
  have R := Lib.hid r
  have HB := Lib.hid hl
  have hlen := r.len
  have b0 := hl.getD 0
  have b1 := hl.getD 1
  have b2 := be_bd2 (sub l 2 4) (hl.sub _ _) (by rw [sub_length _ _ _ (by omega)])
  have b3 : (0 : Int) ≤ (up4 (chL l) : Int) ∧ (up4 (chL l) : Int) ≤ 2147483647 := by omega
  have hk : Blk w gl (#[.slice A1 (up4 (chL l)) c1, .slice (cutA A1 c1 (up4 (chL l))) (n - up4 (chL l)) (c1 - up4 (chL l)), .int .u8 (l.getD 0 0), .int .u8 (l.getD 1 0), .int .u16 (be (sub l 2 4)), .int .i64 (up4 (chL l)), .slice A1 (up4 (chL l)) c1]) 161 := k
  generalize l.getD 0 0 = x0 at *
  generalize l.getD 1 0 = x1 at *
  generalize be (sub l 2 4) = L at *
  generalize up4 (chL l) = U at *
  generalize chL l = V at *
  clear h hp hl r k
  have t0 := ta_159_90
  have t1 := ta_159_97
  have t2 := ta_159_105
  have t3 := ta_159_115
  have t4 := ta_159_120
  have t5 := ta_159_125
  have t6 := ta_159_130
  have t7 := ta_159_133
  have t8 := ta_159_136
  have t9 := ta_159_139
  have t10 := ta_159
  go_enter Try.func49, Try.ntmps49
  go_wp2_with fail
  (with_reducible refine (clone_any _ _ _ _ _ (H.out.below (by go_grown)) (by omega)).mono ?_)
  rintro e w1 ⟨⟨A2, c2, rfl, ho⟩, hb1⟩
  have kr := Blk.keep hb1 (Blk.new w _ _)
  have kl := Blk.keep hb1 (hk.alloc _)
  have OW := Lib.hid ho
  have cl := kl.cell
  have zl := kl.lt
  have cr := kr.cell
  have fr := kr.frozen
  have zr := kr.lt
  have B0 : Bl w w1 := Bl.trans (by go_grown) hb1
  have v3 := Lib.hid (own_bytV (F := fun k => w.heap.size < k ∧ k ≠ w1.heap.size) ho HP.out (fun k h1 h2 => by simp at h1; exact ⟨by omega, by omega⟩))
  clear ho
  go_wp2_with fail
  have kb := Blk.new w1 #[.slice none 0 0, .slice none 0 0, .slice none 0 0, .slice A2 m c2] 35
  have kl1 := kl.alloc (.cells #[.slice none 0 0, .slice none 0 0, .slice none 0 0, .slice A2 m c2] 35)
  have kr1 := kr.alloc (.cells #[.slice none 0 0, .slice none 0 0, .slice none 0 0, .slice A2 m c2] 35)
  have B1 : Bl w (w1.alloc (.cells #[.slice none 0 0, .slice none 0 0, .slice none 0 0, .slice A2 m c2] 35)) := B0.trans (by go_grown)
  have v31 := Lib.hid (BytV.below v3.out (w' := w1.alloc (.cells #[.slice none 0 0, .slice none 0 0, .slice none 0 0, .slice A2 m c2] 35)) (by go_grown))
  clear v3 cl zl cr fr kl kr hb1 hk OW B0
  have zr' : w.heap.size < w1.heap.size := zr
  generalize w1.alloc (.cells #[.slice none 0 0, .slice none 0 0, .slice none 0 0, .slice A2 m c2] 35) = W at *
  generalize w1.heap.size = gb at *
  clear zr
  (with_reducible refine (chunkv_any _ _ _ _ _ _ _ _ _ _ _ b0 b1 b2 b3).mono ?_)
  rintro e w2 ⟨rfl, hb2, kn, _⟩
  have kb2 := Blk.keep hb2 kb
  have kr2 := Blk.keep hb2 kr1
  have kl2 := Blk.keep hb2 kl1
  have zW : gb < W.heap.size := kb.lt
  have B2 := B1.trans hb2
  have cb := kb2.cell
  have fb := kb2.frozen
  have zb := kb2.lt
  have cr := kr2.cell
  have fr := kr2.frozen
  have zr := kr2.lt
  have cl := kl2.cell
  have zl := kl2.lt
  have hne : w.heap.size ≠ gb := Nat.ne_of_lt zr'
  go_wp2_with fail
  have hv0 := Lib.hid (NumV.of_block (F := fun k => w.heap.size < k ∧ k ≠ gb) [x0, x1, L, (U : Int)] (show _ ∧ _ from ⟨by omega, by omega⟩) kn.heap rfl rfl)
  (with_reducible refine (unkPayload_any gl A1 U c1 _ (by simp [cl, go_sem])).mono ?_)
  rintro e w3 ⟨rfl, rfl⟩
  go_wp2_with fail
  have B3 : Bl w (w2.setCell ⟨gb, 0, none⟩ (.slice (some ⟨W.heap.size + 1, 0, none⟩) 4 4)) := Below.setCell B2 (Nat.le_of_lt zr') _
  have rk : Rd .u8 (w2.setCell ⟨gb, 0, none⟩ (.slice (some ⟨W.heap.size + 1, 0, none⟩) 4 4)) A1 U c1 (sub l 0 U) := (R.out.cut0 U (by omega)).below B3
  have kb3 := kb2.set 0 (.slice (some ⟨W.heap.size + 1, 0, none⟩) 4 4)
  have kr3 := kr2.far (p := ⟨gb, 0, none⟩) hne (.slice (some ⟨W.heap.size + 1, 0, none⟩) 4 4)
  have kn3 := kn.far (p := ⟨gb, 0, none⟩) (by show W.heap.size + 1 ≠ gb; omega) (.slice (some ⟨W.heap.size + 1, 0, none⟩) 4 4)
  have v33 := Lib.hid (BytV.keepF (BytV.below v31.out hb2) ((KeepF.refl _ w2).setCell (p := ⟨gb, 0, none⟩) (fun h => h.2 rfl) (.slice (some ⟨W.heap.size + 1, 0, none⟩) 4 4)))
  have zg : w.heap.size < (w2.setCell ⟨gb, 0, none⟩ (.slice (some ⟨W.heap.size + 1, 0, none⟩) 4 4)).heap.size := kr3.lt
  have zg2 : gb < (w2.setCell ⟨gb, 0, none⟩ (.slice (some ⟨W.heap.size + 1, 0, none⟩) 4 4)).heap.size := kb3.lt
  clear cb fb zb cr fr zr cl zl kl2 hv0 v31 hb2 B2
  generalize w2.setCell ⟨gb, 0, none⟩ (.slice (some ⟨W.heap.size + 1, 0, none⟩) 4 4) = W3 at *
  (with_reducible refine (clone_any _ _ _ _ _ rk (by omega)).mono ?_)
  rintro e w4 ⟨⟨A5, c5, rfl, ho5⟩, hb4⟩
  have hd5 := Lib.hid (own_bytV (F := fun k => w.heap.size < k ∧ k ≠ gb) ho5 (HB.out.sub _ _) (fun k h1 h2 => ⟨by omega, by omega⟩))
  have kb4 := Blk.keep hb4 kb3
  have kr4 := Blk.keep hb4 kr3
  have kn4 := Blk.keep hb4 kn3
  have v34 := Lib.hid (BytV.below v33.out hb4)
  have B4 := B3.trans hb4
  have cb := kb4.cell
  have fb := kb4.frozen
  have zb := kb4.lt
  have cr := kr4.cell
  have fr := kr4.frozen
  have zr := kr4.lt
  clear ho5
  go_wp2_with fail
  have KF : KeepF (fun k => w.heap.size < k ∧ k ≠ gb) w4 (((((w4.setCell ⟨gb, 1, none⟩ (.slice (some ⟨w4.heap.size, 0, none⟩) 1 1)).setCell ⟨w.heap.size, 0, none⟩ (.slice (some ⟨W.heap.size + 1, 0, none⟩) 4 4)).setCell ⟨w.heap.size, 1, none⟩ (.slice (some ⟨w4.heap.size, 0, none⟩) 1 1)).setCell ⟨w.heap.size, 2, none⟩ (.slice none 0 0)).setCell ⟨w.heap.size, 3, none⟩ (.slice A2 m c2)) := (((((KeepF.refl _ w4).setCell (p := ⟨gb, 1, none⟩) (fun h => h.2 rfl) _).setCell (p := ⟨w.heap.size, 0, none⟩) (fun h => Nat.lt_irrefl _ h.1) _).setCell (p := ⟨w.heap.size, 1, none⟩) (fun h => Nat.lt_irrefl _ h.1) _).setCell (p := ⟨w.heap.size, 2, none⟩) (fun h => Nat.lt_irrefl _ h.1) _).setCell (p := ⟨w.heap.size, 3, none⟩) (fun h => Nat.lt_irrefl _ h.1) _
  have BF : Bl w (((((((w4.setCell ⟨gb, 1, none⟩ (.slice (some ⟨w4.heap.size, 0, none⟩) 1 1)).setCell ⟨w.heap.size, 0, none⟩ (.slice (some ⟨W.heap.size + 1, 0, none⟩) 4 4)).setCell ⟨w.heap.size, 1, none⟩ (.slice (some ⟨w4.heap.size, 0, none⟩) 1 1)).setCell ⟨w.heap.size, 2, none⟩ (.slice none 0 0)).setCell ⟨w.heap.size, 3, none⟩ (.slice A2 m c2)).alloc (.cells #[.slice A5 U c5] 24))) := (((((Below.setCell B4 (Nat.le_of_lt zr') _).setCell (Nat.le_refl _) _).setCell (Nat.le_refl _) _).setCell (Nat.le_refl _) _).setCell (Nat.le_refl _) _).alloc (by simp; omega) _
  have kf : Blk (((((((w4.setCell ⟨gb, 1, none⟩ (.slice (some ⟨w4.heap.size, 0, none⟩) 1 1)).setCell ⟨w.heap.size, 0, none⟩ (.slice (some ⟨W.heap.size + 1, 0, none⟩) 4 4)).setCell ⟨w.heap.size, 1, none⟩ (.slice (some ⟨w4.heap.size, 0, none⟩) 1 1)).setCell ⟨w.heap.size, 2, none⟩ (.slice none 0 0)).setCell ⟨w.heap.size, 3, none⟩ (.slice A2 m c2)).alloc (.cells #[.slice A5 U c5] 24))) w.heap.size #[.slice (some ⟨W.heap.size + 1, 0, none⟩) 4 4, .slice (some ⟨w4.heap.size, 0, none⟩) 1 1, .slice none 0 0, .slice A2 m c2] 35 := (((((kr4.far (p := ⟨gb, 1, none⟩) hne _).set 0 _).set 1 _).set 2 _).set 3 _).alloc _
  have kd : Blk (((((((w4.setCell ⟨gb, 1, none⟩ (.slice (some ⟨w4.heap.size, 0, none⟩) 1 1)).setCell ⟨w.heap.size, 0, none⟩ (.slice (some ⟨W.heap.size + 1, 0, none⟩) 4 4)).setCell ⟨w.heap.size, 1, none⟩ (.slice (some ⟨w4.heap.size, 0, none⟩) 1 1)).setCell ⟨w.heap.size, 2, none⟩ (.slice none 0 0)).setCell ⟨w.heap.size, 3, none⟩ (.slice A2 m c2)).alloc (.cells #[.slice A5 U c5] 24))) w4.heap.size #[.slice A5 U c5] 24 := Blk.newAt _ _ _ _ (by simp)
  have cf := kf.cell
  have e0 := NumV.below (NumV.keepF (NumV.of_block (F := fun k => w.heap.size < k ∧ k ≠ gb) [x0, x1, L, (U : Int)] (show _ ∧ _ from ⟨by omega, by omega⟩) kn4.heap rfl rfl) KF) (w' := ((((((w4.setCell ⟨gb, 1, none⟩ (.slice (some ⟨w4.heap.size, 0, none⟩) 1 1)).setCell ⟨w.heap.size, 0, none⟩ (.slice (some ⟨W.heap.size + 1, 0, none⟩) 4 4)).setCell ⟨w.heap.size, 1, none⟩ (.slice (some ⟨w4.heap.size, 0, none⟩) 1 1)).setCell ⟨w.heap.size, 2, none⟩ (.slice none 0 0)).setCell ⟨w.heap.size, 3, none⟩ (.slice A2 m c2)).alloc (.cells #[.slice A5 U c5] 24))) (by go_grown)
  have e1 := DataV.one kd (show (fun k => w.heap.size < k ∧ k ≠ gb) _ from ⟨by omega, by omega⟩) (BytV.below (BytV.keepF hd5.out KF) (w' := ((((((w4.setCell ⟨gb, 1, none⟩ (.slice (some ⟨w4.heap.size, 0, none⟩) 1 1)).setCell ⟨w.heap.size, 0, none⟩ (.slice (some ⟨W.heap.size + 1, 0, none⟩) 4 4)).setCell ⟨w.heap.size, 1, none⟩ (.slice (some ⟨w4.heap.size, 0, none⟩) 1 1)).setCell ⟨w.heap.size, 2, none⟩ (.slice none 0 0)).setCell ⟨w.heap.size, 3, none⟩ (.slice A2 m c2)).alloc (.cells #[.slice A5 U c5] 24))) (by go_grown))
  have e3 := BytV.below (BytV.keepF v34.out KF) (w' := ((((((w4.setCell ⟨gb, 1, none⟩ (.slice (some ⟨w4.heap.size, 0, none⟩) 1 1)).setCell ⟨w.heap.size, 0, none⟩ (.slice (some ⟨W.heap.size + 1, 0, none⟩) 4 4)).setCell ⟨w.heap.size, 1, none⟩ (.slice (some ⟨w4.heap.size, 0, none⟩) 1 1)).setCell ⟨w.heap.size, 2, none⟩ (.slice none 0 0)).setCell ⟨w.heap.size, 3, none⟩ (.slice A2 m c2)).alloc (.cells #[.slice A5 U c5] 24))) (by go_grown)
  generalize ((((((w4.setCell ⟨gb, 1, none⟩ (.slice (some ⟨w4.heap.size, 0, none⟩) 1 1)).setCell ⟨w.heap.size, 0, none⟩ (.slice (some ⟨W.heap.size + 1, 0, none⟩) 4 4)).setCell ⟨w.heap.size, 1, none⟩ (.slice (some ⟨w4.heap.size, 0, none⟩) 1 1)).setCell ⟨w.heap.size, 2, none⟩ (.slice none 0 0)).setCell ⟨w.heap.size, 3, none⟩ (.slice A2 m c2)).alloc (.cells #[.slice A5 U c5] 24)) = WF at *
  refine bodyPost_ret (v := .tuple #[.agg #[.slice (some ⟨W.heap.size + 1, 0, none⟩) 4 4, .slice (some ⟨w4.heap.size, 0, none⟩) 1 1, .slice none 0 0, .slice A2 m c2], .bool true]) (by simp [results, Try.results49, go_sem, cf]) rfl ⟨_, rfl, LyrV.mono (F := fun k => w.heap.size < k ∧ k ≠ gb) ⟨_, _, _, _, rfl, e0, e1, PartsV.nil _ _, e3⟩ (fun k h => Nat.le_of_lt h.1), BF⟩
end Go.Proofs.Ytoljdgfbkebgcaa
