/- sctpheartbeat: made, written, filled up. -/
import Derived.Test.YtoljdgfbkebgcaaTake2
import Derived.Test.YtoljdgfbkebgcaaDrw
import Derived.Test.YtoljdgfbkebgcaaGiv
import Derived.LoopTactic
import Derived.Test.YtoljdgfbkebgcaaSeCoo
import Derived.Test.YtoljdgfbkebgcaaBys
import Derived.Test.YtoljdgfbkebgcaaPrs
import Derived.Test.YtoljdgfbkebgcaaHeld
import Derived.Test.YtoljdgfbkebgcaaCopy
import Derived.Test.YtoljdgfbkebgcaaMeth
import Derived.Test.YtoljdgfbkebgcaaFil
import Derived.Test.YtoljdgfbkebgcaaPrb
namespace Go.Proofs.Ytoljdgfbkebgcaa
open Go.RowKit
theorem partsT (gt : Nat) (A0 A2 : Option Addr) (n0 c0 n2 c2 : Nat) (v1 v3 : Value) (i d : Int) (ls : Bool) (w : World) (k : Blk w gt (tkC A0 n0 c0 v1 (.slice A2 n2 c2) v3 i d ls) 89) :
    Calls Try.prog 58 #[.pointer (some ⟨gt, 0, none⟩)] w fun e w' => e = .returned (.slice A2 n2 c2) ∧ Chg gt w w' ∧ Blk w' gt (tkC A0 n0 c0 v1 (.slice A2 n2 c2) v3 i d true) 89 := by
  have kc := k.cell
  have kf := k.frozen
  have kz := k.lt
  unfold tkC at kc
  go_enter Try.func58, Try.ntmps58
  go_wp2_with fail
  go_ret
  exact ⟨rfl, (Chg.refl gt _).set 7 _, k.set 7 _⟩
def MadHea (gx g9 : Nat) (A6 : Option Addr) (j c6 : Nat) (T L U : Int) (A3 : Option Addr) (n3 c3 : Nat) (V : World) : Prop := V.cell? ⟨gx, 6, none⟩ = some (.slice A6 j c6) ∧ V.cell? ⟨g9, 0, none⟩ = some (.int .u16 T) ∧ V.cell? ⟨g9, 1, none⟩ = some (.int .u16 L) ∧ V.cell? ⟨g9, 2, none⟩ = some (.int .i64 U) ∧ V.cell? ⟨g9, 3, none⟩ = some (.slice A3 n3 c3)
set_option maxHeartbeats 4000000 in
set_option maxRecDepth 100000 in
theorem maHea_any (F : Nat → Prop) (A0 A1 A2 A3 : Option Addr) (c0 c1 np c2 n3 c3 : Nat) (x0 x1 L U : Int) (ps : List Prt) (w : World) (h : Rd .u64 w A0 4 c0 [x0, x1, L, U]) (b0 : 0 ≤ x0 ∧ x0 ≤ 255) (b1 : 0 ≤ x1 ∧ x1 ≤ 255) (b2 : 0 ≤ L ∧ L ≤ 65535) (b3 : 0 ≤ U ∧ U ≤ 4294967295)
    (hP : PartsV F w (.slice A2 np c2) ps) (hnp : np = ps.length) (hn1 : np ≤ 100) (hE : ∀ i, i < np → ∃ T L U, (ps.getD i Prt.nil).nums = [T, L, U] ∧ (0 ≤ T ∧ T ≤ 65535) ∧ (0 ≤ L ∧ L ≤ 65535) ∧ (0 ≤ U ∧ U ≤ 100000) ∧ (ps.getD i Prt.nil).data.length ≤ 1000) :
    Calls Try.prog 40 #[.string ⟨#[115, 99, 116, 112, 104, 101, 97, 114, 116, 98, 101, 97, 116]⟩, .agg #[.slice A0 4 c0, .slice A1 0 c1, .slice A2 np c2, .slice A3 n3 c3]] w fun e w' =>
      ∃ gx v B, e = .returned (.iface 120 (.pointer (some ⟨gx, 0, none⟩))) ∧ Bl w w' ∧ Blk w' gx #[.slice none 0 0, .slice none 0 0, .int .u8 x0, .int .u8 x1, .int .u16 L, .int .i64 U, v] 123 ∧ gx < B ∧ w.heap.size ≤ B ∧ DRow 124 (fun k => B ≤ k) B w' v ps := by
  have HP := Lib.hid hP
  have HE := Lib.hid hE
  have HNP := Lib.hid hnp
  clear hP hE hnp
  have H := Lib.hid h
  have HA0 := h.inF
  clear h
  go_enter Try.func40, Try.ntmps40
  go_wp2_with fail
  have B0 : Bl w (((w.alloc (.cells #[.slice A0 4 c0, .slice A1 0 c1, .slice A2 np c2, .slice A3 n3 c3] 35)).alloc (.cells #[.slice A0 4 c0, .slice A1 0 c1, .slice A2 np c2, .slice A3 n3 c3, .int .i64 0, .int .i64 0, .bool false, .bool false] 89)).alloc (.cells #[.slice none 0 0, .slice none 0 0, .int .u8 0, .int .u8 0, .int .u16 0, .int .i64 0, .slice none 0 0] 123)) := by go_grown
  have kt0 : Blk (((w.alloc (.cells #[.slice A0 4 c0, .slice A1 0 c1, .slice A2 np c2, .slice A3 n3 c3] 35)).alloc (.cells #[.slice A0 4 c0, .slice A1 0 c1, .slice A2 np c2, .slice A3 n3 c3, .int .i64 0, .int .i64 0, .bool false, .bool false] 89)).alloc (.cells #[.slice none 0 0, .slice none 0 0, .int .u8 0, .int .u8 0, .int .u16 0, .int .i64 0, .slice none 0 0] 123)) (w.heap.size + 1) (tkC A0 4 c0 (.slice A1 0 c1) (.slice A2 np c2) (.slice A3 n3 c3) 0 0 false) 89 := (Blk.newAt _ _ _ _ (by simp)).alloc _
  have kx0 : Blk (((w.alloc (.cells #[.slice A0 4 c0, .slice A1 0 c1, .slice A2 np c2, .slice A3 n3 c3] 35)).alloc (.cells #[.slice A0 4 c0, .slice A1 0 c1, .slice A2 np c2, .slice A3 n3 c3, .int .i64 0, .int .i64 0, .bool false, .bool false] 89)).alloc (.cells #[.slice none 0 0, .slice none 0 0, .int .u8 0, .int .u8 0, .int .u16 0, .int .i64 0, .slice none 0 0] 123)) (w.heap.size + 1 + 1) #[.slice none 0 0, .slice none 0 0, .int .u8 0, .int .u8 0, .int .u16 0, .int .i64 0, .slice none 0 0] 123 := Blk.newAt _ _ _ _ (by simp)
  have HA : Hid (InF (· < w.heap.size + 1) A0 4) := Lib.hid (HA0.mono fun _ h => Nat.lt_of_lt_of_le h (Nat.le_succ _))
  have HN : Hid (InF (· ≠ w.heap.size + 1) A0 4) := Lib.hid (HA0.mono fun _ h => Nat.ne_of_lt (Nat.lt_of_lt_of_le h (Nat.le_succ _)))
  have z0 : w.heap.size ≤ w.heap.size + 1 := Nat.le_succ _
  have zx : w.heap.size + 1 + 1 ≠ w.heap.size + 1 := by omega
  have zxw : w.heap.size ≤ w.heap.size + 1 + 1 := by omega
  have HW := Lib.hid (H.out.below B0)
  clear HA0
  generalize (((w.alloc (.cells #[.slice A0 4 c0, .slice A1 0 c1, .slice A2 np c2, .slice A3 n3 c3] 35)).alloc (.cells #[.slice A0 4 c0, .slice A1 0 c1, .slice A2 np c2, .slice A3 n3 c3, .int .i64 0, .int .i64 0, .bool false, .bool false] 89)).alloc (.cells #[.slice none 0 0, .slice none 0 0, .int .u8 0, .int .u8 0, .int .u16 0, .int .i64 0, .slice none 0 0] 123)) = W0 at *
  generalize hgx : w.heap.size + 1 + 1 = gx at *
  generalize hgt : w.heap.size + 1 = gt at *
  (with_reducible refine (chunkT gt A0 4 c0 _ _ _ 0 false _ x0 x1 L U _ kt0 HW.out HA.out (by omega) (by omega) rfl rfl rfl rfl b0 b1 b2 b3).mono ?_)
  rintro e w1 ⟨rfl, ch1, kt1⟩
  have kx1 := kx0.chg ch1 zx
  have X1 := ch1
  have HW1 := Lib.hid (HW.out.chg ch1 HN.out)
  have cx := kx1.cell
  have fx := kx1.frozen
  have zx1 := kx1.lt
  have KT := Lib.hid kt1
  have KX := Lib.hid kx1
  clear kt0 kx0 kt1 kx1 ch1
  go_wp2_with fail
  have S1 : Chg gx w1 ((((((w1.setCell ⟨gx, 0, none⟩ (.slice none 0 0)).setCell ⟨gx, 1, none⟩ (.slice none 0 0)).setCell ⟨gx, 2, none⟩ (.int .u8 x0)).setCell ⟨gx, 3, none⟩ (.int .u8 x1)).setCell ⟨gx, 4, none⟩ (.int .u16 L)).setCell ⟨gx, 5, none⟩ (.int .i64 U)) := ((((((Chg.refl gx _).set 0 (.slice none 0 0)).set 1 (.slice none 0 0)).set 2 (.int .u8 x0)).set 3 (.int .u8 x1)).set 4 (.int .u16 L)).set 5 (.int .i64 U)
  have kx1' := ((((((KX.out.set 0 (.slice none 0 0)).set 1 (.slice none 0 0)).set 2 (.int .u8 x0)).set 3 (.int .u8 x1)).set 4 (.int .u16 L)).set 5 (.int .i64 U))
  have kt1' := ((((((KT.out.far (p := ⟨gx, 0, none⟩) (Ne.symm zx) (.slice none 0 0)).far (p := ⟨gx, 1, none⟩) (Ne.symm zx) (.slice none 0 0)).far (p := ⟨gx, 2, none⟩) (Ne.symm zx) (.int .u8 x0)).far (p := ⟨gx, 3, none⟩) (Ne.symm zx) (.int .u8 x1)).far (p := ⟨gx, 4, none⟩) (Ne.symm zx) (.int .u16 L)).far (p := ⟨gx, 5, none⟩) (Ne.symm zx) (.int .i64 U))
  have HW1' := Lib.hid (HW1.out.chg S1 (HA.out.mono fun _ h => by omega))
  have B1 : Bl w ((((((w1.setCell ⟨gx, 0, none⟩ (.slice none 0 0)).setCell ⟨gx, 1, none⟩ (.slice none 0 0)).setCell ⟨gx, 2, none⟩ (.int .u8 x0)).setCell ⟨gx, 3, none⟩ (.int .u8 x1)).setCell ⟨gx, 4, none⟩ (.int .u16 L)).setCell ⟨gx, 5, none⟩ (.int .i64 U)) := S1.bl (X1.bl B0 z0) zxw
  clear cx fx zx1
  generalize ((((((w1.setCell ⟨gx, 0, none⟩ (.slice none 0 0)).setCell ⟨gx, 1, none⟩ (.slice none 0 0)).setCell ⟨gx, 2, none⟩ (.int .u8 x0)).setCell ⟨gx, 3, none⟩ (.int .u8 x1)).setCell ⟨gx, 4, none⟩ (.int .u16 L)).setCell ⟨gx, 5, none⟩ (.int .i64 U)) = V1 at *
  (with_reducible refine (partsT gt A0 A2 4 c0 np c2 _ _ _ _ _ _ kt1').mono ?_)
  rintro e w2 ⟨rfl, ch2, kt2⟩
  have kx2' := kx1'.chg ch2 zx
  simp only [List.setIfInBounds_toArray, List.set_cons_zero, List.set_cons_succ] at kx2'
  have kx2 : Blk w2 gx #[.slice none 0 0, .slice none 0 0, .int .u8 x0, .int .u8 x1, .int .u16 L, .int .i64 U, .slice none 0 0] 123 := kx2'
  have B2 : Bl w w2 := ch2.bl B1 z0
  have zx2 := kx2.lt
  have zt2 := kt2.lt
  clear kt1' kx1' ch2 B1 HW1' kx2' S1
  go_wp2_with fail
  have hzz := B2.size
  go_loopw [309] (fun i wr => Hid (∃ (j : Nat) (v : Value), j ≤ np ∧ i = .int .i64 j ∧ Bl w wr ∧ w2.heap.size ≤ wr.heap.size ∧ Blk wr gt (tkC A0 4 c0 (.slice A1 0 c1) (.slice A2 np c2) (.slice A3 n3 c3) 4 0 true) 89 ∧ Blk wr gx #[.slice none 0 0, .slice none 0 0, .int .u8 x0, .int .u8 x1, .int .u16 L, .int .i64 U, v] 123 ∧ v.ownBlock ≠ some gx ∧ DRow 124 (fun k => w2.heap.size ≤ k) w2.heap.size wr v (ps.take j))) (fun i _ => np - (intOf i).toNat)
  case atStart => exact Lib.hid ⟨0, .slice none 0 0, by omega, rfl, B2, Nat.le_refl _, kt2, kx2, by simp [Value.ownBlock], by simpa using DRow.nil _ _ _ _⟩
  case round =>
    obtain ⟨j, v, hj, rfl, hb, hsz, ktr, kxr, hvg, hdr⟩ := hrel.out
    clear hrel kt2 kx2
    obtain ⟨A6, c6, rfl⟩ := hdr.form
    have hlt : (ps.take j).length = j := by rw [List.length_take]; have := HNP.out; omega
    rw [hlt] at kxr hvg hdr
    have HDR := Lib.hid hdr
    have HKT := Lib.hid ktr
    have HKX := Lib.hid kxr
    have HB := Lib.hid hb
    by_cases hjq : j = np
    · clear hdr ktr kxr hb
      go_wp2_with fail
      (with_reducible refine (wholeT gt A0 A1 A2 4 c0 0 c1 np c2 _ _ _ true _ HKT.out (by simp) (by simp) (.inl rfl)).mono ?_)
      rintro e w9 ⟨rfl, q, rfl⟩
      go_wp2_with fail
      go_ret
      have hpt : ps.take np = ps := by rw [HNP.out]; exact List.take_length
      have HPP := HDR.out
      rw [hjq, hpt] at HPP
      have HKX' := HKX.out
      rw [hjq] at HKX'
      exact ⟨gx, _, w2.heap.size, rfl, Bl.drewN HB.out q, HKX'.same rfl, zx2, hzz, HPP.below ((Bl.refl _).drewN q)⟩
    · have hjq' : (j : Int) < (np : Int) := by omega
      obtain ⟨Ap, cp, ep, _, _, hel⟩ := HP.out
      obtain ⟨g, o, u0, u1, hA, e0, e1, hv0, hv1⟩ := hel j (by have := HNP.out; omega)
      obtain ⟨Tp, Lp, Up, hnum, t1, t2, t3, hdl⟩ := HE.out j (by omega)
      rw [hnum] at hv0
      obtain ⟨Aa, ca, rfl, _, ru'⟩ := hv0
      have ru : Rd .u64 w Aa 3 ca [Tp, Lp, Up] := ru'
      obtain ⟨⟨Ab, cb, rfl, _, rb⟩, hby⟩ := hv1
      simp at ep
      obtain ⟨rfl, hnp', rfl⟩ := ep
      obtain ⟨mb, hmb⟩ : ∃ mb, mb = (ps.getD j Prt.nil).data.length := ⟨_, rfl⟩
      rw [← hmb] at rb e1 hdl
      have d0 := Bl.keeps hb e0
      have d1 := Bl.keeps hb e1
      subst hA
      have RU := Lib.hid ru
      have RB := Lib.hid rb
      have HBY := Lib.hid hby
      have HNUM := Lib.hid hnum
      have HMB := Lib.hid hmb
      have hownr : ∀ k, (Value.slice A6 j c6).ownBlock = some k → w2.heap.size ≤ k ∧ k < wr.heap.size := fun k hk => by
        obtain ⟨_, ho, _⟩ := HDR.out
        exact ho.lt k hk
      clear hdr ktr kxr hb hel e0 e1 ru' ru rb hby hnum hnp' hmb
      go_wp2_with fail
      clear d0 d1
      have B5 : Bl wr (wr.alloc (.cells #[.slice Aa 3 ca, .slice Ab mb cb] 57)) := by go_grown
      (with_reducible refine (given_any Tp Lp Up Aa Ab ca mb cb _ _ (RU.out.below (HB.out.trans B5)) (RB.out.below (HB.out.trans B5)) (by omega) t1 t2 t3).mono ?_)
      rintro e w5 ⟨A5, c5, rfl, hb5, ho5⟩
      have B6 := B5.trans hb5
      have HO5 := Lib.hid (own_mono ho5 B5.size)
      clear ho5 hb5 B5
      go_wp2_with fail
      have B7 : Bl wr (w5.alloc (.cells #[.int .u16 Tp, .int .u16 Lp, .int .i64 Up, .slice A5 mb c5] 111)) := B6.trans (by go_grown)
      have kp : Blk (w5.alloc (.cells #[.int .u16 Tp, .int .u16 Lp, .int .i64 Up, .slice A5 mb c5] 111)) w5.heap.size #[.int .u16 Tp, .int .u16 Lp, .int .i64 Up, .slice A5 mb c5] 111 := Blk.new _ _ _
      have kx5 := Blk.keep B7 HKX.out
      have kt5 := Blk.keep B7 HKT.out
      have hdr5 := Lib.hid (DRow.below HDR.out B7)
      have ho7 := Lib.hid (own_bl HO5.out (show Bl w5 (w5.alloc (.cells #[.int .u16 Tp, .int .u16 Lp, .int .i64 Up, .slice A5 mb c5] 111)) by go_grown))
      have HB5 := Lib.hid (HB.out.trans B7)
      have hz5 := B6.size
      have hz7 : w2.heap.size ≤ (w5.alloc (.cells #[.int .u16 Tp, .int .u16 Lp, .int .i64 Up, .slice A5 mb c5] 111)).heap.size := by simp; omega
      clear HDR HKX HKT HB HO5
      generalize hg9 : w5.heap.size = g9 at *
      generalize w5.alloc (.cells #[.int .u16 Tp, .int .u16 Lp, .int .i64 Up, .slice A5 mb c5] 111) = W5 at *
      have q0 : ∀ p : HoldT (MadHea gx g9 A6 j c6 Tp Lp Up A5 mb c5), p.val.cell? ⟨gx, 6, none⟩ = some (.slice A6 j c6) := fun p => p.ok.1
      have q1 : ∀ p : HoldT (MadHea gx g9 A6 j c6 Tp Lp Up A5 mb c5), p.val.cell? ⟨g9, 0, none⟩ = some (.int .u16 Tp) := fun p => p.ok.2.1
      have q2 : ∀ p : HoldT (MadHea gx g9 A6 j c6 Tp Lp Up A5 mb c5), p.val.cell? ⟨g9, 1, none⟩ = some (.int .u16 Lp) := fun p => p.ok.2.2.1
      have q3 : ∀ p : HoldT (MadHea gx g9 A6 j c6 Tp Lp Up A5 mb c5), p.val.cell? ⟨g9, 2, none⟩ = some (.int .i64 Up) := fun p => p.ok.2.2.2.1
      have q4 : ∀ p : HoldT (MadHea gx g9 A6 j c6 Tp Lp Up A5 mb c5), p.val.cell? ⟨g9, 3, none⟩ = some (.slice A5 mb c5) := fun p => p.ok.2.2.2.2
      have mk : ∀ {V : World}, Blk V gx #[.slice none 0 0, .slice none 0 0, .int .u8 x0, .int .u8 x1, .int .u16 L, .int .i64 U, .slice A6 j c6] 123 → Blk V g9 #[.int .u16 Tp, .int .u16 Lp, .int .i64 Up, .slice A5 mb c5] 111 → HoldS (MadHea gx g9 A6 j c6 Tp Lp Up A5 mb c5) V := fun k1 k2 => HoldS.of ⟨k1.cell 6, k2.cell 0, k2.cell 1, k2.cell 2, k2.cell 3⟩
      haveI hne9 : Nonempty (HoldT (MadHea gx g9 A6 j c6 Tp Lp Up A5 mb c5)) := ⟨⟨W5, kx5.cell 6, kp.cell 0, kp.cell 1, kp.cell 2, kp.cell 3⟩⟩
      refine wp_region_float (S := HoldS (MadHea gx g9 A6 j c6 Tp Lp Up A5 mb c5)) [true, true, true, true, true, true, false, false, false, false, false] 8 (by kernel_rfl) (by kernel_rfl) (mk (kx5.same rfl) (kp.same rfl)) ?_
      simp only [selQ, selN, earlyN]
      repeat (first | go_big_quiet_skip | (go_big_quiet_want; go_big_quiet_op; go_big_quiet_on))
      refine wpQuiet_nil ?_
      clear q0 q1 q2 q3 q4
      refine wpN_want rfl (fun K hK => ?_)
      go_big_op
      have B8 : Bl W5 (W5.alloc (.cells #[.int .u16 Tp, .int .u16 Lp, .int .i64 Up, .slice A5 mb c5] 124)).drew := ((Bl.refl W5).trans (by go_grown)).drew
      have kn8 : Blk (W5.alloc (.cells #[.int .u16 Tp, .int .u16 Lp, .int .i64 Up, .slice A5 mb c5] 124)).drew W5.heap.size #[.int .u16 Tp, .int .u16 Lp, .int .i64 Up, .slice A5 mb c5] 124 := (Blk.new W5 _ _).same rfl
      refine hK _ _ (mk (Blk.keep B8 kx5) (Blk.keep B8 kp)) ?_
      clear hK K
      refine wpN_if rfl (fun K hK => ?_)
      obtain ⟨vs6, ho6', hes6⟩ := DRow.below hdr5.out B8
      have ho6 := ho6'
      rw [hlt] at ho6
      have kx8 := Blk.keep B8 kx5
      have kp8 := Blk.keep B8 kp
      have kt8 := Blk.keep B8 kt5
      have hz8 := B8.size
      have ho8 := own_bl ho7.out B8
      have HB8 := Lib.hid (HB5.out.trans B8)
      generalize (W5.alloc (.cells #[.int .u16 Tp, .int .u16 Lp, .int .i64 Up, .slice A5 mb c5] 124)).drew = W8 at *
      refine step_app rfl _ _ 121 124 (.agg #[.int .u16 0, .int .u16 0, .int .i64 0, .slice none 0 0]) 4 40 w2.heap.size rfl ud121 info124 rfl (by decide) (by decide) (.slice A6 j c6) j vs6 (some ⟨W5.heap.size, 0, none⟩) 1 1 [.int .u16 Tp, .int .u16 Lp, .int .i64 Up, .slice A5 mb c5] rfl rfl ho6 (Blk.src kn8 1 4 rfl (by simp [Value.oneCell'])) (by omega) (by omega) ?_
      intro A9 c9 w9 hp
      have kx9 := hp.blk kx8 hvg
      have kt9 := hp.blk kt8 (fun e => by have := hownr _ e; omega)
      have kp9 := hp.blk kp8 (fun e => by have := hownr _ e; omega)
      refine hK _ _ (mk kx9 kp9) ?_
      clear hK K
      obtain ⟨A5', c5', e5, r5⟩ := own_rd ho8
      simp at e5
      obtain ⟨rfl, rfl⟩ := e5
      have hI5 : InF (fun k => w2.heap.size ≤ k ∧ (Value.slice A6 j c6).ownBlock ≠ some k) A5 mb := own_inF ho8 (fun k h1 _ => ⟨by omega, fun e => by have := hownr _ e; omega⟩) mb
      have hda := DRow.app (P := ps.getD j Prt.nil) hes6 ho6' (by rw [hlt]; exact hp) HNUM.out t1 r5 hI5 (by omega)
      rw [hlt] at hda
      have hts : ps.take j ++ [ps.getD j Prt.nil] = ps.take (j + 1) := by
        have := HNP.out
        rw [List.take_add_one, List.getElem?_eq_getElem (by omega)]
        simp [List.getD_eq_getElem?_getD, List.getElem?_eq_getElem (show j < ps.length by omega)]
      rw [hts] at hda
      have hdb := hda.set kx9 (by decide) (by show ¬ (w2.heap.size ≤ gx); omega) 6 (.slice A9 (j + 1) c9)
      have B9 : Bl w w9 := Below.grown HB8.out hp.grown HB8.out.size (fun k hk => by have := hownr _ hk; omega)
      have hne8 : (Value.slice A9 (j + 1) c9).ownBlock ≠ some gx := by
        rcases hp.at_ with e | e
        · rw [e]; exact hvg
        · rw [e]; intro e2; simp at e2; have := kx8.lt; omega
      have hzw : W8.heap.size ≤ w9.heap.size := hp.grown.size
      have HDB := Lib.hid hdb
      have cg := kx9.cell
      have fg := kx9.frozen
      have zg := kx9.lt
      clear hdb hda hes6 ho6 ho6' hp mk hne9 kx8 kp8 kt8 kx5 kp kt5 hdr5 ho7 ho8 r5 hI5 kp9 kn8
      refine wpN_late ?_
      go_wp2_with fail
      refine NoPanic.normal ?_
      go_wp2_with fail
      have k9 := kx9.set 6 (.slice A9 (j + 1) c9)
      simp only [List.setIfInBounds_toArray, List.set_cons_zero, List.set_cons_succ] at k9
      have kt10 := kt9.far (p := ⟨gx, 6, none⟩) (Ne.symm zx) (.slice A9 (j + 1) c9)
      have B10 : Bl w (w9.setCell ⟨gx, 6, none⟩ (.slice A9 (j + 1) c9)) := Below.setCell B9 zxw _
      have hz9 : w2.heap.size ≤ (w9.setCell ⟨gx, 6, none⟩ (.slice A9 (j + 1) c9)).heap.size := by simp; omega
      exact ⟨Lib.hid ⟨j + 1, .slice A9 (j + 1) c9, by omega, by simp, B10, hz9, kt10, k9, hne8, HDB.out⟩, by simp [intOf]; omega⟩
end Go.Proofs.Ytoljdgfbkebgcaa
namespace Go.Proofs.Ytoljdgfbkebgcaa
open Go.RowKit
/-- The bytes of the first parameters. -/
def flatB (ps : List Prt) (j : Nat) : List Int := ((ps.take j).map prmB).flatten
theorem flatB_succ (ps : List Prt) (j : Nat) (h : j < ps.length) : flatB ps (j + 1) = flatB ps j ++ prmB (ps.getD j Prt.nil) := by
  unfold flatB
  have e : ps.getD j Prt.nil = ps[j] := by simp [List.getD_eq_getElem?_getD, List.getElem?_eq_getElem h]
  rw [List.take_add_one, List.getElem?_eq_getElem h, List.map_append, List.flatten_append, e]
  simp only [Option.toList_some, List.map_cons, List.map_nil, List.flatten_cons, List.flatten_nil, List.append_nil]
theorem flatB_all (ps : List Prt) : flatB ps ps.length = (ps.map prmB).flatten := by unfold flatB; rw [List.take_length]
set_option maxHeartbeats 4000000 in
set_option maxRecDepth 100000 in
theorem seHea_any (gb : Nat) (A : Option Addr) (n c : Nat) (app : Int) (l : List Int) (x0 x1 L U : Int) (A0 : Option Addr) (q c0 : Nat) (F : Nat → Prop) (B m : Nat) (ps : List Prt) (o1 o2 : Bool) (w : World) (kb : Blk w gb (bfC A n c 0 app) 144) (h : Rd .u8 w A n c l) (hA : InF (· ≠ gb) A n) (hc : c ≤ 100000) (b0 : 0 ≤ x0 ∧ x0 ≤ 255) (b1 : 0 ≤ x1 ∧ x1 ≤ 255) (hd : DRow 124 F B w (.slice A0 q c0) ps) (hq : q = ps.length) (hq1 : q ≤ 100) (hmm : m = ((ps.map prmB).flatten).length) (hm : m ≤ 1000) (hk4 : up4 (4 + m) = 4 + m) :
    Calls Try.prog 125 #[.agg #[.slice none 0 0, .slice none 0 0, .int .u8 x0, .int .u8 x1, .int .u16 L, .int .i64 U, .slice A0 q c0], .iface 141 (.pointer (some ⟨gb, 0, none⟩)), .agg #[.bool o1, .bool o2]] w fun e w' =>
      ∃ h', e = .returned .nilIface ∧ w.heap.size ≤ h' ∧ Chg gb w w' ∧ Blk w' gb (bfC (some ⟨h', 0, none⟩) (4 + m + n) (c + (4 + m)) (4 + m : Nat) app) 144 ∧ Rd .u8 w' (some ⟨h', 0, none⟩) (4 + m + n) (c + (4 + m)) (([x0, x1, (4 + (m : Int)) / 256, (4 + (m : Int)) % 256] ++ (ps.map prmB).flatten) ++ l) := by
  generalize hpe : (ps.map prmB).flatten = p at *
  have HPE := Lib.hid hpe
  have H := Lib.hid h
  have HA := Lib.hid hA
  have K := Lib.hid kb
  have HD := Lib.hid hd
  have HQ := Lib.hid hq
  have HMM := Lib.hid hmm
  have hcap := h.cap
  have hl := h.len
  have kz := kb.lt
  have HK4' := Lib.hid hk4
  clear h hA kb hd hq hmm hk4 hpe
  obtain ⟨k, hk⟩ : ∃ k, k = 4 + m := ⟨_, rfl⟩
  rw [← hk]
  have HK := Lib.hid hk
  clear hk
  go_enter Try.func125, Try.ntmps125
  go_wp2_with fail
  have B0' : Bl w ((w.alloc (.cells #[.slice none 0 0, .slice none 0 0, .int .u8 x0, .int .u8 x1, .int .u16 L, .int .i64 U, .slice A0 q c0] 123)).alloc (.cells #[.bool o1, .bool o2] 71)) := by go_grown
  have ks' : Blk ((w.alloc (.cells #[.slice none 0 0, .slice none 0 0, .int .u8 x0, .int .u8 x1, .int .u16 L, .int .i64 U, .slice A0 q c0] 123)).alloc (.cells #[.bool o1, .bool o2] 71)) w.heap.size #[.slice none 0 0, .slice none 0 0, .int .u8 x0, .int .u8 x1, .int .u16 L, .int .i64 U, .slice A0 q c0] 123 := (Blk.new w _ _).alloc _
  generalize ((w.alloc (.cells #[.slice none 0 0, .slice none 0 0, .int .u8 x0, .int .u8 x1, .int .u16 L, .int .i64 U, .slice A0 q c0] 123)).alloc (.cells #[.bool o1, .bool o2] 71)) = W00 at *
  have hz0 := B0'.size
  have hwW := ks'.lt
  go_loopw [7, 16] (fun pv i wr => Hid (∃ (j mj cj : Nat) (Aj : Option Addr), j ≤ q ∧ i = .int .i64 j ∧ pv = .slice Aj mj cj ∧ mj ≤ j * 1004 ∧ Bl w wr ∧ W00.heap.size ≤ wr.heap.size ∧ Blk wr w.heap.size #[.slice none 0 0, .slice none 0 0, .int .u8 x0, .int .u8 x1, .int .u16 L, .int .i64 U, .slice A0 q c0] 123 ∧ mj = (flatB ps j).length ∧ wr.ownsRow W00.heap.size 5 1 (.slice Aj mj cj) mj ((flatB ps j).map (Value.int .u8)))) (fun _ i _ => q - (intOf i).toNat)
  case atStart => exact Lib.hid ⟨0, 0, 0, none, by omega, rfl, rfl, by omega, B0', Nat.le_refl _, ks', rfl, World.ownsRow_nil _ _ _ _⟩
  case round =>
    obtain ⟨j, mj, cj, Aj, hj, rfl, rfl, hmj, hb, hW00, ks, hmjl, ho⟩ := hrel.out
    clear hrel ks'
    have HO := Lib.hid ho
    have HKS := Lib.hid ks
    have HB := Lib.hid hb
    have HML := Lib.hid hmjl
    by_cases hjq : j < q
    · have hjq' : (j : Int) < (q : Int) := by omega
      obtain ⟨vs, hov, hel⟩ := HD.out
      obtain ⟨T, L', U', Ap, np, cp, hpc⟩ := hel j (by have := HQ.out; omega)
      have hov' := hov
      rw [← HQ.out] at hov'
      obtain ⟨g0, cs, hA0, _, _, kg, hcs⟩ := own_cell4 hov' (by omega)
      have kg' := Blk.keep hb kg
      have q0 : ∀ i, wr.cell? ⟨g0, i, none⟩ = cs[i]? := kg'.cell
      have d0 : wr.cell? ⟨g0, j * 4, none⟩ = some (.int .u16 T) := by rw [q0, hcs _ (by omega)]; exact hpc.c0
      have d1 : wr.cell? ⟨g0, j * 4 + 1, none⟩ = some (.int .u16 L') := by rw [q0, hcs _ (by omega)]; exact hpc.c1
      have d2 : wr.cell? ⟨g0, j * 4 + 2, none⟩ = some (.int .i64 U') := by rw [q0, hcs _ (by omega)]; exact hpc.c2
      have d3 : wr.cell? ⟨g0, j * 4 + 3, none⟩ = some (.slice Ap np cp) := by rw [q0, hcs _ (by omega)]; exact hpc.c3
      have HPC := Lib.hid hpc
      subst hA0
      clear q0 hpc kg kg' hcs hov hov' hel ho ks hb hmjl
      go_wp2_with fail
      clear d0 d1 d2 d3
      have B5 : Bl wr (wr.alloc (.cells #[.int .u16 T, .int .u16 L', .int .i64 U', .slice Ap np cp] 124)) := by go_grown
      (with_reducible refine (bys_any T L' U' Ap np cp _ _ (HPC.out.rd.below (HB.out.trans B5)) HPC.out.bT HPC.out.small).mono ?_)
      rintro e w5 ⟨g, rfl, hb5, hg5, r5⟩
      have B6 := B5.trans hb5
      have hnl := HPC.out.rd.len
      have hku : up4 (4 + np) ≤ 1004 := by have := HPC.out.small; unfold up4; omega
      have hpb : prmB (ps.getD j Prt.nil) = [T / 256, T % 256, (4 + (np : Int)) / 256, (4 + (np : Int)) % 256] ++ (ps.getD j Prt.nil).data ++ List.replicate (up4 (4 + np) - (4 + np)) 0 := by
        unfold prmB
        rw [HPC.out.nums, hnl]
        rfl
      rw [← hpb] at r5
      have hfs := flatB_succ ps j (by have := HQ.out; omega)
      have hpl : (prmB (ps.getD j Prt.nil)).length = up4 (4 + np) := r5.len
      have R5 := Lib.hid r5
      have HO5 := Lib.hid (own_bl HO.out B6)
      have HFS := Lib.hid hfs
      have HPL := Lib.hid hpl
      have HB6 := Lib.hid (HB.out.trans B6)
      have HKS6 := Lib.hid (Blk.keep B6 HKS.out)
      have hz6 : W00.heap.size ≤ w5.heap.size := Nat.le_trans hW00 B6.size
      clear hb5 B5 r5 hfs hpl hpb
      generalize up4 (4 + np) = kk at *
      go_wp2_with (at_builtin; refine wpList_app rfl (.tmp 20) (.tmp 22) 24 5 (.int .u8 0) 1 1 W00.heap.size rfl Try.underlying24 info5 rfl (by decide) (by decide) (.slice Aj mj cj) mj _ (some ⟨g, 0, none⟩) kk kk _ rfl rfl HO5.out R5.out.src (by omega) (by omega) ?_; intro A9 c9 w9 hp)
      have B9 : Bl w w9 := Below.grown HB6.out hp.grown HB6.out.size (fun k hk => by have := HO5.out.lt k hk; omega)
      have hks9 : Blk w9 w.heap.size _ 123 := hp.blk HKS6.out (fun e => by have := HO5.out.lt _ e; omega)
      have hml := HML.out
      have hpl := HPL.out
      exact ⟨Lib.hid ⟨j + 1, mj + kk, c9, A9, by omega, by simp, rfl, by omega, B9, Nat.le_trans hz6 hp.grown.size, hks9, by rw [HFS.out, List.length_append]; omega, by rw [HFS.out, List.map_append]; exact hp.own⟩, by simp [intOf]; omega⟩
    have hjq2 : j = q := by omega
    have hjq3 : ¬ ((j : Int) < (q : Int)) := by omega
    clear ho ks hb hmjl
    go_wp2_with fail
    have ho := HO.out
    have hb := HB.out
    have hfa : flatB ps j = p := by rw [hjq2, HQ.out, flatB_all, HPE.out]
    have hmj2 : mj = m := by rw [HML.out, hfa, HMM.out]
    rw [hfa, hmj2] at ho
    have hpl : p.length = m := HMM.out.symm
    clear HML HO hmj hfa
    subst hmj2
    obtain ⟨A5', c5', e5, r5⟩ := own_rd ho
    simp at e5
    obtain ⟨rfl, rfl⟩ := e5
    have HP := Lib.hid r5
    have HA5 : Hid (InF (· ≠ gb) Aj mj) := Lib.hid (own_inF ho (fun k h1 _ => by omega) mj)
    have e2 : ((4 : Int) + mj + 3) / 4 * 4 = (4 : Int) + mj := by have := HK4'.out; unfold up4 at this; omega
    have B0 := hb
    have ks2 := HKS.out
    clear ho r5 hb HKS HB HMM HQ HD
    have hk := HK.out
    have hU4 : 4 ≤ k ∧ 4 + mj ≤ k ∧ k ≤ 4 + mj := by omega
    have hki : (4 : Int) + mj = (k : Int) := by omega
    have HKI := Lib.hid hki
    clear hk hki
    have ks := ks2
    clear ks2
    have hgs : w.heap.size ≠ gb := Nat.ne_of_gt kz
    have hgW : w.heap.size < wr.heap.size := ks.lt
    have HE2 := Lib.hid e2
    clear e2
    have hna := nilPre ⟨gb, 0, none⟩
    have B0d : Bl w wr.drew := B0.drew
    go_region_with (first
      | (go_at_call 93; (with_reducible refine (round_any _ (by omega) (by omega) _).mono ?_); rintro e w1 ⟨rfl, rfl⟩; rw [HE2.out])
      | (go_at_call 140; (with_reducible refine (prependB gb A n c k _ app l wr.drew (K.out.below B0d) (H.out.below B0d) HA.out HKI.out (by omega) (by omega) hc).mono ?_); rintro e w1 ⟨rfl, ch1, kb1, kd1⟩))
    all_goals
      have X1 : Chg gb w w1 := (Chg.of B0d).trans ch1
      have ks1 := (ks.same (w' := wr.drew) rfl).chg ch1 hgs
      have hgh : wr.heap.size ≠ gb := by omega
      have hgh2 : w.heap.size ≠ wr.heap.size := by omega
      have hle : w.heap.size ≤ wr.heap.size := by omega
      have hsz := splice_size c k n l hl hcap
      have kd1' : Blk w1 wr.heap.size (splice (zs (c + k)).toList k (l.map (Value.int .u8))).toArray 5 := kd1
      have kb1' : Blk w1 gb (bfC (some ⟨wr.heap.size, 0, none⟩) (k + n) (c + k) k app) 144 := kb1
      generalize hcs : (splice (zs (c + k)).toList k (l.map (Value.int .u8))).toArray = cs at *
      have HCS := Lib.hid hcs
      obtain ⟨u0, e0⟩ : ∃ u, cs[0]? = some u := ⟨_, Array.getElem?_eq_getElem (by omega)⟩
      obtain ⟨u1, e1⟩ : ∃ u, cs[1]? = some u := ⟨_, Array.getElem?_eq_getElem (by omega)⟩
      have c0 : w1.cell? ⟨wr.heap.size, 0, none⟩ = some u0 := (kd1'.cell 0).trans e0
      have c1 : w1.cell? ⟨wr.heap.size, 1, none⟩ = some u1 := (kd1'.cell 1).trans e1
      have f0 := kd1'.frozen 0
      have f1 := kd1'.frozen 1
      have cs1 := ks1.cell
      have zs1 := ks1.lt
      have zd1 := kd1'.lt
      have KB1 := Lib.hid kb1'
      have KD1 := Lib.hid kd1'
      have KS1 := Lib.hid ks1
      have Y1 : Chg gb wr w1 := (Chg.of (Bl.refl wr).drew).trans ch1
      have hlew : wr.heap.size ≤ wr.heap.size := Nat.le_refl _
      clear kb1 kd1 kb1' kd1' ks1 hcs e0 e1 ks ch1
      generalize hwre : wr.heap.size = h' at *
      go_wp2_with fail
      have X2 : Chg gb w ((w1.setCell ⟨h', 0, none⟩ (.int .u8 x0)).setCell ⟨h', 1, none⟩ (.int .u8 x1)) := (X1.new (p := ⟨h', 0, none⟩) hle _).new (p := ⟨h', 1, none⟩) hle _
      have Y2 : Chg gb wr ((w1.setCell ⟨h', 0, none⟩ (.int .u8 x0)).setCell ⟨h', 1, none⟩ (.int .u8 x1)) := (Y1.new (p := ⟨h', 0, none⟩) (Nat.le_of_eq hwre) _).new (p := ⟨h', 1, none⟩) (Nat.le_of_eq hwre) _
      have kd2 := (KD1.out.set 0 (.int .u8 x0)).set 1 (.int .u8 x1)
      have kb2 := (KB1.out.far (p := ⟨h', 0, none⟩) (Ne.symm hgh) (.int .u8 x0)).far (p := ⟨h', 1, none⟩) (Ne.symm hgh) (.int .u8 x1)
      have ks2 := (KS1.out.far (p := ⟨h', 0, none⟩) hgh2 (.int .u8 x0)).far (p := ⟨h', 1, none⟩) hgh2 (.int .u8 x1)
      clear c0 c1 f0 f1 cs1 zs1 zd1
      generalize ((w1.setCell ⟨h', 0, none⟩ (.int .u8 x0)).setCell ⟨h', 1, none⟩ (.int .u8 x1)) = W0 at *
      have s0 := run_cut (some ⟨h', 0, none⟩) k (c + k) 2 4 2 4 rfl rfl (by omega) (by omega) 24 Try.underlying24 size5
      have sa0 : cutA (some ⟨h', 0, none⟩) (c + k) 2 = some ⟨h', 2, none⟩ := by unfold cutA; rw [if_neg (by omega)]; rfl
      rw [sa0] at s0
      refine wp_region_float (S := Grw W0) [true, true, true, true, true, false] 5 (by kernel_rfl) (by kernel_rfl) (Grw.drew W0) ?_
      simp only [selQ, selN, earlyN]
      repeat (first | go_big_quiet_skip | (go_big_quiet_want; go_big_quiet_op; go_big_quiet_on))
      refine wpQuiet_nil ?_
      refine wpN_late ?_
      go_wp2_with fail
      (with_reducible refine (put16_any h' 2 _ _ _ _ (kd2.same (w' := W0.drew) rfl) (by simp only [Array.size_setIfInBounds]; omega) (by omega)).mono ?_)
      rintro e w2 ⟨rfl, ch2, kd3⟩
      have X3 : Chg gb w w2 := ⟨ch2.os.trans X2.os, ch2.tape.trans X2.tape, ch2.output.trans X2.output, Nat.le_trans X2.size ch2.size, fun i hi hlt => (ch2.block i (by omega) (Nat.lt_of_lt_of_le hlt X2.size)).trans (X2.block i hi hlt)⟩
      have Y3 : Chg gb wr w2 := ⟨ch2.os.trans Y2.os, ch2.tape.trans Y2.tape, ch2.output.trans Y2.output, Nat.le_trans Y2.size ch2.size, fun i hi hlt => (ch2.block i (by omega) (Nat.lt_of_lt_of_le hlt Y2.size)).trans (Y2.block i hi hlt)⟩
      have kb3 := (kb2.same (w' := W0.drew) rfl).chg ch2 (Ne.symm hgh)
      have ks3 := (ks2.same (w' := W0.drew) rfl).chg ch2 hgh2
      clear s0 sa0 ch2
      have hk4 : 4 ≤ k := hU4.1
      have hkm : k - 4 = mj := by have := HK.out; omega
      have RP3 := HP.out.chg Y3 HA5.out
      have hcz : ((((cs.setIfInBounds 0 (.int .u8 x0)).setIfInBounds 1 (.int .u8 x1)).setIfInBounds 2 (.int .u8 ((4 + (mj : Int)) / 256))).setIfInBounds (2 + 1) (.int .u8 ((4 + (mj : Int)) % 256))).size = c + k := by simp only [Array.size_setIfInBounds]; exact hsz
      have H0' : Hid (∀ i, i < 4 → ((((cs.setIfInBounds 0 (.int .u8 x0)).setIfInBounds 1 (.int .u8 x1)).setIfInBounds 2 (.int .u8 ((4 + (mj : Int)) / 256))).setIfInBounds (2 + 1) (.int .u8 ((4 + (mj : Int)) % 256)))[i]? = some (.int .u8 ([x0, x1, (4 + (mj : Int)) / 256, (4 + (mj : Int)) % 256].getD i 0))) := Lib.hid (by
        intro i hi
        match i, hi with
        | 0, _ => simp [Array.getElem?_setIfInBounds, show 0 < cs.size by omega]
        | 1, _ => simp [Array.getElem?_setIfInBounds, show 1 < cs.size by omega]
        | 2, _ => simp [Array.getElem?_setIfInBounds, show 2 < cs.size by omega]
        | 3, _ => simp [Array.getElem?_setIfInBounds, show 3 < cs.size by omega])
      have H4' : Hid (∀ i, ((((cs.setIfInBounds 0 (.int .u8 x0)).setIfInBounds 1 (.int .u8 x1)).setIfInBounds 2 (.int .u8 ((4 + (mj : Int)) / 256))).setIfInBounds (2 + 1) (.int .u8 ((4 + (mj : Int)) % 256)))[4 + i]? = cs[4 + i]?) := Lib.hid (by
        intro i
        repeat rw [Array.getElem?_setIfInBounds_ne (by omega)])
      generalize (((cs.setIfInBounds 0 (.int .u8 x0)).setIfInBounds 1 (.int .u8 x1)).setIfInBounds 2 (.int .u8 ((4 + (mj : Int)) / 256))).setIfInBounds (2 + 1) (.int .u8 ((4 + (mj : Int)) % 256)) = dd at *
      have hdl : 4 ≤ dd.toList.length := by simp [hcz]; omega
      obtain ⟨w4, hcp, hb4, kd4⟩ : ∃ w4, (Builtin.copy_ #[24, 24] 3 #[.slice (cutA (some ⟨h', 0, none⟩) (c + k) 4) (k - 4) (c + k - 4), .slice Aj mj cj]).run Try.prog w2 = .ok (goInt mj) w4 ∧ Below h' w2 w4 ∧ Blk w4 h' (splice dd.toList 4 (p.map (Value.int .u8))).toArray 5 := by
        by_cases hm0 : mj = 0
        · have hp0 : p = [] := List.eq_nil_of_length_eq_zero (by omega)
          refine ⟨w2, ?_, Below.refl _ _, ?_⟩
          · have := run_copy_none (P := Try.prog) w2 24 24 3 5 (cutA (some ⟨h', 0, none⟩) (c + k) 4) Aj (k - 4) (c + k - 4) mj cj Try.underlying24 info5s (by rw [hkm, hm0]; rfl)
            rw [this, hm0]
            rfl
          · have es : (splice dd.toList 4 (p.map (Value.int .u8))).toArray = dd := by rw [hp0]; simp [splice]
            rw [es]
            exact kd3
        · obtain ⟨g, o, rfl, _, hc'⟩ := RP3.at (by omega)
          have ec : cutA (some ⟨h', 0, none⟩) (c + k) 4 = some ⟨h', 4, none⟩ := by unfold cutA; rw [if_neg (by omega)]; rfl
          rw [ec]
          have e := run_copy_row (P := Try.prog) w2 24 24 3 5 h' 4 (k - 4) (c + k - 4) ⟨g, o, none⟩ mj cj dd 5 (p.map (Value.int .u8)) Try.underlying24 info5s kd3.heap (by rw [List.length_map, hpl, hkm]; exact (Nat.min_self mj).symm) (fun j u hj => RP3.src.cell _ rfl j u hj) (by simp [hpl, hcz]; omega) (fun u hu => by simp at hu; obtain ⟨x, _, rfl⟩ := hu; rfl)
          rw [List.length_map, hpl] at e
          refine ⟨_, e, below_setRow (Below.refl _ _) (Nat.le_refl _) _, ⟨?_⟩⟩
          have := setRow_heap w2 h' dd (splice dd.toList 4 (p.map (Value.int .u8))).toArray 5 _ kd3.heap
          simpa [splice, hpl] using this
      have s1 := run_cut_l (some ⟨h', 0, none⟩) k (c + k) 4 4 rfl hk4 24 Try.underlying24 size5
      have gbh : gb < h' := Nat.lt_of_lt_of_le kz hle
      have kb4 : Blk w4 gb (bfC (some ⟨h', 0, none⟩) (k + n) (c + k) k app) 144 := ⟨(hb4.block gb gbh).trans kb3.heap⟩
      have X4 : Chg gb w w4 := ⟨hb4.os.trans X3.os, hb4.tape.trans X3.tape, hb4.output.trans X3.output, Nat.le_trans X3.size hb4.size, fun i hi hlt => (hb4.block i (Nat.lt_of_lt_of_le hlt hle)).trans (X3.block i hi hlt)⟩
      have KB4 := Lib.hid kb4
      have KD4 := Lib.hid kd4
      clear RP3 kb4 kd4 hb4 kd3 kb3 ks3 hkm
      go_wp2_with fail
      refine NoPanic.normal ?_
      go_wp2_with fail
      go_ret
      have hk := HK.out
      refine ⟨h', rfl, hle, X4, KB4.out, ser_rd (hd := [x0, x1, (4 + (mj : Int)) / 256, (4 + (mj : Int)) % 256] ++ p) KD4.out hl hcap (by simp [hpl]; omega) ?_ ?_⟩
      · intro i hi
        rw [List.getElem?_toArray]
        by_cases h4i : i < 4
        · rw [splice_lo _ _ _ _ hdl h4i, Array.getElem?_toList, H0'.out i h4i]
          rw [List.getD_eq_getElem?_getD, List.getD_eq_getElem?_getD, List.getElem?_append_left (by simpa using h4i)]
        · obtain ⟨j, rfl⟩ : ∃ j, i = 4 + j := ⟨i - 4, by omega⟩
          rw [splice_mid _ _ _ _ hdl (by simp [hpl]; omega), List.getElem?_map, List.getElem?_eq_getElem (by omega)]
          rw [List.getD_eq_getElem?_getD, List.getElem?_append_right (by simp)]
          simp [show 4 + j - 4 = j by omega, List.getElem?_eq_getElem (show j < p.length by omega)]
      · intro i
        rw [List.getElem?_toArray]
        have e := splice_hi dd.toList (p.map (Value.int .u8)) 4 i hdl
        rw [List.length_map, hpl, ← hk] at e
        rw [e, Array.getElem?_toList, HCS.out, show k + i = 4 + (mj + i) by omega]
        exact H4'.out (mj + i)
end Go.Proofs.Ytoljdgfbkebgcaa
namespace Go.Proofs.Ytoljdgfbkebgcaa
open Go.RowKit
theorem DRow.mono {E : TypeId} {F G : Nat → Prop} {B : Nat} {w : World} {v : Value} {ps : List Prt} (h : DRow E F B w v ps) (hm : ∀ k, F k → G k) : DRow E G B w v ps := by
  obtain ⟨vs, ho, he⟩ := h
  refine ⟨vs, ho, fun i hi => ?_⟩
  obtain ⟨T, L, U, A, n, c, hc⟩ := he i hi
  exact ⟨T, L, U, A, n, c, ⟨hc.c0, hc.c1, hc.c2, hc.c3, hc.nums, hc.bT, hc.rd, hc.foot.mono (fun k hk => ⟨⟨hm k hk.1.1, hk.1.2⟩, hk.2⟩), hc.small⟩⟩
theorem drow_strong {E : TypeId} {B : Nat} {w : World} {v : Value} {ps : List Prt} (h : DRow E (fun k => B ≤ k) B w v ps) : DRow E (fun k => B ≤ k ∧ k < w.heap.size) B w v ps := by
  obtain ⟨vs, ho, he⟩ := h
  refine ⟨vs, ho, fun i hi => ?_⟩
  obtain ⟨T, L, U, A, n, c, hc⟩ := he i hi
  exact ⟨T, L, U, A, n, c, ⟨hc.c0, hc.c1, hc.c2, hc.c3, hc.nums, hc.bT, hc.rd, hc.foot.mono (fun k hk => ⟨⟨⟨hk.1.1, hk.2⟩, hk.1.2⟩, hk.2⟩), hc.small⟩⟩
theorem own_chg {w w' : World} {g B e sz n : Nat} {v : Value} {xs : List Value} (h : w.ownsRow B e sz v n xs) (hc : Chg g w w') (hne : v.ownBlock ≠ some g) : w'.ownsRow B e sz v n xs := by
  refine ⟨h.1, ?_⟩
  rcases h.2 with h2 | ⟨g', cap, cur, h1, hg, hh, hr⟩
  · exact .inl h2
  · subst h1
    have hg' : g' ≠ g := fun e => hne (by simp [Value.ownBlock, e])
    exact .inr ⟨g', cap, cur, rfl, hg, (hc.block g' hg' (Array.getElem?_eq_some_iff.1 hh).1).trans hh, hr⟩
theorem DRow.chg {E : TypeId} {F : Nat → Prop} {B g : Nat} {w w' : World} {v : Value} {ps : List Prt} (h : DRow E F B w v ps) (hc : Chg g w w') (hF : ∀ k, F k → k ≠ g) (hv : v.ownBlock ≠ some g) : DRow E F B w' v ps := by
  obtain ⟨vs, ho, he⟩ := h
  refine ⟨vs, own_chg ho hc hv, fun i hi => ?_⟩
  obtain ⟨T, L, U, A, n, c, hp⟩ := he i hi
  exact ⟨T, L, U, A, n, c, hp.keep (fun k hk hlt => hc.block k (hF k hk.1.1) hlt) (fun k hk => ⟨hk.1, Nat.lt_of_lt_of_le hk.2 hc.size⟩)⟩
set_option maxHeartbeats 4000000 in
set_option maxRecDepth 100000 in
theorem wrHea_any (F : Nat → Prop) (A0 A1 A2 A3 : Option Addr) (c0 c1 np c2 c3 m : Nat) (x0 x1 L U : Int) (ps : List Prt) (fix : Bool) (w : World) (h : Rd .u64 w A0 4 c0 [x0, x1, L, U]) (b0 : 0 ≤ x0 ∧ x0 ≤ 255) (b1 : 0 ≤ x1 ∧ x1 ≤ 255) (b2 : 0 ≤ L ∧ L ≤ 65535) (b3 : 0 ≤ U ∧ U ≤ 4294967295)
    (hP : PartsV F w (.slice A2 np c2) ps) (hnp : np = ps.length) (hn1 : np ≤ 50) (hE : ∀ i, i < np → ∃ T L U, (ps.getD i Prt.nil).nums = [T, L, U] ∧ (0 ≤ T ∧ T ≤ 65535) ∧ (0 ≤ L ∧ L ≤ 65535) ∧ (0 ≤ U ∧ U ≤ 100000) ∧ (ps.getD i Prt.nil).data.length ≤ 1000) (hmm : m = ((ps.map prmB).flatten).length) (hm : m ≤ 1000) (hk4 : up4 (4 + m) = 4 + m) :
    Calls Try.prog 28 #[.string ⟨#[115, 99, 116, 112, 104, 101, 97, 114, 116, 98, 101, 97, 116]⟩, .agg #[.slice A0 4 c0, .slice A1 0 c1, .slice A2 np c2, .slice A3 0 c3], .bool fix, .bool false] w fun e w' =>
      ∃ A c, e = .returned (.tuple #[.slice A (4 + m) c, .bool true]) ∧ Rd .u8 w' A (4 + m) c ([x0, x1, (4 + (m : Int)) / 256, (4 + (m : Int)) % 256] ++ (ps.map prmB).flatten) ∧ Bl w w' := by
  have H := Lib.hid h
  have HP := Lib.hid hP
  have HNP := Lib.hid hnp
  have HE := Lib.hid hE
  have HMM := Lib.hid hmm
  have HK4 := Lib.hid hk4
  have hn1' : (np : Int) ≤ 50 := by omega
  clear h hP hnp hE hmm hk4
  go_enter Try.func28, Try.ntmps28
  go_wp2_with fail
  go_loop [32] (fun i => i = .int .i64 0) (fun _ => 0)
  case atStart => rfl
  case round =>
    subst hrel
    go_wp2_with fail
    have BA : Bl w (w.alloc (.cells #[.slice A0 4 c0, .slice A1 0 c1, .slice A2 np c2, .slice A3 0 c3] 35)) := by go_grown
    have kw0 := Blk.new w #[.slice A0 4 c0, .slice A1 0 c1, .slice A2 np c2, .slice A3 0 c3] 35
    generalize w.alloc (.cells #[.slice A0 4 c0, .slice A1 0 c1, .slice A2 np c2, .slice A3 0 c3] 35) = WA at *
    go_loopw [43] (fun i wr => Hid (∃ j : Nat, j ≤ np ∧ i = .int .i64 j ∧ Bl w wr ∧ Blk wr w.heap.size #[.slice A0 4 c0, .slice A1 0 c1, .slice A2 np c2, .slice A3 0 c3] 35)) (fun i _ => np - (intOf i).toNat)
    case atStart => exact Lib.hid ⟨0, by omega, rfl, BA, kw0⟩
    case round =>
      clear BA kw0
      obtain ⟨j, hj, rfl, BA, kw0⟩ := hrel.out
      clear hrel
      have cw := kw0.cell
      by_cases hjq : j < np
      · have hjq' : (j : Int) < (np : Int) := by omega
        obtain ⟨Ap, cp, ep, _, _, hel⟩ := HP.out
        obtain ⟨g, o, u0, u1, hA, e0, e1, ⟨Aa, ca, hu0, _⟩, ⟨⟨Ab, cb, hu1, _⟩, _⟩⟩ := hel j (by have := HNP.out; omega)
        obtain ⟨Tp, Lp, Up, hnum, t1, t2, t3, hdl⟩ := HE.out j (by omega)
        simp at ep
        obtain ⟨rfl, hnp', rfl⟩ := ep
        have d0 := Bl.keeps BA e0
        have d1 := Bl.keeps BA e1
        rw [hu0] at d0
        rw [hu1] at d1
        generalize (ps.getD j Prt.nil).data.length = mb at *
        generalize (ps.getD j Prt.nil).nums.length = ma at *
        have hmb : (mb : Int) ≤ 2000 := by omega
        subst hA
        clear hel e0 e1 hnum hu0 hu1 hnp'
        go_wp2_with fail
        exact ⟨Lib.hid ⟨j + 1, by omega, by simp, BA.trans (by go_grown), kw0.alloc _⟩, by simp [intOf]; omega⟩
      have hjn : ¬ ((j : Int) < (np : Int)) := by omega
      go_wp2_with fail
      (with_reducible refine (maHea_any F A0 A1 A2 A3 c0 c1 np c2 0 c3 x0 x1 L U ps _ (H.out.below BA) b0 b1 b2 b3 (PartsV.below HP.out BA) HNP.out (by omega) HE.out).mono ?_)
      rintro e w1 ⟨gx, v, B, rfl, hb1, kx1, hgxB, hwB, hdr⟩
      obtain ⟨A0', c0', rfl⟩ := hdr.form
      have kw1 := Blk.keep hb1 kw0
      have B1 : Bl w w1 := BA.trans hb1
      have HDR := Lib.hid hdr
      clear hdr
      have cw := kw1.cell
      clear hb1
      go_wp2_with fail
      (with_reducible refine (newBuf_any _).mono ?_)
      rintro e w2 ⟨rfl, hb2, kb2⟩
      have kw2 := Blk.keep hb2 kw1
      have kx2 := Blk.keep hb2 kx1
      have B2 := B1.trans hb2
      have cw := kw2.cell
      have hzb : w.heap.size < w1.heap.size := kw1.lt
      have hxb : gx ≠ w1.heap.size := Nat.ne_of_lt kx1.lt
      have hwb : w.heap.size ≠ w1.heap.size := Nat.ne_of_lt hzb
      have hown : (Value.slice A0' ps.length c0').ownBlock ≠ some w1.heap.size := fun e => by obtain ⟨_, ho, _⟩ := HDR.out; have := ho.lt _ e; omega
      have hsm := drow_strong HDR.out
      have HDR := Lib.hid hsm
      clear hsm
      have HDR2 := Lib.hid (DRow.below HDR.out hb2)
      clear kw1 kx1 B1 hb2 HDR
      generalize w1.heap.size = gb at *
      have hgb1 : ∀ k, (B ≤ k ∧ k < gb) → k ≠ gb := fun k h => Nat.ne_of_lt h.2
      go_wp2_with fail
      (with_reducible refine (appendB0 gb _ kb2).mono ?_)
      rintro e w3 ⟨rfl, ch3, kb3⟩
      have kw3 := kw2.chg ch3 hwb
      have kx3 := kx2.chg ch3 hxb
      have B3 : Bl w w3 := ch3.bl B2 (Nat.le_of_lt hzb)
      have HDR3 := Lib.hid (DRow.chg HDR2.out ch3 hgb1 hown)
      have cw := kw3.cell
      have cx := kx3.cell
      have KB3 := Lib.hid kb3
      have KX3 := Lib.hid kx3
      clear kw2 kx2 kb2 B2 ch3 kb3 kx3
      have hcp : ∀ W, (Builtin.copy_ #[24, 24] 3 #[.slice none 0 0, .slice A3 0 c3]).run Try.prog W = .ok (goInt 0) W := fun W => run_copy_none (P := Try.prog) W 24 24 3 5 none A3 0 0 0 c3 Try.underlying24 info5s rfl
      have hmt := recvHea gx w3 _ _ _ _ _ _ _ KX3.out
      go_wp2_with fail
      clear hmt hcp cw cx
      (with_reducible refine (seHea_any gb none 0 0 0 [] x0 x1 L U A0' ps.length c0' _ B m ps fix false w3 KB3.out (Rd.nil _ _ _ _) (InF.zero _ _) (by omega) b0 b1 HDR3.out rfl (by have := HNP.out; omega) HMM.out hm HK4.out).mono ?_)
      rintro e w4 ⟨h', rfl, hle, ch4, kb4, r4⟩
      have B4 : Bl w w4 := ch4.bl B3 (Nat.le_of_lt hzb)
      have R4 : Hid (Rd .u8 w4 (some ⟨h', 0, none⟩) (4 + m) (4 + m) ([x0, x1, (4 + (m : Int)) / 256, (4 + (m : Int)) % 256] ++ (ps.map prmB).flatten)) := Lib.hid (by simpa using r4)
      clear r4 ch4 kw3 KX3 KB3
      go_wp2_with fail
      (with_reducible refine (bytesB gb _ _ _ _ _ _ kb4).mono ?_)
      rintro e w5 ⟨rfl, q, rfl⟩
      go_wp2_with fail
      (with_reducible refine (bclone_any _ _ _ _ _ (R4.out.below ((Bl.refl _).drewN _)) (by omega)).mono ?_)
      rintro e w6 ⟨⟨A6, c6, rfl, r6⟩, hb6⟩
      have B6 : Bl w w6 := (B4.drewN q).trans hb6
      have R6 := Lib.hid r6
      clear r6 hb6 kb4
      go_wp2_with fail
      go_ret2
      exact ⟨A6, c6, rfl, R6.out, B6⟩
end Go.Proofs.Ytoljdgfbkebgcaa
namespace Go.Proofs.Ytoljdgfbkebgcaa
open Go.RowKit
set_option maxHeartbeats 2000000 in
theorem filHea (A : Option Addr) (n c : Nat) (l : List Int) (w : World) (h : Rd .u8 w A n c l) (hl : By l) (h4 : 4 ≤ n) (hV : chL l ≤ n) (hn : n ≤ 2147483647) (hb : All0 l) (h4' : 4 ≤ chL l) (hf : fullOf (sub l 4 (chL l)) = true) :
    Calls Try.prog 44 #[.string ⟨#[115, 99, 116, 112, 104, 101, 97, 114, 116, 98, 101, 97, 116]⟩, .slice A n c] w fun e w' => e = .returned (.bool (padsOf (sub l 4 (chL l)))) ∧ Bl w w' := by
  have hcap := h.cap
  have e1 := chL_int l hl
  have s1 := run_cut A n c 2 4 2 4 rfl rfl (by omega) (by omega) 24 Try.underlying24 size5
  have s2 := run_cut_l A n c (chL l) (be (sub l 2 4)) e1 (by omega) 24 Try.underlying24 size5
  have R1 := Lib.hid (h.cutm 2 4 2 (by omega) (by omega))
  have HB := Lib.hid hl
  have b1 := be_bd2 (sub l 2 4) (hl.sub _ _) (by rw [sub_length _ _ _ (by have := h.len; omega)])
  have hlen := h.len
  have P2 := Lib.hid (h.cut (chL l) n hV (Nat.le_refl _))
  have HO := Lib.hid hb
  have HF := Lib.hid hf
  have PB := Lib.hid (h.cut 4 (chL l) h4' hV)
  have s3 := run_cut A n c 4 (chL l) 4 (be (sub l 2 4)) rfl e1 h4' (by omega) 24 Try.underlying24 size5
  have HBB := Lib.hid (hl.sub 4 (chL l))
  have E1 := Lib.hid e1
  have m0 := MapAt.new (Bl.refl w)
  have hz3 : ∀ W, (zeroValue 3).run Try.prog W = .ok (.int .i64 0) W := by intro W; kernel_rfl
  have mm := run_makeMap (P := Try.prog) 148 w
  clear h hl hb e1 hf
  go_enter Try.func44, Try.ntmps44
  go_wp2_with fail
  (with_reducible refine (num_any _ _ _ _ _ R1.out (HB.out.sub 2 4) (by omega) (by omega)).mono ?_)
  rintro e w1 ⟨rfl, rfl⟩
  go_wp2_with fail
  have hp : ∀ j, j < n - chL l → (sub l (chL l) n).getD j 0 = 0 := fun j hj => by rw [sub_getD _ _ _ _ (by omega)]; exact HO.out _ (by omega) (by omega)
  have hm0 : n - chL l ≤ 2147483647 := by omega
  generalize hL0 : sub l 4 (chL l) = L0 at *
  have hn0 : chL l - 4 ≤ n := by omega
  generalize chL l - 4 = n0 at *
  generalize cutA A c 4 = A0 at *
  have s3' := s3
  generalize n - chL l = m at *
  generalize cutA A c (chL l) = A2 at *
  generalize sub l (chL l) n = p at *
  have HP := Lib.hid hp
  clear hp s1 s2
  go_loop [21] (fun i => ∃ k : Nat, k ≤ m ∧ i = .int .i64 k) (fun i => m - (intOf i).toNat)
  case atStart => exact ⟨0, Nat.zero_le _, rfl⟩
  case round =>
    obtain ⟨k, hk, rfl⟩ := hrel
    by_cases hlt : k < m
    · have hlt' : (k : Int) < (m : Int) := by omega
      obtain ⟨g, o, rfl, hg, hc⟩ := P2.out.at (by omega)
      have ck := hc k hlt
      rw [HP.out k hlt] at ck
      clear hc
      go_wp2_with fail
      go_round
      case rel => exact ⟨k + 1, by omega, by go_num⟩
      case measure => simp [intOf]; omega
    · have hge : (m : Int) ≤ (k : Int) := by omega
      go_wp2_with (first | (refine wpList_puts rfl w _ _ _ 148 9 3 rfl Try.underlying148 Try.underlying9 w.heap.size _ _ _ _ rfl rfl rfl (by assumption) (by kernel_rfl) ?_; intro W m1) | (refine wpList_looks rfl w _ _ 148 9 3 rfl Try.underlying148 Try.underlying9 w.heap.size _ _ _ rfl rfl (by assumption) _ (hz3 _) (some (1, .int .i64 4)) (by kernel_rfl) ?_))
      have BW := MapAt.bl m1
      clear m1
      go_loop [9] (fun b => Hid (∃ (A' : Option Addr) (n' c' : Nat) (l' : List Int), b = .slice A' n' c' ∧ Rd .u8 W A' n' c' l' ∧ By l' ∧ n' ≤ n ∧ fullOf l' = true ∧ padsOf L0 = padsOf l')) (fun b => match b with | .slice _ n _ => n | _ => 0)
      case atStart => exact Lib.hid ⟨A0, n0, c - 4, L0, rfl, PB.out.below BW, HBB.out, hn0, HF.out, rfl⟩
      case round =>
        obtain ⟨A', n', c', l', rfl, h, hl, hnn, hfu, he⟩ := hrel.out
        clear hrel
        have hlen' := h.len
        have hcap' := h.cap
        by_cases h0 : n' = 0
        · have HE := Lib.hid (he.trans (padsOf_nil l' (by omega)))
          subst h0
          clear h hl he hfu
          go_wp2_with fail
          go_ret
          exact ⟨by rw [HE.out]; rfl, BW⟩
        have h0' : (0 : Int) < (n' : Int) := by omega
        obtain ⟨p4, pc, pl, pq⟩ := fullOf_step l' (by omega) hfu
        have HE := Lib.hid (he.trans (padsOf_cons l' (by omega) hfu))
        have hVU : chL l' ≤ up4 (chL l') := by unfold up4; omega
        have hu4 : 4 ≤ up4 (chL l') := by unfold up4; omega
        have e1 := chL_int l' hl
        have e2 : (be (sub l' 2 4) + 3) / 4 * 4 = ((up4 (chL l') : Nat) : Int) := by rw [e1]; unfold up4; omega
        have b1 := be_bd2 (sub l' 2 4) (hl.sub _ _) (by rw [sub_length _ _ _ (by omega)])
        have s1 := run_cut A' n' c' 2 4 2 4 rfl rfl (by omega) (by omega) 24 Try.underlying24 size5
        have s2 := run_cut A' n' c' (chL l') (up4 (chL l')) (chL l' : Nat) (up4 (chL l') : Nat) rfl rfl hVU (by omega) 24 Try.underlying24 size5
        have s4 := run_cut_l A' n' c' (up4 (chL l')) (up4 (chL l') : Nat) rfl (by omega) 24 Try.underlying24 size5
        have R1 := Lib.hid (h.cutm 2 4 2 (by omega) (by omega))
        have RP := Lib.hid (h.cut (chL l') (up4 (chL l')) hVU (by omega))
        have RD := Lib.hid (h.cut (up4 (chL l')) n' (by omega) (Nat.le_refl _))
        have E1 := Lib.hid e1
        have E2 := Lib.hid e2
        have E3 := Lib.hid (show (((chL l' : Nat) : Int) + 3) / 4 * 4 = ((up4 (chL l') : Nat) : Int) by unfold up4; omega)
        have hcl : ((chL l' : Nat) : Int) ≤ 65535 := by omega
        have PQ := Lib.hid pq
        have HL := Lib.hid hl
        have hps : (sub l' (chL l') (up4 (chL l'))).length = up4 (chL l') - chL l' := sub_length _ _ _ (by omega)
        have HPS := Lib.hid hps
        have b2 : 0 ≤ be (sub l' 2 4) ∧ be (sub l' 2 4) ≤ 65535 := b1
        clear h hl he hfu pq e1 e2 hps b1
        go_wp2_with fail
        (with_reducible refine (num_any _ _ _ _ _ R1.out (HL.out.sub 2 4) (by omega) (by omega)).mono ?_)
        rintro e w2 ⟨rfl, rfl⟩
        go_wp2_with fail
        (with_reducible refine (sup_any _ (by omega) (by omega) _).mono ?_)
        rintro e w2 ⟨rfl, rfl⟩
        rw [E2.out]
        simp only [E1.out]
        go_wp2_with fail
        have EG := Lib.hid (show sub l' (up4 (chL l')) n' = l'.drop (up4 (chL l')) by rw [← hlen']; simp [sub])
        generalize hpp : sub l' (chL l') (up4 (chL l')) = pp at *
        generalize hmm : up4 (chL l') - chL l' = mm at *
        have hmn : mm ≤ n' := by omega
        generalize cutA A' c' (chL l') = AP at *
        go_loop [81] (fun i => Hid (∃ k : Nat, k ≤ mm ∧ i = .int .i64 k ∧ ∀ j, j < k → pp.getD j 0 = 0)) (fun i => mm - (intOf i).toNat)
        case atStart => exact Lib.hid ⟨0, Nat.zero_le _, rfl, fun j hj => by omega⟩
        case round =>
          obtain ⟨k, hk, rfl, hz⟩ := hrel.out
          clear hrel
          have HZ := Lib.hid hz
          clear hz
          by_cases hlt : k < mm
          · have hlt' : (k : Int) < (mm : Int) := by omega
            obtain ⟨g, o, rfl, hg, hc⟩ := RP.out.at (by omega)
            have ck := hc k hlt
            clear hc
            by_cases hzk : pp.getD k 0 = 0
            · rw [hzk] at ck
              go_wp2_with fail
              go_round
              case rel => exact Lib.hid ⟨k + 1, by omega, by go_num, fun j hj => by rcases Nat.lt_succ_iff_lt_or_eq.1 hj with h | rfl; exact HZ.out j h; exact hzk⟩
              case measure => simp [intOf]; omega
            · have hall : pp.all (· == 0) = false := by
                rw [List.all_eq_false]
                refine ⟨pp.getD k 0, ?_, by simpa using hzk⟩
                rw [List.getD_eq_getElem?_getD, List.getElem?_eq_getElem (by rw [HPS.out]; exact hlt)]
                exact List.getElem_mem _
              have HF2 := Lib.hid (HE.out.trans (by rw [hall, Bool.false_and]))
              have hnz := hzk
              generalize pp.getD k 0 = zz at *
              have hzk' : (zz != 0) = true := by simpa using hnz
              have hzk2 : (zz == 0) = false := by simpa using hnz
              clear hall HE HZ
              go_wp2_with fail
              go_ret
              exact ⟨by rw [HF2.out]; rfl, BW⟩
          · have hge : ¬ ((k : Int) < (mm : Int)) := by omega
            have hkm : k = mm := by omega
            have hall : pp.all (· == 0) = true := by
              rw [List.all_eq_true]
              intro x hx
              obtain ⟨i, hi, rfl⟩ := List.mem_iff_getElem.1 hx
              have := HZ.out i (by rw [HPS.out] at hi; omega)
              rw [List.getD_eq_getElem?_getD, List.getElem?_eq_getElem hi] at this
              simpa using this
            have HE2 := Lib.hid (HE.out.trans (by rw [hall, Bool.true_and]))
            clear hall HE HZ hkm
            go_wp2_with fail
            (with_reducible refine (sup_any _ (by omega) (by omega) _).mono ?_)
            rintro e w2 ⟨rfl, rfl⟩
            rw [E3.out]
            go_wp2_with fail
            have r9 := RD.out
            rw [EG.out] at r9
            have hbd : By (l'.drop (up4 (chL l'))) := by rw [← EG.out]; exact HL.out.sub _ _
            exact ⟨Lib.hid ⟨_, _, _, _, rfl, r9, hbd, by omega, PQ.out, HE2.out⟩, by simp only; omega⟩
end Go.Proofs.Ytoljdgfbkebgcaa
