/- impl.told: sctperror. ZZDecode, called, impl.Read: sctperror. -/
import Derived.Test.YtoljdgfbkebgcaaPq03
import Derived.Test.YtoljdgfbkebgcaaPq04
import Derived.Test.YtoljdgfbkebgcaaPq08
import Derived.Test.YtoljdgfbkebgcaaPq07
import Derived.Test.YtoljdgfbkebgcaaPq12
import Derived.LoopTactic
import Derived.Test.YtoljdgfbkebgcaaPq05
namespace Go.Proofs.Ytoljdgfbkebgcaa
open Go.RowKit
set_option linter.unusedVariables false
def TldErr (gb g9 : Nat) (A6 : Option Addr) (j c6 : Nat) (T L U : Int) (A3 : Option Addr) (n3 c3 : Nat) (V : World) : Prop := V.cell? ⟨gb, 2, none⟩ = some (.slice A6 j c6) ∧ V.cell? ⟨g9, 0, none⟩ = some (.int .u16 T) ∧ V.cell? ⟨g9, 1, none⟩ = some (.int .u16 L) ∧ V.cell? ⟨g9, 2, none⟩ = some (.int .i64 U) ∧ V.cell? ⟨g9, 3, none⟩ = some (.slice A3 n3 c3)
theorem ud33t : Try.prog.underlying 33 = some (.slice 57) := by kernel_rfl
set_option maxHeartbeats 4000000 in
set_option maxRecDepth 100000 in
theorem toldErr_any (A1 A : Option Addr) (n c1 m c gl : Nat) (l p : List Int) (w : World) (hl : By l) (h4 : 4 ≤ chL l) (hup : up4 (chL l) ≤ n) (hn2 : n ≤ 2000) (r : Rd .u8 w A1 n c1 l) (v : Value) (B : Nat) (vs : List Value) (ps : List Prt) (k : Blk w gl ((chk A1 n c1 l).push v) 128) (ho0 : w.ownsRow B 129 4 v ps.length vs) (hpc : PCells w vs ps) (hq : ps.length ≤ 2000) (h : Rd .u8 w A m c p) (hp : By p) (hm : m ≤ 2000) :
    Calls Try.prog 49 #[.iface 125 (.pointer (some ⟨gl, 0, none⟩)), .slice A m c] w fun e w' =>
      Got w w' e ⟨[l.getD 0 0, l.getD 1 0, be (sub l 2 4), (up4 (chL l) : Int)], [], ps, p⟩ := by
  have u4 : chL l ≤ up4 (chL l) := by unfold up4; omega
  have H := Lib.hid h
  have HP := Lib.hid hp
  have hlen := r.len
  have b0 := hl.getD 0
  have b1 := hl.getD 1
  have b2 := be_bd2 (sub l 2 4) (hl.sub _ _) (by rw [sub_length _ _ _ (by omega)])
  have b3 : (0 : Int) ≤ (up4 (chL l) : Int) ∧ (up4 (chL l) : Int) ≤ 2147483647 := by omega
  have PC := Lib.hid hpc
  have HO0 := Lib.hid ho0
  obtain ⟨A0, c0, rfl⟩ := ownsRow_form ho0
  obtain ⟨q, hqe⟩ : ∃ q, q = ps.length := ⟨_, rfl⟩
  rw [← hqe] at HO0 k hq
  have hk : Blk w gl (#[.slice A1 (up4 (chL l)) c1, .slice (cutA A1 c1 (up4 (chL l))) (n - up4 (chL l)) (c1 - up4 (chL l)), .int .u8 (l.getD 0 0), .int .u8 (l.getD 1 0), .int .u16 (be (sub l 2 4)), .int .i64 (up4 (chL l)), .slice A0 q c0]) 128 := k
  generalize l.getD 0 0 = x0 at *
  generalize l.getD 1 0 = x1 at *
  generalize be (sub l 2 4) = L at *
  generalize up4 (chL l) = U at *
  generalize chL l = V at *
  clear h hp hl r k ho0 hpc
  have t0 := ta_125_90
  have t1 := ta_125_97
  have t2 := ta_125_105
  have t3 := ta_125_115
  have t4 := ta_125_120
  have t5 := ta_125
  go_enter Try.func49, Try.ntmps49
  go_wp2_with fail
  (with_reducible refine (clone_any _ _ _ _ _ (H.out.below (by go_grown)) (by omega)).mono ?_)
  rintro e w1 ⟨⟨A2, c2, rfl, ho⟩, hb1⟩
  have kr := Blk.keep hb1 (Blk.new w _ _)
  have kl := Blk.keep hb1 (hk.alloc _)
  have cl := kl.cell
  have zl := kl.lt
  have cr := kr.cell
  have fr := kr.frozen
  have zr := kr.lt
  have B0 : Bl w w1 := Bl.trans (by go_grown) hb1
  have v3 := Lib.hid (own_bytV (F := fun k => w.heap.size < k ∧ k ≠ w1.heap.size) ho HP.out (fun k h1 h2 => by simp at h1; exact ⟨by omega, by omega⟩))
  clear ho
  go_wp2_with fail
  have kb := Blk.new w1 #[.slice none 0 0, .slice none 0 0, .slice none 0 0, .slice A2 m c2] 35
  have kl1 := kl.alloc (.cells #[.slice none 0 0, .slice none 0 0, .slice none 0 0, .slice A2 m c2] 35)
  have kr1 := kr.alloc (.cells #[.slice none 0 0, .slice none 0 0, .slice none 0 0, .slice A2 m c2] 35)
  have B1 : Bl w (w1.alloc (.cells #[.slice none 0 0, .slice none 0 0, .slice none 0 0, .slice A2 m c2] 35)) := B0.trans (by go_grown)
  have v31 := Lib.hid (BytV.below v3.out (w' := w1.alloc (.cells #[.slice none 0 0, .slice none 0 0, .slice none 0 0, .slice A2 m c2] 35)) (by go_grown))
  clear v3 cl zl cr fr kl kr hb1 hk B0
  have zr' : w.heap.size < w1.heap.size := zr
  generalize w1.alloc (.cells #[.slice none 0 0, .slice none 0 0, .slice none 0 0, .slice A2 m c2] 35) = W at *
  generalize w1.heap.size = gb at *
  clear zr
  (with_reducible refine (chunkv_any _ _ _ _ _ _ _ _ _ _ _ b0 b1 b2 b3).mono ?_)
  rintro e w2 ⟨rfl, hb2, kn, _⟩
  have kb2 := Blk.keep hb2 kb
  have kr2 := Blk.keep hb2 kr1
  have kl2 := Blk.keep hb2 kl1
  have zW : gb < W.heap.size := kb.lt
  have B2 := B1.trans hb2
  have cb := kb2.cell
  have fb := kb2.frozen
  have zb := kb2.lt
  have cr := kr2.cell
  have fr := kr2.frozen
  have zr := kr2.lt
  have cl := kl2.cell
  have zl := kl2.lt
  have hne : w.heap.size ≠ gb := Nat.ne_of_lt zr'
  go_wp2_with fail
  have hv0 := Lib.hid (NumV.of_block (F := fun k => w.heap.size < k ∧ k ≠ gb) [x0, x1, L, (U : Int)] (show _ ∧ _ from ⟨by omega, by omega⟩) kn.heap rfl rfl)
  have B3 : Bl w (w2.setCell ⟨gb, 0, none⟩ (.slice (some ⟨W.heap.size + 1, 0, none⟩) 4 4)) := Below.setCell B2 (Nat.le_of_lt zr') _
  have kb3 := kb2.set 0 (.slice (some ⟨W.heap.size + 1, 0, none⟩) 4 4)
  simp only [List.setIfInBounds_toArray, List.set_cons_zero] at kb3
  have kr3 := kr2.far (p := ⟨gb, 0, none⟩) hne (.slice (some ⟨W.heap.size + 1, 0, none⟩) 4 4)
  have v33 := Lib.hid (BytV.keepF (BytV.below v31.out hb2) ((KeepF.refl _ w2).setCell (p := ⟨gb, 0, none⟩) (fun h => h.2 rfl) (.slice (some ⟨W.heap.size + 1, 0, none⟩) 4 4)))
  have hv3 := Lib.hid (NumV.keepF hv0.out ((KeepF.refl _ w2).setCell (p := ⟨gb, 0, none⟩) (fun h => h.2 rfl) (.slice (some ⟨W.heap.size + 1, 0, none⟩) 4 4)))
  have hsz3 : w2.heap.size = (w2.setCell ⟨gb, 0, none⟩ (.slice (some ⟨W.heap.size + 1, 0, none⟩) 4 4)).heap.size := by simp
  have hgn : W.heap.size + 1 < w2.heap.size := kn.lt
  clear cb fb zb cr fr zr cl zl kl2 hv0 v31 hb2 B2 kb kb2 kr1 kr2 kl1
  generalize w2.setCell ⟨gb, 0, none⟩ (.slice (some ⟨W.heap.size + 1, 0, none⟩) 4 4) = W3 at *
  go_loopw [296] (fun i wr => Hid (∃ (j : Nat) (v : Value), j ≤ q ∧ i = .int .i64 j ∧ Bl w wr ∧ W3.heap.size ≤ wr.heap.size ∧ Blk wr w.heap.size #[.slice none 0 0, .slice none 0 0, .slice none 0 0, .slice none 0 0] 35 ∧ Blk wr gb #[.slice (some ⟨W.heap.size + 1, 0, none⟩) 4 4, .slice none 0 0, v, .slice A2 m c2] 35 ∧ v.ownBlock ≠ some gb ∧ PRow (fun k => w.heap.size < k ∧ k ≠ gb) W3.heap.size wr v (ps.take j) ∧ NumV (fun k => (w.heap.size < k ∧ k ≠ gb) ∧ k < W3.heap.size) wr (.slice (some ⟨W.heap.size + 1, 0, none⟩) 4 4) [x0, x1, L, (U : Int)] ∧ BytV (fun k => (w.heap.size < k ∧ k ≠ gb) ∧ k < W3.heap.size) wr (.slice A2 m c2) p)) (fun i _ => q - (intOf i).toNat)
  case atStart => exact Lib.hid ⟨0, .slice none 0 0, by omega, rfl, B3, Nat.le_refl _, kr3, kb3, by simp [Value.ownBlock], by simpa using PRow.nil _ _ _, NumV.strong hv3.out, BytV.strong v33.out⟩
  case round =>
    obtain ⟨j, v, hj, rfl, hb, hsz, kr4, kb4, hvg, hpr, hv, hy⟩ := hrel.out
    clear hrel
    obtain ⟨A6, c6, rfl⟩ := hpr.form
    have hlt : (ps.take j).length = j := by rw [List.length_take]; omega
    rw [hlt] at kb4 hvg hpr
    have HPR := Lib.hid hpr
    have HV := Lib.hid hv
    have HY := Lib.hid hy
    have HKB := Lib.hid kb4
    have HKR := Lib.hid kr4
    have HB := Lib.hid hb
    by_cases hjq : j = q
    · have cr := kr4.cell
      have fr := kr4.frozen
      have zr := kr4.lt
      have cb := kb4.cell
      clear hpr hv hy kb4 kr4 kb3 kr3 hb
      go_wp2_with fail
      have k5 := (((HKR.out.set 0 (.slice (some ⟨W.heap.size + 1, 0, none⟩) 4 4)).set 1 (.slice none 0 0)).set 2 (.slice A6 ps.length c6)).set 3 (.slice A2 m c2)
      have c5 := k5.cell
      have hpt : ps.take ps.length = ps := List.take_length
      have HPP := HPR.out
      rw [hjq, hqe, hpt] at HPP
      have hL : LyrV (fun k => w.heap.size < k ∧ k ≠ gb) wr (.agg #[.slice (some ⟨W.heap.size + 1, 0, none⟩) 4 4, .slice none 0 0, .slice A6 ps.length c6, .slice A2 m c2]) ⟨[x0, x1, L, (U : Int)], [], ps, p⟩ :=
        ⟨_, _, _, _, rfl, HV.out.mono fun _ h => h.1, DataV.nil _ _, HPP.parts (fun k h1 _ => ⟨by omega, by omega⟩), HY.out.mono fun _ h => h.1⟩
      have hL2 := LyrV.boxed (g := w.heap.size) hL (fun h => Nat.lt_irrefl _ h.1) (.slice (some ⟨W.heap.size + 1, 0, none⟩) 4 4) (.slice none 0 0) (.slice A6 ps.length c6) (.slice A2 m c2)
      have BF := Bl.boxed HB.out (Nat.le_refl _) (.slice (some ⟨W.heap.size + 1, 0, none⟩) 4 4) (.slice none 0 0) (.slice A6 ps.length c6) (.slice A2 m c2)
      clear hL k5
      generalize ((((wr.setCell ⟨w.heap.size, 0, none⟩ (.slice (some ⟨W.heap.size + 1, 0, none⟩) 4 4)).setCell ⟨w.heap.size, 1, none⟩ (.slice none 0 0)).setCell ⟨w.heap.size, 2, none⟩ (.slice A6 ps.length c6)).setCell ⟨w.heap.size, 3, none⟩ (.slice A2 m c2)) = WF at *
      refine bodyPost_ret (v := .tuple #[.agg #[.slice (some ⟨W.heap.size + 1, 0, none⟩) 4 4, .slice none 0 0, .slice A6 ps.length c6, .slice A2 m c2], .bool true]) (by simp [results, Try.results49, go_sem, c5]) rfl ⟨_, rfl, LyrV.mono hL2 (fun k h => Nat.le_of_lt h.1), BF⟩
    · have hjq' : (j : Int) < (q : Int) := by omega
      obtain ⟨Tp, Lp, Up, Ap, np, cp, e0, e1, e2, e3, hnum, t1, t2, t3, rp, hby, hnp⟩ := PC.out.2 j (by omega)
      obtain ⟨g0, cs, hA0, _, _, kg, hcs⟩ := own_cell4 HO0.out (by omega)
      have kg' := Blk.keep hb kg
      have q0 : ∀ i, wr.cell? ⟨g0, i, none⟩ = cs[i]? := kg'.cell
      have d0 : wr.cell? ⟨g0, j * 4, none⟩ = some (.int .u16 Tp) := by rw [q0, hcs _ (by omega)]; exact e0
      have d1 : wr.cell? ⟨g0, j * 4 + 1, none⟩ = some (.int .u16 Lp) := by rw [q0, hcs _ (by omega)]; exact e1
      have d2 : wr.cell? ⟨g0, j * 4 + 2, none⟩ = some (.int .i64 Up) := by rw [q0, hcs _ (by omega)]; exact e2
      have d3 : wr.cell? ⟨g0, j * 4 + 3, none⟩ = some (.slice Ap np cp) := by rw [q0, hcs _ (by omega)]; exact e3
      have HRP := Lib.hid rp
      have HBY := Lib.hid hby
      have HNUM := Lib.hid hnum
      subst hA0
      clear q0 e0 e1 e2 e3 rp hby hnum kg kg' hcs hpr hv hy kb4 kr4 hb kb3 kr3
      go_wp2_with fail
      have HB5 := Lib.hid (HB.out.trans (show Bl wr (wr.alloc (.cells #[.int .u16 Tp, .int .u16 Lp, .int .i64 Up, .slice Ap np cp] 129)) by go_grown))
      have kp : Blk (wr.alloc (.cells #[.int .u16 Tp, .int .u16 Lp, .int .i64 Up, .slice Ap np cp] 129)) wr.heap.size #[.int .u16 Tp, .int .u16 Lp, .int .i64 Up, .slice Ap np cp] 129 := Blk.new _ _ _
      have kb5 : Blk (wr.alloc (.cells #[.int .u16 Tp, .int .u16 Lp, .int .i64 Up, .slice Ap np cp] 129)) gb #[.slice (some ⟨W.heap.size + 1, 0, none⟩) 4 4, .slice none 0 0, .slice A6 j c6, .slice A2 m c2] 35 := HKB.out.alloc _
      have kr5 : Blk (wr.alloc (.cells #[.int .u16 Tp, .int .u16 Lp, .int .i64 Up, .slice Ap np cp] 129)) w.heap.size #[.slice none 0 0, .slice none 0 0, .slice none 0 0, .slice none 0 0] 35 := HKR.out.alloc _
      have hpr5 := Lib.hid (PRow.below HPR.out (show Bl wr (wr.alloc (.cells #[.int .u16 Tp, .int .u16 Lp, .int .i64 Up, .slice Ap np cp] 129)) by go_grown))
      have hv5 := Lib.hid (NumV.below HV.out (show Bl wr (wr.alloc (.cells #[.int .u16 Tp, .int .u16 Lp, .int .i64 Up, .slice Ap np cp] 129)) by go_grown))
      have hy5 := Lib.hid (BytV.below HY.out (show Bl wr (wr.alloc (.cells #[.int .u16 Tp, .int .u16 Lp, .int .i64 Up, .slice Ap np cp] 129)) by go_grown))
      have hrp5 := Lib.hid (HRP.out.below HB5.out)
      have hsz5 : W3.heap.size ≤ (wr.alloc (.cells #[.int .u16 Tp, .int .u16 Lp, .int .i64 Up, .slice Ap np cp] 129)).heap.size := by simp; omega
      have hgr : gb < wr.heap.size := HKB.out.lt
      have hownr : ∀ k, (Value.slice A6 j c6).ownBlock = some k → W3.heap.size ≤ k ∧ k < wr.heap.size := fun k hk => by
        obtain ⟨_, ho, _⟩ := HPR.out
        exact ho.lt k hk
      have hB5r : Bl wr (wr.alloc (.cells #[.int .u16 Tp, .int .u16 Lp, .int .i64 Up, .slice Ap np cp] 129)) := by go_grown
      have hg95 : wr.heap.size < (wr.alloc (.cells #[.int .u16 Tp, .int .u16 Lp, .int .i64 Up, .slice Ap np cp] 129)).heap.size := by simp
      clear d0 d1 d2 d3
      clear HPR HV HY HKB HKR HB HRP
      generalize hg9 : wr.heap.size = g9 at *
      generalize wr.alloc (.cells #[.int .u16 Tp, .int .u16 Lp, .int .i64 Up, .slice Ap np cp] 129) = W5 at *
      have q0 : ∀ p : HoldT (TldErr gb g9 A6 j c6 Tp Lp Up Ap np cp), p.val.cell? ⟨gb, 2, none⟩ = some (.slice A6 j c6) := fun p => p.ok.1
      have q1 : ∀ p : HoldT (TldErr gb g9 A6 j c6 Tp Lp Up Ap np cp), p.val.cell? ⟨g9, 0, none⟩ = some (.int .u16 Tp) := fun p => p.ok.2.1
      have q2 : ∀ p : HoldT (TldErr gb g9 A6 j c6 Tp Lp Up Ap np cp), p.val.cell? ⟨g9, 1, none⟩ = some (.int .u16 Lp) := fun p => p.ok.2.2.1
      have q3 : ∀ p : HoldT (TldErr gb g9 A6 j c6 Tp Lp Up Ap np cp), p.val.cell? ⟨g9, 2, none⟩ = some (.int .i64 Up) := fun p => p.ok.2.2.2.1
      have q4 : ∀ p : HoldT (TldErr gb g9 A6 j c6 Tp Lp Up Ap np cp), p.val.cell? ⟨g9, 3, none⟩ = some (.slice Ap np cp) := fun p => p.ok.2.2.2.2
      have mk : ∀ {V : World}, Blk V gb #[.slice (some ⟨W.heap.size + 1, 0, none⟩) 4 4, .slice none 0 0, .slice A6 j c6, .slice A2 m c2] 35 → Blk V g9 #[.int .u16 Tp, .int .u16 Lp, .int .i64 Up, .slice Ap np cp] 129 → HoldS (TldErr gb g9 A6 j c6 Tp Lp Up Ap np cp) V := fun k1 k2 => HoldS.of ⟨k1.cell 2, k2.cell 0, k2.cell 1, k2.cell 2, k2.cell 3⟩
      haveI hne9 : Nonempty (HoldT (TldErr gb g9 A6 j c6 Tp Lp Up Ap np cp)) := ⟨⟨W5, kb5.cell 2, kp.cell 0, kp.cell 1, kp.cell 2, kp.cell 3⟩⟩
      refine wp_region_float (S := HoldS (TldErr gb g9 A6 j c6 Tp Lp Up Ap np cp)) [true, true, true, true, true, true, false, false, false, false, false, false] 9 (by kernel_rfl) (by kernel_rfl) (mk (kb5.same rfl) (kp.same rfl)) ?_
      simp only [selQ, selN, earlyN]
      repeat (first | go_big_quiet_skip | (go_big_quiet_want; go_big_quiet_op; go_big_quiet_on))
      refine wpQuiet_nil ?_
      clear q0 q1 q2 q3 q4
      have Bd : Bl W5 W5.drew := (Bl.refl W5).drew
      refine wpN_want rfl (fun K hK => ?_)
      go_big_op
      (with_reducible refine (par_any _ _ _ _ _ _ _ _ (hrp5.out.below Bd) HBY.out (by omega) t1 t2 t3).mono ?_)
      rintro e w6 ⟨u0, u1, rfl, hb6, hu0, hu1⟩
      obtain ⟨A7, c7, rfl⟩ : ∃ A7 c7, u0 = .slice A7 3 c7 := by obtain ⟨A7, c7, e, _⟩ := hu0; exact ⟨A7, c7, e⟩
      obtain ⟨A8, n8, c8, rfl⟩ : ∃ A8 n8 c8, u1 = .slice A8 n8 c8 := by obtain ⟨⟨A8, c8, e, _⟩, _⟩ := hu1; exact ⟨A8, _, c8, e⟩
      have B6 : Bl W5 w6 := Bd.trans hb6
      have hd5 : W5.drew.heap.size = W5.heap.size := by simp
      rw [hd5] at hu0 hu1
      have HU0 := Lib.hid hu0
      have HU1 := Lib.hid hu1
      refine hK _ _ (mk (Blk.keep B6 kb5) (Blk.keep B6 kp)) ?_
      clear hK K hu0 hu1 hb6 hd5
      refine wpN_want rfl (fun K hK => ?_)
      go_big_op
      have hz6 := B6.size
      have B7 : Bl W5 (w6.alloc (.cells #[.slice A7 3 c7, .slice A8 n8 c8] 57)) := B6.trans (by go_grown)
      have kn7 : Blk (w6.alloc (.cells #[.slice A7 3 c7, .slice A8 n8 c8] 57)) w6.heap.size #[.slice A7 3 c7, .slice A8 n8 c8] 57 := Blk.new w6 _ _
      have hu07 := NumV.below HU0.out (show Bl w6 (w6.alloc (.cells #[.slice A7 3 c7, .slice A8 n8 c8] 57)) by go_grown)
      have hu17 := BytV.below HU1.out (show Bl w6 (w6.alloc (.cells #[.slice A7 3 c7, .slice A8 n8 c8] 57)) by go_grown)
      refine hK _ _ (mk (Blk.keep B7 kb5) (Blk.keep B7 kp)) ?_
      clear hK K
      refine wpN_if rfl (fun K hK => ?_)
      have hpr7 := PRow.below hpr5.out B7
      obtain ⟨vs6, ho6', hes6⟩ := hpr7
      have ho6 := ho6'
      rw [hlt] at ho6
      have kb7 := Blk.keep B7 kb5
      have kp7 := Blk.keep B7 kp
      have kr7 := Blk.keep B7 kr5
      have hz7 := B7.size
      have hB7r := hB5r.trans B7
      generalize hW7 : w6.alloc (.cells #[.slice A7 3 c7, .slice A8 n8 c8] 57) = W7 at *
      refine step_app rfl _ _ 33 57 (.agg #[.slice none 0 0, .slice none 0 0]) 2 48 W3.heap.size rfl ud33t info57 rfl (by decide) (by decide) (.slice A6 j c6) j vs6 (some ⟨w6.heap.size, 0, none⟩) 1 1 [.slice A7 3 c7, .slice A8 n8 c8] rfl rfl ho6 (Blk.src kn7 1 2 rfl (by simp [Value.oneCell'])) (by omega) (by omega) ?_
      intro A9 c9 w8 hp
      have hgl9 : gb < W3.heap.size := by omega
      have kb8 := hp.blk kb7 hvg
      have kr8 := hp.blk kr7 (fun e => by have := hownr _ e; omega)
      have kp8 := hp.blk kp7 (fun e => by have := hownr _ e; omega)
      refine hK _ _ (mk kb8 kp8) ?_
      clear hK K
      have hnF : ∀ k, W5.heap.size ≤ k → (w.heap.size < k ∧ k ≠ gb) ∧ (Value.slice A6 j c6).ownBlock ≠ some k := fun k hk => ⟨⟨by omega, by omega⟩, fun e => by have := hownr _ e; omega⟩
      have hpa := PRow.app (P := ps.getD j Prt.nil) hes6 ho6' (by rw [hlt]; exact hp) (by rw [HNUM.out]; exact hu07.mono hnF) (hu17.mono hnF)
      rw [hlt] at hpa
      have hts : ps.take j ++ [ps.getD j Prt.nil] = ps.take (j + 1) := by
        rw [List.take_add_one, List.getElem?_eq_getElem (by omega)]
        simp [List.getD_eq_getElem?_getD, List.getElem?_eq_getElem (show j < ps.length by omega)]
      rw [hts] at hpa
      have hpb := hpa.set kb8 (by decide) (fun h => h.2 rfl) 2 (.slice A9 (j + 1) c9)
      have B8 : Bl w w8 := Below.grown (HB5.out.trans B7) hp.grown (HB5.out.trans B7).size (fun k hk => by have := hownr _ hk; have := B3.size; omega)
      have hne8 : (Value.slice A9 (j + 1) c9).ownBlock ≠ some gb := by
        rcases hp.at_ with e | e
        · rw [e]; exact hvg
        · rw [e]; intro e2; simp at e2; have := kb7.lt; omega
      have hkf : KeepF (fun k => (w.heap.size < k ∧ k ≠ gb) ∧ k < W3.heap.size) W7 (w8.setCell ⟨gb, 2, none⟩ (.slice A9 (j + 1) c9)) := fun k hF hlt' =>
        (Below.heap_setCell w8 ⟨gb, 2, none⟩ _ k hF.1.2).trans (hp.grown.block k hlt' (fun e => by have := hownr _ e.symm; omega))
      have hv9 := Lib.hid ((NumV.below hv5.out B7).keepF hkf)
      have hy9 := Lib.hid ((BytV.below hy5.out B7).keepF hkf)
      have hz8 : W7.heap.size ≤ w8.heap.size := hp.grown.size
      have HPB := Lib.hid hpb
      have cg := kb8.cell
      have fg := kb8.frozen
      have zg := kb8.lt
      clear hpb hpa hes6 ho6 ho6' hkf hnF hp mk hne9 kb7 kp7 kr7 kb5 kp kr5 hpr5 hv5 hy5 kp8 hB7r hB5r hu07 hu17
      refine wpN_late ?_
      go_wp2_with fail
      refine NoPanic.normal ?_
      go_wp2_with fail
      have k9 := kb8.set 2 (.slice A9 (j + 1) c9)
      simp only [List.setIfInBounds_toArray, List.set_cons_zero, List.set_cons_succ] at k9
      have kr9 := kr8.far (p := ⟨gb, 2, none⟩) hne (.slice A9 (j + 1) c9)
      have B9 : Bl w (w8.setCell ⟨gb, 2, none⟩ (.slice A9 (j + 1) c9)) := Below.setCell B8 (Nat.le_of_lt zr') _
      have hz9 : W3.heap.size ≤ (w8.setCell ⟨gb, 2, none⟩ (.slice A9 (j + 1) c9)).heap.size := by simp; omega
      exact ⟨Lib.hid ⟨j + 1, .slice A9 (j + 1) c9, by omega, by simp, B9, hz9, kr9, k9, hne8, HPB.out, hv9.out, hy9.out⟩, by simp [intOf]; omega⟩
end Go.Proofs.Ytoljdgfbkebgcaa
namespace Go.Proofs.Ytoljdgfbkebgcaa
open Go.RowKit
set_option linter.unusedVariables false
abbrev PhiErr (l : List Int) : Option Addr → Nat → Nat → World → Nat → Prop := (fun A n c w gl => ∃ v q B, Blk w gl ((chk A n c l).push v) 128 ∧ w.ownsRow B 129 4 v q (prmCells (cutA A c 4) (c - 4) (sub l 4 (chL l))))
set_option maxHeartbeats 1000000 in
theorem zzErr_ok (l : List Int) (hl : By l) (h4' : 4 ≤ chL l) (hup : up4 (chL l) ≤ l.length) (h0 : l.getD 0 0 ≠ 0) (hn2 : l.length ≤ 2000) (hf : fullOf (sub l 4 (chL l)) = true) : ZzOkP ⟨#[115, 99, 116, 112, 101, 114, 114, 111, 114]⟩ l 125 (PhiErr l) := by
  intro A n c w h
  have hlen := h.len
  have hup' : up4 (chL l) ≤ n := by omega
  have h5 : n ≤ 2000 := by omega
  have H := Lib.hid h
  have HB := Lib.hid hl
  have H0 := Lib.hid h0
  have HF := Lib.hid hf
  clear h hl h0 hf
  go_enter Try.func69, Try.ntmps69
  go_wp2_with fail
  (with_reducible refine (errNew_any _ _).mono ?_)
  rintro e w1 ⟨rfl, hb1⟩
  have k1 := Blk.keep hb1 (Blk.new w _ _)
  have hz : w.heap.size < w1.heap.size := k1.lt
  go_wp2_with fail
  (with_reducible refine (decErr_any _ _ _ _ _ _ (H.out.below (Bl.trans (by go_grown) hb1)) HB.out h4' hup' H0.out h5 HF.out _ k1).mono ?_)
  rintro e w2 ⟨rfl, gl, v, q, kp, ho⟩
  have HO := Lib.hid ho
  have c2 := kp.keeper.cell
  clear ho
  go_wp2_with fail
  go_ret2
  exact ⟨gl, rfl, Below.trans (Bl.trans (by go_grown) hb1) kp.low, v, q, _, kp.layer, HO.out⟩
theorem zzErr_err (l : List Int) (hl : By l) (h4 : 4 ≤ l.length) (hL : chL l < 4) : ZzErr ⟨#[115, 99, 116, 112, 101, 114, 114, 111, 114]⟩ l := by
  intro A n c w h
  have hlen := h.len
  have h4n : 4 ≤ n := by omega
  have H := Lib.hid h
  have HB := Lib.hid hl
  clear h hl
  go_enter Try.func69, Try.ntmps69
  go_wp2_with fail
  (with_reducible refine (errNew_any _ _).mono ?_)
  rintro e w1 ⟨rfl, hb1⟩
  have hz : w.heap.size < w1.heap.size := by have := hb1.size; simp at this; omega
  go_wp2_with fail
  (with_reducible refine (decErr_short _ _ _ _ _ (H.out.below (Bl.trans (by go_grown) hb1)) HB.out h4n hL _).mono ?_)
  rintro e w2 ⟨⟨u, rfl⟩, hb2⟩
  go_wp2_with fail
  go_ret2
  exact ⟨⟨_, rfl⟩, Bl.trans (Bl.trans (by go_grown) hb1) hb2⟩
set_option maxHeartbeats 1000000 in
theorem calledErr_any (l : List Int) (hl : By l) (h4' : 4 ≤ chL l) (hup : up4 (chL l) ≤ l.length) (h0 : l.getD 0 0 ≠ 0) (hn2 : l.length ≤ 2000) : CallAt ⟨#[115, 99, 116, 112, 101, 114, 114, 111, 114]⟩ l (fullOf (sub l 4 (chL l))) := by
  intro A n c w h
  have hlen := h.len
  have hcap := h.cap
  have u4 : chL l ≤ up4 (chL l) := by unfold up4; omega
  have HH := Lib.hid h
  have HB := Lib.hid hl
  have HR := Lib.hid (h.cut 4 (chL l) h4' (by omega))
  have s3 := run_cut A n c 4 (chL l) 4 (be (sub l 2 (2 + 2))) rfl (chL_int l hl) h4' (by omega) 24 Try.underlying24 size5
  obtain ⟨g, o, rfl, hg, hc⟩ := h.at (by omega)
  have d0 := hc 0 (by omega)
  simp only [Nat.add_zero] at d0
  have h4 : 4 ≤ n := by omega
  have h5 : n ≤ 2000 := by omega
  have e1 : be (sub l 2 (2 + 2)) = (chL l : Int) := chL_int l hl
  have b1 : 4 ≤ be (sub l 2 (2 + 2)) := by omega
  have b2 : be (sub l 2 (2 + 2)) ≤ 65535 := by have := chL_le l hl (by omega); omega
  have b3 : (be (sub l 2 (2 + 2)) + 3) / 4 * 4 ≤ (n : Int) := by rw [e1]; unfold up4 at hup; omega
  have b4 : be (sub l 2 (2 + 2)) ≤ (n : Int) := by omega

  have hV : chL l ≤ 2000 := by omega
  generalize l.getD 0 0 = x0 at *
  have H0 := Lib.hid h0
  have d0' : ∀ q, (w.drewN q).cell? ⟨g, o, none⟩ = some (.int .u8 x0) := fun q => d0
  clear h hlen hn2 hl e1 hc h4' hup h0 d0 u4
  generalize hVV : chL l = V at *
  go_enter Try.func68, Try.ntmps68
  go_wp2_with fail
  (with_reducible refine (number_any _ _ _ 2 _ _ HH.out HB.out (by omega) (by omega) 2 rfl).mono ?_)
  rintro e w1 ⟨rfl, q, rfl⟩
  generalize be (sub l 2 (2 + 2)) = L at *
  go_wp2_with fail
  (with_reducible refine (iup_any _ (by omega) (by omega) _).mono ?_)
  rintro e w1 ⟨rfl, rfl⟩
  generalize (L + 3) / 4 * 4 = U at *
  have h0 := H0.out
  go_wp2_with fail
  (with_reducible refine (are_any _ _ _ _ _ (HR.out.below ((Bl.refl w).drewN _)) (HB.out.sub _ _) (by omega)).mono ?_)
  rintro e w2 ⟨rfl, q2, rfl⟩
  go_wp2_with fail
  go_ret
  exact ⟨rfl, (Bl.refl _).drewN _⟩
theorem readErr_no (l : List Int) (hd : ∀ (A : Option Addr) (n c : Nat) (w : World), Rd .u8 w A n c l → Calls Try.prog 48 #[.string ⟨#[115, 99, 116, 112, 101, 114, 114, 111, 114]⟩, .slice A n c] w fun e w' => e = .returned (.tuple #[.nilIface, .bool false]) ∧ Bl w w') : NoReadAt ⟨#[115, 99, 116, 112, 101, 114, 114, 111, 114]⟩ l := by
  intro A n c w h
  have H := Lib.hid h
  have HD := Lib.hid hd
  clear h hd
  go_enter Try.func33, Try.ntmps33
  go_wp2_with fail
  (with_reducible refine (HD.out _ _ _ _ (H.out.below (by go_grown))).mono ?_)
  rintro e w1 ⟨rfl, hb1⟩
  have kr := Blk.keep hb1 (Blk.new w _ _)
  have cr := kr.cell
  have fr := kr.frozen
  have zr := kr.lt
  have B2 := Lib.hid (Bl.trans (Below.alloc (Below.refl _ w) (Nat.le_refl _) _) hb1)
  go_wp2_with fail
  refine bodyPost_ret (v := .tuple #[.agg #[.slice none 0 0, .slice none 0 0, .slice none 0 0, .slice none 0 0], .bool false]) (by simp [results, Try.results33, go_sem, cr]) rfl
    ⟨rfl, Bl.boxed B2.out (Nat.le_refl _) _ _ _ _⟩
set_option maxHeartbeats 1000000 in
theorem readErr_ok (l : List Int) (hl : By l) (h4' : 4 ≤ chL l) (hup : up4 (chL l) ≤ l.length) (h0 : l.getD 0 0 ≠ 0) (hn2 : l.length ≤ 2000) (ps : List Prt) (hf : fullOf (sub l 4 (chL l)) = true) (hps : prmsOf (sub l 4 (chL l)) = some ps) :
    ReadAt ⟨#[115, 99, 116, 112, 101, 114, 114, 111, 114]⟩ l ⟨[l.getD 0 0, l.getD 1 0, be (sub l 2 4), (up4 (chL l) : Int)], [], ps, sub l (up4 (chL l)) l.length⟩ := by
  intro A n c w h
  have H := Lib.hid h
  have HB := Lib.hid hl
  have hlen := h.len
  have hup' : up4 (chL l) ≤ n := by omega
  have u4 : chL l ≤ up4 (chL l) := by unfold up4; omega
  have hn2' : n ≤ 2000 := by omega
  have HC := Lib.hid (calledErr_any l hl h4' hup h0 hn2)
  rw [hf] at HC
  have HZ := Lib.hid (zzErr_ok l hl h4' hup h0 hn2 hf)
  have HPS := Lib.hid hps
  have HF := Lib.hid hf
  clear h hl h0 hps hf
  go_enter Try.func33, Try.ntmps33
  go_wp2_with fail
  (with_reducible refine (decodedP_ok _ _ _ _ (fun A n c w w' gl h hb => by obtain ⟨v, q, B, h1, h2⟩ := h; exact ⟨v, q, B, Blk.keep hb h1, own_bl h2 hb⟩) hn2 HC.out HZ.out _ _ _ _ (H.out.below (by go_grown))).mono ?_)
  rintro e w1 ⟨A1, c1, gl, rfl, hb1, ⟨v, q, B, kl, ho⟩, r1⟩
  have R1 := Lib.hid r1
  have kr := Blk.keep hb1 (Blk.new w _ _)
  have cl : w1.cell? ⟨gl, 1, none⟩ = some (.slice (cutA A1 c1 (up4 (chL l))) (n - up4 (chL l)) (c1 - up4 (chL l))) := by rw [kl.cell]; rfl
  have HO1 := Lib.hid hb1
  have zr := kr.lt
  have hpc := pcells_of _ w1 (cutA A1 c1 4) (chL l - 4) (c1 - 4) (sub l 4 (chL l)) ps (Nat.le_refl _) (r1.cut 4 (chL l) (by omega) (by omega)) (HB.out.sub _ _) (by omega) HF.out HPS.out
  have hql : q = ps.length := by have h1 := ho.1; have h2 := hpc.1; omega
  have hpl := (prms_len _ (sub l 4 (chL l)) ps (Nat.le_refl _) HPS.out).1
  rw [sub_length _ _ _ (by omega)] at hpl
  subst hql
  have PC := Lib.hid hpc
  have OR := Lib.hid ho
  have KL := Lib.hid kl
  clear r1 ho hpc kl
  go_wp2_with fail
  (with_reducible refine (payload_any _ _ _ _ _ cl).mono ?_)
  rintro e w2 ⟨rfl, rfl⟩
  go_wp2_with fail
  have q := (R1.out.cut (up4 (chL l)) n (by omega) (by omega))
  (with_reducible refine (toldErr_any _ _ _ _ _ _ _ _ _ _ HB.out h4' hup' hn2' R1.out _ _ _ _ KL.out OR.out PC.out (by omega) q (HB.out.sub _ _) (by omega)).mono ?_)
  rintro e w2 ⟨v, rfl, hL, hb2⟩
  obtain ⟨A4, c4, A5, c5, A6, c6, A7, c7, rfl⟩ := hL.form
  have HL := Lib.hid hL
  clear hL
  have kr2 := Blk.keep hb2 kr
  have cr := kr2.cell
  have fr := kr2.frozen
  have zr2 := kr2.lt
  have B2 := Lib.hid ((Bl.trans (Below.alloc (Below.refl _ w) (Nat.le_refl _) _) HO1.out).trans hb2)
  have hz : w.heap.size ≤ w1.heap.size := Nat.le_of_lt zr
  subst hlen
  go_wp2_with fail
  refine bodyPost_ret (v := .tuple #[.agg #[.slice A4 4 c4, .slice A5 0 c5, .slice A6 ps.length c6, .slice A7 (sub l (up4 (chL l)) l.length).length c7], .bool true]) (by simp [results, Try.results33, go_sem, cr]) rfl
    ⟨_, rfl, LyrV.mono (LyrV.boxed HL.out (by show ¬ (w1.heap.size ≤ w.heap.size); omega) _ _ _ _) (fun k hk => Nat.le_trans hz hk), Bl.boxed B2.out (Nat.le_refl _) _ _ _ _⟩
end Go.Proofs.Ytoljdgfbkebgcaa
