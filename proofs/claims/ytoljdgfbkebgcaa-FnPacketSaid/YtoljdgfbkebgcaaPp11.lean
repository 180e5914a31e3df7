/- impl.told: sctpsack. ZZDecode, called, impl.Read: sctpsack. -/
import Derived.Test.YtoljdgfbkebgcaaPq03
import Derived.Test.YtoljdgfbkebgcaaPq04
import Derived.Test.YtoljdgfbkebgcaaPq08
import Derived.Test.YtoljdgfbkebgcaaPp10
import Derived.Test.YtoljdgfbkebgcaaPq07
import Derived.Test.YtoljdgfbkebgcaaPq12
import Derived.Test.YtoljdgfbkebgcaaPq06
import Derived.LoopTactic
import Derived.Test.YtoljdgfbkebgcaaPp05
namespace Go.Proofs.Ytoljdgfbkebgcaa
open Go.RowKit
set_option linter.unusedVariables false
def TldSac (gb : Nat) (A6 : Option Addr) (j c6 : Nat) (V : World) : Prop := V.cell? ⟨gb, 2, none⟩ = some (.slice A6 j c6)
/-- What is told of the numbers. -/
def sacPs (l : List Int) (q : Nat) : List Prt := (fours l q).map fun y => ⟨[1, y], []⟩
theorem sacPs_len (l : List Int) (q : Nat) : (sacPs l q).length = q := by simp [sacPs, fours_len]
theorem ud31s : Try.prog.underlying 31 = some (.slice 26) := by kernel_rfl
theorem ud33s : Try.prog.underlying 33 = some (.slice 57) := by kernel_rfl
set_option maxHeartbeats 4000000 in
set_option maxRecDepth 100000 in
theorem toldSac_any (q : Nat) (A1 A : Option Addr) (n c1 m c gl : Nat) (l p : List Int) (w : World) (hl : By l) (h16 : 16 + 4 * q ≤ n) (hV : chL l ≤ 65535) (hup : up4 (chL l) ≤ n) (hn2 : n ≤ 2000) (r : Rd .u8 w A1 n c1 l) (A00 : Option Addr) (c00 : Nat) (v : Value) (B : Nat) (k : Blk w gl (((sacC A1 n c1 l q).push (.slice A00 0 c00)).push v) 119) (ho0 : w.ownsRow B 23 1 v q ((fours l q).map (Value.int .u32))) (hyb : ∀ j, j < q → 0 ≤ (fours l q).getD j 0 ∧ (fours l q).getD j 0 ≤ 4294967295) (h : Rd .u8 w A m c p) (hp : By p) (hm : m ≤ 2000) :
    Calls Try.prog 49 #[.iface 115 (.pointer (some ⟨gl, 0, none⟩)), .slice A m c] w fun e w' =>
      Got w w' e ⟨[l.getD 0 0, l.getD 1 0, be (sub l 2 4), (up4 (chL l) : Int), be (sub l 4 8), be (sub l 8 12), 0, (q : Int)], [], sacPs l q, p⟩ := by
  have u4 : chL l ≤ up4 (chL l) := by unfold up4; omega
  have H := Lib.hid h
  have HP := Lib.hid hp
  have hlen := r.len
  have b0 := hl.getD 0
  have b1 := hl.getD 1
  have b2 := be_bd2 (sub l 2 4) (hl.sub _ _) (by rw [sub_length _ _ _ (by omega)])
  have b3 : (0 : Int) ≤ (up4 (chL l) : Int) ∧ (up4 (chL l) : Int) ≤ 2147483647 := by omega
  have y0 := be_bd4 (sub l 4 8) (hl.sub _ _) (by rw [sub_length _ _ _ (by omega)])
  have y1 := be_bd4 (sub l 8 12) (hl.sub _ _) (by rw [sub_length _ _ _ (by omega)])
  have hq : q ≤ 500 := by omega
  obtain ⟨A0, c0, rfl, hr0⟩ := own_rd ho0
  have HR0 := Lib.hid hr0
  have HYB := Lib.hid hyb
  obtain ⟨ps, hps⟩ : ∃ ps, ps = sacPs l q := ⟨_, rfl⟩
  have hqe : q = ps.length := by rw [hps, sacPs_len]
  have hpe : ∀ j, j < q → ps.getD j Prt.nil = ⟨[1, (fours l q).getD j 0], []⟩ := fun j hj => by
    rw [hps]
    unfold sacPs
    simp [List.getD_eq_getElem?_getD, List.getElem?_eq_getElem (show j < (fours l q).length by rw [fours_len]; exact hj)]
  rw [← hps]
  have HPE := Lib.hid hpe
  have HQE := Lib.hid hqe
  clear hqe
  have hk : Blk w gl (#[.slice A1 (up4 (chL l)) c1, .slice (cutA A1 c1 (up4 (chL l))) (n - up4 (chL l)) (c1 - up4 (chL l)), .int .u8 (l.getD 0 0), .int .u8 (l.getD 1 0), .int .u16 (be (sub l 2 4)), .int .i64 (up4 (chL l)), .int .u32 (be (sub l 4 8)), .int .u32 (be (sub l 8 12)), .int .u16 0, .int .u16 (q : Nat), .slice A00 0 c00, .slice A0 q c0]) 119 := k
  have hgl := hk.lt
  generalize l.getD 0 0 = x0 at *
  generalize l.getD 1 0 = x1 at *
  generalize be (sub l 2 4) = L at *
  generalize be (sub l 4 8) = Y0 at *
  generalize be (sub l 8 12) = Y1 at *
  generalize up4 (chL l) = U at *
  generalize chL l = V at *
  generalize hfo : fours l q = fo at *
  clear h hp hl r k ho0 hyb hpe hr0 hps hfo hV
  have t0 := ta_115_90
  have t1 := ta_115_97
  have t2 := ta_115_105
  have t3 := ta_115
  go_enter Try.func49, Try.ntmps49
  go_wp2_with fail
  (with_reducible refine (clone_any _ _ _ _ _ (H.out.below (by go_grown)) (by omega)).mono ?_)
  rintro e w1 ⟨⟨A2, c2, rfl, ho⟩, hb1⟩
  have kr := Blk.keep hb1 (Blk.new w _ _)
  have kl := Blk.keep hb1 (hk.alloc _)
  have cl := kl.cell
  have zl := kl.lt
  have cr := kr.cell
  have fr := kr.frozen
  have zr := kr.lt
  have B0 : Bl w w1 := Bl.trans (by go_grown) hb1
  have v3 := Lib.hid (own_bytV (F := fun k => w.heap.size < k ∧ k ≠ w1.heap.size) ho HP.out (fun k h1 h2 => by simp at h1; exact ⟨by omega, by omega⟩))
  clear ho
  go_wp2_with fail
  have kb := Blk.new w1 #[.slice none 0 0, .slice none 0 0, .slice none 0 0, .slice A2 m c2] 35
  have kl1 := kl.alloc (.cells #[.slice none 0 0, .slice none 0 0, .slice none 0 0, .slice A2 m c2] 35)
  have kr1 := kr.alloc (.cells #[.slice none 0 0, .slice none 0 0, .slice none 0 0, .slice A2 m c2] 35)
  have B1 : Bl w (w1.alloc (.cells #[.slice none 0 0, .slice none 0 0, .slice none 0 0, .slice A2 m c2] 35)) := B0.trans (by go_grown)
  have v31 := Lib.hid (BytV.below v3.out (w' := w1.alloc (.cells #[.slice none 0 0, .slice none 0 0, .slice none 0 0, .slice A2 m c2] 35)) (by go_grown))
  clear v3 cl zl cr fr kl kr hb1 hk B0
  have zr' : w.heap.size < w1.heap.size := zr
  generalize w1.alloc (.cells #[.slice none 0 0, .slice none 0 0, .slice none 0 0, .slice A2 m c2] 35) = W at *
  generalize w1.heap.size = gb at *
  clear zr
  have zW : gb < W.heap.size := kb.lt
  have hne : w.heap.size ≠ gb := Nat.ne_of_lt zr'
  have k0 : ∀ d os, (Sort.grow (redrawn W d) os).cell? ⟨gl, 0, none⟩ = some (.slice A1 U c1) := fun d os => cell_regrown (kl1.cell 0) d os
  have k1 : ∀ d os, (Sort.grow (redrawn W d) os).cell? ⟨gl, 1, none⟩ = some (.slice (cutA A1 c1 U) (n - U) (c1 - U)) := fun d os => cell_regrown (kl1.cell 1) d os
  have k2 : ∀ d os, (Sort.grow (redrawn W d) os).cell? ⟨gl, 2, none⟩ = some (.int .u8 x0) := fun d os => cell_regrown (kl1.cell 2) d os
  have k3 : ∀ d os, (Sort.grow (redrawn W d) os).cell? ⟨gl, 3, none⟩ = some (.int .u8 x1) := fun d os => cell_regrown (kl1.cell 3) d os
  have k4 : ∀ d os, (Sort.grow (redrawn W d) os).cell? ⟨gl, 4, none⟩ = some (.int .u16 L) := fun d os => cell_regrown (kl1.cell 4) d os
  have k5 : ∀ d os, (Sort.grow (redrawn W d) os).cell? ⟨gl, 5, none⟩ = some (.int .i64 (U : Nat)) := fun d os => cell_regrown (kl1.cell 5) d os
  have k6 : ∀ d os, (Sort.grow (redrawn W d) os).cell? ⟨gl, 6, none⟩ = some (.int .u32 Y0) := fun d os => cell_regrown (kl1.cell 6) d os
  have k7 : ∀ d os, (Sort.grow (redrawn W d) os).cell? ⟨gl, 7, none⟩ = some (.int .u32 Y1) := fun d os => cell_regrown (kl1.cell 7) d os
  have k8 : ∀ d os, (Sort.grow (redrawn W d) os).cell? ⟨gl, 8, none⟩ = some (.int .u16 0) := fun d os => cell_regrown (kl1.cell 8) d os
  have k9 : ∀ d os, (Sort.grow (redrawn W d) os).cell? ⟨gl, 9, none⟩ = some (.int .u16 (q : Nat)) := fun d os => cell_regrown (kl1.cell 9) d os
  refine wp_region_float2 (S := Grw W) [true, true, true, true, true, false, true, true, true, true, true, true, true, true, true, true, true, true, true, true, true, true, true, true, true, true, false, false, false, false, false] [true, true, true, true, true, true, true, true, true, true, true, true, true, true, true, true, true, true, true, true, true, true, true, true, true, true, true, false, false, false, false] 5 26 28 (by kernel_rfl) (by kernel_rfl) (Grw.drew W) ?_
  simp only [selQ, selN, earlyN, pickL, List.cons_append, List.nil_append]
  repeat (first | go_big_quiet_skip | (go_big_quiet_want; go_big_quiet_op; go_big_quiet_on))
  have Bd : Bl W W.drew := (Bl.refl W).drew
  refine wpQuiet_nil ⟨?arm1, ?arm2⟩
  case' arm1 =>
    refine wpN_want rfl (fun K hK => ?_)
    go_big_op
    (with_reducible refine (chunkv_g _ _ _ _ _ _ _ _ _ _ _ b0 b1 b2 b3).mono ?_)
    rintro e w2 ⟨gn, rfl, hb2, ho'⟩
    have ho : w2.ownsRow W.heap.size 26 1 (.slice (some ⟨gn, 0, none⟩) 4 4) 4 ([x0, x1, L, (U : Int)].map (Value.int .u64)) := ho'
    have OW := Lib.hid (ho.alloc (.cells #[.int .u64 Y0, .int .u64 Y1, .int .u64 0, .int .u64 (q : Int)] 26))
    clear ho ho'
    have B2 := Bd.trans hb2
    refine hK _ _ (Grw.of B2) ?_
    clear hK K
    refine wpN_want rfl (fun K hK => ?_)
    go_big_op
    have B3 : Bl W (w2.alloc (.cells #[.int .u64 Y0, .int .u64 Y1, .int .u64 0, .int .u64 (q : Int)] 26)) := B2.trans (by go_grown)
    refine hK _ _ (Grw.of B3) ?_
    clear hK K
    refine wpN_if rfl (fun K hK => ?_)
    refine step_app rfl _ _ 31 26 (.int .u64 0) 1 8 W.heap.size rfl ud31s info26 rfl (by decide) (by decide) (.slice (some ⟨gn, 0, none⟩) 4 4) 4 _ _ 4 _ _ rfl rfl OW.out (Blk.src (Blk.new w2 #[.int .u64 Y0, .int .u64 Y1, .int .u64 0, .int .u64 (q : Int)] 26) 4 1 rfl (fun u hu => by simp at hu; rcases hu with rfl | rfl | rfl | rfl <;> rfl)) (by omega) B3.size ?_
    intro A5 c5 w3 hp
    have BW : Bl W w3 := hp.bl OW.out B3
    have ho5 := Lib.hid hp.own
    clear hp
    refine hK _ _ (Grw.of BW) ?_
    clear hK K
  case' arm2 =>
    refine wpN_want rfl (fun K hK => ?_)
    go_big_op
    have B1' : Bl W ((W.alloc (.cells #[.int .u64 Y0, .int .u64 Y1, .int .u64 0, .int .u64 (q : Int)] 26)).drew) := ((Bl.refl W).trans (by go_grown)).drew
    have kn1 : Blk ((W.alloc (.cells #[.int .u64 Y0, .int .u64 Y1, .int .u64 0, .int .u64 (q : Int)] 26)).drew) W.heap.size #[.int .u64 Y0, .int .u64 Y1, .int .u64 0, .int .u64 (q : Int)] 26 := (Blk.new W _ _).same rfl
    have hs1 : W.heap.size ≤ ((W.alloc (.cells #[.int .u64 Y0, .int .u64 Y1, .int .u64 0, .int .u64 (q : Int)] 26)).drew).heap.size := B1'.size
    refine hK _ _ (Grw.of B1') ?_
    clear hK K
    refine wpN_want rfl (fun K hK => ?_)
    go_big_op
    (with_reducible refine (chunkv_g _ _ _ _ _ _ _ _ _ _ _ b0 b1 b2 b3).mono ?_)
    rintro e w2 ⟨gn, rfl, hb2, ho'⟩
    have ho : w2.ownsRow W.heap.size 26 1 (.slice (some ⟨gn, 0, none⟩) 4 4) 4 ([x0, x1, L, (U : Int)].map (Value.int .u64)) := own_mono ho' hs1
    have OW := Lib.hid ho
    have kn2 := Blk.keep hb2 kn1
    clear ho ho'
    have B3 := B1'.trans hb2
    refine hK _ _ (Grw.of B3) ?_
    clear hK K
    refine wpN_if rfl (fun K hK => ?_)
    refine step_app rfl _ _ 31 26 (.int .u64 0) 1 8 W.heap.size rfl ud31s info26 rfl (by decide) (by decide) (.slice (some ⟨gn, 0, none⟩) 4 4) 4 _ _ 4 _ _ rfl rfl OW.out (Blk.src kn2 4 1 rfl (fun u hu => by simp at hu; rcases hu with rfl | rfl | rfl | rfl <;> rfl)) (by omega) B3.size ?_
    intro A5 c5 w3 hp
    have BW : Bl W w3 := hp.bl OW.out B3
    have ho5 := Lib.hid hp.own
    clear hp
    refine hK _ _ (Grw.of BW) ?_
    clear hK K
  all_goals
    have kb3 := Blk.keep BW kb
    have kr3 := Blk.keep BW kr1
    have v33 := Lib.hid (BytV.below v31.out BW)
    have B4 := B1.trans BW
    have cb := kb3.cell
    have fb := kb3.frozen
    have zb := kb3.lt
    have cr := kr3.cell
    have fr := kr3.frozen
    have zr := kr3.lt
    have kl3 := Blk.keep BW kl1
    have cl := kl3.cell
    have zl := kl3.lt
    clear k0 k1 k2 k3 k4 k5 k6 k7 k8 k9
    refine wpN_late ?_
    go_wp2_with fail
    refine NoPanic.normal ?_
    have hv0 := Lib.hid (own_numV (F := fun k => w.heap.size < k ∧ k ≠ gb) (l := [x0, x1, L, (U : Int), Y0, Y1, 0, (q : Int)]) ho5.out (fun k h1 _ => ⟨by have : W.heap.size ≤ k := h1; omega, by have : W.heap.size ≤ k := h1; omega⟩))
    go_wp2_with fail
    have hgn : W.heap.size ≤ w3.heap.size := BW.size
    have B3' : Bl w (w3.setCell ⟨gb, 0, none⟩ (.slice A5 8 c5)) := Below.setCell B4 (Nat.le_of_lt zr') _
    have kb4 := kb3.set 0 (.slice A5 8 c5)
    simp only [List.setIfInBounds_toArray, List.set_cons_zero] at kb4
    have kr4 := kr3.far (p := ⟨gb, 0, none⟩) hne (.slice A5 8 c5)
    have v34 := Lib.hid (BytV.keepF v33.out ((KeepF.refl _ w3).setCell (p := ⟨gb, 0, none⟩) (fun h => h.2 rfl) (.slice A5 8 c5)))
    have hv3 := Lib.hid (NumV.keepF hv0.out ((KeepF.refl _ w3).setCell (p := ⟨gb, 0, none⟩) (fun h => h.2 rfl) (.slice A5 8 c5)))
    have kl5 := kl3.far (p := ⟨gb, 0, none⟩) (show gl ≠ gb by omega) (.slice A5 8 c5)
    have hsz3 : w3.heap.size = (w3.setCell ⟨gb, 0, none⟩ (.slice A5 8 c5)).heap.size := by simp
    clear cb fb zb cr fr zr cl zl kl3 hv0 v31 v33 kb kb3 kr1 kr3 kl1 B3 BW B4 ho5 OW
    generalize w3.setCell ⟨gb, 0, none⟩ (.slice A5 8 c5) = W3 at *
    have cl := kl5.cell
    go_loopw [207] (fun i wr => i = .int .i64 0 ∧ W3 = wr) (fun _ _ => 0)
    case atStart => exact ⟨rfl, rfl⟩
    case round =>
    obtain ⟨rfl, hw3⟩ := hrel
    subst hw3
    go_wp2_with fail
    clear cl kl5
    go_loopw [230] (fun i wr => Hid (∃ (j : Nat) (v : Value), j ≤ q ∧ i = .int .i64 j ∧ Bl w wr ∧ W3.heap.size ≤ wr.heap.size ∧ Blk wr w.heap.size #[.slice none 0 0, .slice none 0 0, .slice none 0 0, .slice none 0 0] 35 ∧ Blk wr gb #[.slice A5 8 c5, .slice none 0 0, v, .slice A2 m c2] 35 ∧ v.ownBlock ≠ some gb ∧ PRow (fun k => w.heap.size < k ∧ k ≠ gb) W3.heap.size wr v (ps.take j) ∧ NumV (fun k => (w.heap.size < k ∧ k ≠ gb) ∧ k < W3.heap.size) wr (.slice A5 8 c5) [x0, x1, L, (U : Int), Y0, Y1, 0, (q : Int)] ∧ BytV (fun k => (w.heap.size < k ∧ k ≠ gb) ∧ k < W3.heap.size) wr (.slice A2 m c2) p)) (fun i _ => q - (intOf i).toNat)
    case atStart => exact Lib.hid ⟨0, .slice none 0 0, by omega, rfl, B3', Nat.le_refl _, kr4, kb4, by simp [Value.ownBlock], by simpa using PRow.nil _ _ _, NumV.strong hv3.out, BytV.strong v34.out⟩
    case round =>
      clear kr4 kb4
      obtain ⟨j, v, hj, rfl, hb, hsz, kr4, kb4, hvg, hpr, hv, hy⟩ := hrel.out
      clear hrel
      obtain ⟨A6, c6, rfl⟩ := hpr.form
      have hlt : (ps.take j).length = j := by rw [List.length_take]; have := HQE.out; omega
      rw [hlt] at kb4 hvg hpr
      have HPR := Lib.hid hpr
      have HV := Lib.hid hv
      have HY := Lib.hid hy
      have HKB := Lib.hid kb4
      have HKR := Lib.hid kr4
      have HB := Lib.hid hb
      by_cases hjq : j = q
      · have cr := kr4.cell
        have fr := kr4.frozen
        have zr := kr4.lt
        have cb := kb4.cell
        clear hpr hv hy kb4 kr4 hb
        go_wp2_with fail
        have k5 := (((HKR.out.set 0 (.slice A5 8 c5)).set 1 (.slice none 0 0)).set 2 (.slice A6 q c6)).set 3 (.slice A2 m c2)
        have cz := k5.cell
        have hpt : ps.take q = ps := by rw [HQE.out]; exact List.take_length
        have HPP := HPR.out
        rw [hjq, hpt] at HPP
        have hL : LyrV (fun k => w.heap.size < k ∧ k ≠ gb) wr (.agg #[.slice A5 8 c5, .slice none 0 0, .slice A6 q c6, .slice A2 m c2]) ⟨[x0, x1, L, (U : Int), Y0, Y1, 0, (q : Int)], [], ps, p⟩ :=
          ⟨_, _, _, _, rfl, HV.out.mono fun _ h => h.1, DataV.nil _ _, HPP.parts (fun k h1 _ => ⟨by omega, by omega⟩), HY.out.mono fun _ h => h.1⟩
        have hL2 := LyrV.boxed (g := w.heap.size) hL (fun h => Nat.lt_irrefl _ h.1) (.slice A5 8 c5) (.slice none 0 0) (.slice A6 q c6) (.slice A2 m c2)
        have BF := Bl.boxed HB.out (Nat.le_refl _) (.slice A5 8 c5) (.slice none 0 0) (.slice A6 q c6) (.slice A2 m c2)
        clear hL k5
        generalize ((((wr.setCell ⟨w.heap.size, 0, none⟩ (.slice A5 8 c5)).setCell ⟨w.heap.size, 1, none⟩ (.slice none 0 0)).setCell ⟨w.heap.size, 2, none⟩ (.slice A6 q c6)).setCell ⟨w.heap.size, 3, none⟩ (.slice A2 m c2)) = WF at *
        refine bodyPost_ret (v := .tuple #[.agg #[.slice A5 8 c5, .slice none 0 0, .slice A6 q c6, .slice A2 m c2], .bool true]) (by simp [results, Try.results49, go_sem, cz]) rfl ⟨_, rfl, LyrV.mono hL2 (fun k h => Nat.le_of_lt h.1), BF⟩
      · have hjq' : (j : Int) < (q : Int) := by omega
        obtain ⟨g0, o0, hA0, hg0, hc0⟩ := HR0.out.at (by omega)
        have d0 : wr.cell? ⟨g0, o0 + j, none⟩ = some (.int .u32 (fo.getD j 0)) := (hb.cell (p := ⟨g0, o0 + j, none⟩) hg0).trans (hc0 j (by omega))
        have yb := HYB.out j (by omega)
        have HYE := Lib.hid (HPE.out j (by omega))
        generalize fo.getD j 0 = Y at *
        subst hA0
        have hownr : ∀ k, (Value.slice A6 j c6).ownBlock = some k → W3.heap.size ≤ k ∧ k < wr.heap.size := fun k hk => by
          obtain ⟨_, ho, _⟩ := HPR.out
          exact ho.lt k hk
        have hgr : gb < wr.heap.size := HKB.out.lt
        clear hc0 hpr hv hy kb4 kr4 hb
        have B7 : Bl wr ((wr.alloc (.cells #[.int .u64 1, .int .u64 Y] 26)).alloc (.cells #[.slice (some ⟨wr.heap.size, 0, none⟩) 2 2, .slice none 0 0] 57)) := by go_grown
        have kn1 : Blk ((wr.alloc (.cells #[.int .u64 1, .int .u64 Y] 26)).alloc (.cells #[.slice (some ⟨wr.heap.size, 0, none⟩) 2 2, .slice none 0 0] 57)) wr.heap.size #[.int .u64 1, .int .u64 Y] 26 := (Blk.new wr _ _).alloc _
        have kn7 : Blk ((wr.alloc (.cells #[.int .u64 1, .int .u64 Y] 26)).alloc (.cells #[.slice (some ⟨wr.heap.size, 0, none⟩) 2 2, .slice none 0 0] 57)) (wr.heap.size + 1) #[.slice (some ⟨wr.heap.size, 0, none⟩) 2 2, .slice none 0 0] 57 := Blk.newAt (wr.alloc (.cells #[.int .u64 1, .int .u64 Y] 26)) _ _ _ (by simp)
        obtain ⟨vs6, ho6', hes6⟩ := PRow.below HPR.out B7
        have ho6 := ho6'
        rw [hlt] at ho6
        have KB7 := Lib.hid (Blk.keep B7 HKB.out)
        have KR7 := Lib.hid (Blk.keep B7 HKR.out)
        have hz7 := B7.size
        have HV7 := Lib.hid (NumV.below HV.out B7)
        have HY7 := Lib.hid (BytV.below HY.out B7)
        have HO6 := Lib.hid ho6
        have HO6' := Lib.hid ho6'
        have HES := Lib.hid hes6
        have KN1 := Lib.hid kn1
        have KN7 := Lib.hid kn7
        have HB7 := Lib.hid B7
        have cb := HKB.out.cell
        clear ho6 ho6' hes6 kn1 kn7 B7
        go_wp2_with (at_builtin; refine wpList_app rfl (.tmp 238) (.tmp 243) 33 57 (.agg #[.slice none 0 0, .slice none 0 0]) 2 48 W3.heap.size rfl ud33s info57 rfl (by decide) (by decide) (.slice A6 j c6) j vs6 (some ⟨wr.heap.size + 1, 0, none⟩) 1 1 [.slice (some ⟨wr.heap.size, 0, none⟩) 2 2, .slice none 0 0] rfl rfl HO6.out (Blk.src KN7.out 1 2 rfl (by simp [Value.oneCell'])) (by omega) (by omega) ?_; intro A9 c9 w8 hp; have kb8 := hp.blk KB7.out hvg; have cg := kb8.cell; have fg := kb8.frozen; have zg := kb8.lt; clear cb)
        have hgl9 : gb < W3.heap.size := by omega
        have kr8 := hp.blk KR7.out (fun e => by have := hownr _ e; omega)
        have ho6' := HO6'.out
        have hes6 := HES.out
        have kn1 := KN1.out
        have B7 := HB7.out
        have kb7 := KB7.out
        generalize ((wr.alloc (.cells #[.int .u64 1, .int .u64 Y] 26)).alloc (.cells #[.slice (some ⟨wr.heap.size, 0, none⟩) 2 2, .slice none 0 0] 57)) = W7 at *
        have hnF : ∀ k, wr.heap.size ≤ k → (w.heap.size < k ∧ k ≠ gb) ∧ (Value.slice A6 j c6).ownBlock ≠ some k := fun k hk => ⟨⟨by omega, by omega⟩, fun e => by have := hownr _ e; omega⟩
        have hpa := PRow.app (P := ps.getD j Prt.nil) hes6 ho6' (by rw [hlt]; exact hp) (by rw [HYE.out]; exact Blk.numV (F := fun k => (w.heap.size < k ∧ k ≠ gb) ∧ (Value.slice A6 j c6).ownBlock ≠ some k) kn1 (hnF _ (Nat.le_refl _)) [1, Y] rfl) (by rw [HYE.out]; exact BytV.nil _ _)
        rw [hlt] at hpa
        have hts : ps.take j ++ [ps.getD j Prt.nil] = ps.take (j + 1) := by
          have hqe := HQE.out
          rw [List.take_add_one, List.getElem?_eq_getElem (by omega)]
          simp [List.getD_eq_getElem?_getD, List.getElem?_eq_getElem (show j < ps.length by omega)]
        rw [hts] at hpa
        have hpb := hpa.set kb8 (by decide) (fun h => h.2 rfl) 2 (.slice A9 (j + 1) c9)
        have B8 : Bl w w8 := Below.grown (HB.out.trans B7) hp.grown (HB.out.trans B7).size (fun k hk => by have := hownr _ hk; have := B3'.size; omega)
        have hne8 : (Value.slice A9 (j + 1) c9).ownBlock ≠ some gb := by
          rcases hp.at_ with e | e
          · rw [e]; exact hvg
          · rw [e]; intro e2; simp at e2; have := kb7.lt; omega
        have hkf : KeepF (fun k => (w.heap.size < k ∧ k ≠ gb) ∧ k < W3.heap.size) W7 (w8.setCell ⟨gb, 2, none⟩ (.slice A9 (j + 1) c9)) := fun k hF hlt' =>
          (Below.heap_setCell w8 ⟨gb, 2, none⟩ _ k hF.1.2).trans (hp.grown.block k hlt' (fun e => by have := hownr _ e.symm; omega))
        have hv9 := Lib.hid (HV7.out.keepF hkf)
        have hy9 := Lib.hid (HY7.out.keepF hkf)
        have hz8 : W7.heap.size ≤ w8.heap.size := hp.grown.size
        have HPB := Lib.hid hpb
        have k9 := kb8.set 2 (.slice A9 (j + 1) c9)
        simp only [List.setIfInBounds_toArray, List.set_cons_zero, List.set_cons_succ] at k9
        have kr9 := kr8.far (p := ⟨gb, 2, none⟩) hne (.slice A9 (j + 1) c9)
        have B9 : Bl w (w8.setCell ⟨gb, 2, none⟩ (.slice A9 (j + 1) c9)) := Below.setCell B8 (Nat.le_of_lt zr') _
        have hz9 : W3.heap.size ≤ (w8.setCell ⟨gb, 2, none⟩ (.slice A9 (j + 1) c9)).heap.size := by simp; omega
        exact ⟨Lib.hid ⟨j + 1, .slice A9 (j + 1) c9, by omega, by simp, B9, hz9, kr9, k9, hne8, HPB.out, hv9.out, hy9.out⟩, by simp [intOf]; omega⟩
end Go.Proofs.Ytoljdgfbkebgcaa
namespace Go.Proofs.Ytoljdgfbkebgcaa
open Go.RowKit
set_option linter.unusedVariables false
abbrev PhiSac (q : Nat) (l : List Int) : Option Addr → Nat → Nat → World → Nat → Prop := (fun A n c w gl => ∃ A00 c00 v B, Blk w gl (((sacC A n c l q).push (.slice A00 0 c00)).push v) 119 ∧ w.ownsRow B 23 1 v q ((fours l q).map (Value.int .u32)))
theorem fours_bd (l : List Int) (hl : By l) (q : Nat) (hq : 16 + 4 * q ≤ l.length) : ∀ j, j < q → 0 ≤ (fours l q).getD j 0 ∧ (fours l q).getD j 0 ≤ 4294967295 := by
  induction q with
  | zero => intro j hj; omega
  | succ q ih =>
    intro j hj
    rw [fours, List.getD_eq_getElem?_getD]
    by_cases h : j < q
    · rw [List.getElem?_append_left (by rw [fours_len]; exact h), ← List.getD_eq_getElem?_getD]
      exact ih (by omega) j h
    · obtain rfl : j = q := by omega
      rw [List.getElem?_append_right (by rw [fours_len]; omega), fours_len, Nat.sub_self]
      exact be_bd4 (sub l (16 + 4 * j) (20 + 4 * j)) (hl.sub _ _) (by rw [sub_length _ _ _ (by omega)]; omega)
set_option maxHeartbeats 1000000 in
theorem zzSac_ok (l : List Int) (hl : By l) (q : Nat) (hV16 : chL l = 16 + 4 * q) (hg0 : be (sub l 12 14) = 0) (hq : be (sub l 14 16) = (q : Int)) (hup : up4 (chL l) ≤ l.length) (h0 : l.getD 0 0 ≠ 0) (hn2 : l.length ≤ 2000) : ZzOkP ⟨#[115, 99, 116, 112, 115, 97, 99, 107]⟩ l 115 (PhiSac q l) := by
  intro A n c w h
  have hlen := h.len
  have hup' : up4 (chL l) ≤ n := by omega
  have h5 : n ≤ 2000 := by omega
  have H := Lib.hid h
  have HB := Lib.hid hl
  have H0 := Lib.hid h0
  have H1 := Lib.hid hV16
  have H2 := Lib.hid hg0
  have H3 := Lib.hid hq
  clear h hl h0 hV16 hg0 hq
  go_enter Try.func69, Try.ntmps69
  go_wp2_with fail
  (with_reducible refine (errNew_any _ _).mono ?_)
  rintro e w1 ⟨rfl, hb1⟩
  have k1 := Blk.keep hb1 (Blk.new w _ _)
  have hz : w.heap.size < w1.heap.size := k1.lt
  go_wp2_with fail
  (with_reducible refine (decSac_any q _ _ _ _ _ _ (H.out.below (Bl.trans (by go_grown) hb1)) HB.out H1.out hup' H0.out h5 H2.out H3.out _ k1).mono ?_)
  rintro e w2 ⟨rfl, gl, v0, v, kp, ⟨A00, c00, rfl⟩, ho⟩
  have HO := Lib.hid ho
  have c2 := kp.keeper.cell
  clear ho
  go_wp2_with fail
  go_ret2
  exact ⟨gl, rfl, Below.trans (Bl.trans (by go_grown) hb1) kp.low, A00, c00, v, _, kp.layer, HO.out⟩
theorem zzSac_err (l : List Int) (hl : By l) (h4 : 4 ≤ l.length) (hL : chL l < 4) : ZzErr ⟨#[115, 99, 116, 112, 115, 97, 99, 107]⟩ l := by
  intro A n c w h
  have hlen := h.len
  have h4n : 4 ≤ n := by omega
  have H := Lib.hid h
  have HB := Lib.hid hl
  clear h hl
  go_enter Try.func69, Try.ntmps69
  go_wp2_with fail
  (with_reducible refine (errNew_any _ _).mono ?_)
  rintro e w1 ⟨rfl, hb1⟩
  have hz : w.heap.size < w1.heap.size := by have := hb1.size; simp at this; omega
  go_wp2_with fail
  (with_reducible refine (decSac_short _ _ _ _ _ (H.out.below (Bl.trans (by go_grown) hb1)) HB.out h4n hL _).mono ?_)
  rintro e w2 ⟨⟨u, rfl⟩, hb2⟩
  go_wp2_with fail
  go_ret2
  exact ⟨⟨_, rfl⟩, Bl.trans (Bl.trans (by go_grown) hb1) hb2⟩
set_option maxHeartbeats 1000000 in
theorem calledSac_yes (l : List Int) (hl : By l) (q : Nat) (hV16 : chL l = 16 + 4 * q) (hg0 : be (sub l 12 14) = 0) (hq : be (sub l 14 16) = (q : Int)) (hup : up4 (chL l) ≤ l.length) (h0 : l.getD 0 0 ≠ 0) (hn2 : l.length ≤ 2000) : CallAt ⟨#[115, 99, 116, 112, 115, 97, 99, 107]⟩ l true := by
  intro A n c w h
  have hlen := h.len
  have hcap := h.cap
  have u4 : chL l ≤ up4 (chL l) := by unfold up4; omega
  have HH := Lib.hid h
  have HB := Lib.hid hl
  obtain ⟨g, o, rfl, hg, hc⟩ := h.at (by omega)
  have d0 := hc 0 (by omega)
  simp only [Nat.add_zero] at d0
  have h4 : 4 ≤ n := by omega
  have h5 : n ≤ 2000 := by omega
  have e1 : be (sub l 2 (2 + 2)) = (chL l : Int) := chL_int l hl
  have b1 : 4 ≤ be (sub l 2 (2 + 2)) := by omega
  have b6 : 16 + 4 * (q : Int) ≤ (n : Int) := by omega
  have b7 : (q : Int) ≤ 500 := by omega
  have b2 : be (sub l 2 (2 + 2)) ≤ 65535 := by have := chL_le l hl (by omega); omega
  have b3 : (be (sub l 2 (2 + 2)) + 3) / 4 * 4 ≤ (n : Int) := by rw [e1]; unfold up4 at hup; omega
  have b4 : be (sub l 2 (2 + 2)) ≤ (n : Int) := by omega
  have hV : chL l ≤ 2000 := by omega
  generalize l.getD 0 0 = x0 at *
  have H0 := Lib.hid h0
  have d0' : ∀ q, (w.drewN q).cell? ⟨g, o, none⟩ = some (.int .u8 x0) := fun q => d0
  have H2 : Hid (be (sub l 12 (12 + 2)) = 0) := Lib.hid hg0
  have H3 : Hid (be (sub l 14 (14 + 2)) = (q : Int)) := Lib.hid hq
  clear h hlen hn2 hl e1 hc hup h0 d0 u4 hV hV16 hg0 hq
  go_enter Try.func68, Try.ntmps68
  go_wp2_with fail
  (with_reducible refine (number_any _ _ _ 2 _ _ HH.out HB.out (by omega) (by omega) 2 rfl).mono ?_)
  rintro e w1 ⟨rfl, q, rfl⟩
  generalize be (sub l 2 (2 + 2)) = L at *
  go_wp2_with fail
  (with_reducible refine (iup_any _ (by omega) (by omega) _).mono ?_)
  rintro e w1 ⟨rfl, rfl⟩
  generalize (L + 3) / 4 * 4 = U at *
  have h0 := H0.out
  go_wp2_with fail
  (with_reducible refine (number_any _ _ _ 12 _ _ (HH.out.below ((Bl.refl w).drewN _)) HB.out (by omega) (by omega) 12 rfl).mono ?_)
  rintro e w2 ⟨rfl, q2, rfl⟩
  rw [H2.out]
  go_wp2_with fail
  (with_reducible refine (number_any _ _ _ 14 _ _ (HH.out.below ((Bl.refl w).drewN _)) HB.out (by omega) (by omega) 14 rfl).mono ?_)
  rintro e w2 ⟨rfl, q3, rfl⟩
  rw [H3.out]
  go_wp2_with fail
  go_ret
  exact ⟨ret_bool (by simp; try omega), (Bl.refl _).drewN _⟩
theorem readSac_no (l : List Int) (hd : ∀ (A : Option Addr) (n c : Nat) (w : World), Rd .u8 w A n c l → Calls Try.prog 48 #[.string ⟨#[115, 99, 116, 112, 115, 97, 99, 107]⟩, .slice A n c] w fun e w' => e = .returned (.tuple #[.nilIface, .bool false]) ∧ Bl w w') : NoReadAt ⟨#[115, 99, 116, 112, 115, 97, 99, 107]⟩ l := by
  intro A n c w h
  have H := Lib.hid h
  have HD := Lib.hid hd
  clear h hd
  go_enter Try.func33, Try.ntmps33
  go_wp2_with fail
  (with_reducible refine (HD.out _ _ _ _ (H.out.below (by go_grown))).mono ?_)
  rintro e w1 ⟨rfl, hb1⟩
  have kr := Blk.keep hb1 (Blk.new w _ _)
  have cr := kr.cell
  have fr := kr.frozen
  have zr := kr.lt
  have B2 := Lib.hid (Bl.trans (Below.alloc (Below.refl _ w) (Nat.le_refl _) _) hb1)
  go_wp2_with fail
  refine bodyPost_ret (v := .tuple #[.agg #[.slice none 0 0, .slice none 0 0, .slice none 0 0, .slice none 0 0], .bool false]) (by simp [results, Try.results33, go_sem, cr]) rfl
    ⟨rfl, Bl.boxed B2.out (Nat.le_refl _) _ _ _ _⟩
set_option maxHeartbeats 1000000 in
theorem readSac_ok (l : List Int) (hl : By l) (q : Nat) (hV16 : chL l = 16 + 4 * q) (hg0 : be (sub l 12 14) = 0) (hq : be (sub l 14 16) = (q : Int)) (hup : up4 (chL l) ≤ l.length) (h0 : l.getD 0 0 ≠ 0) (hn2 : l.length ≤ 2000) :
    ReadAt ⟨#[115, 99, 116, 112, 115, 97, 99, 107]⟩ l ⟨[l.getD 0 0, l.getD 1 0, be (sub l 2 4), (up4 (chL l) : Int), be (sub l 4 8), be (sub l 8 12), 0, (q : Int)], [], sacPs l q, sub l (up4 (chL l)) l.length⟩ := by
  intro A n c w h
  have H := Lib.hid h
  have HB := Lib.hid hl
  have hlen := h.len
  have hup' : up4 (chL l) ≤ n := by omega
  have u4 : chL l ≤ up4 (chL l) := by unfold up4; omega
  have hn2' : n ≤ 2000 := by omega
  have HC := Lib.hid (calledSac_yes l hl q hV16 hg0 hq hup h0 hn2)
  have HZ := Lib.hid (zzSac_ok l hl q hV16 hg0 hq hup h0 hn2)
  have hVb : chL l ≤ 65535 := by omega
  have h16 : 16 + 4 * q ≤ n := by omega
  have hyb : ∀ j, j < q → 0 ≤ (fours l q).getD j 0 ∧ (fours l q).getD j 0 ≤ 4294967295 := fours_bd l hl q (by omega)
  have HYB := Lib.hid hyb
  clear h hl h0 hV16 hg0 hq hyb
  go_enter Try.func33, Try.ntmps33
  go_wp2_with fail
  (with_reducible refine (decodedP_ok _ _ _ _ (fun A n c w w' gl h hb => by obtain ⟨A00, c00, v, B, h1, h2⟩ := h; exact ⟨A00, c00, v, B, Blk.keep hb h1, own_bl h2 hb⟩) hn2 HC.out HZ.out _ _ _ _ (H.out.below (by go_grown))).mono ?_)
  rintro e w1 ⟨A1, c1, gl, rfl, hb1, ⟨A00, c00, v, B, kl, ho⟩, r1⟩
  have R1 := Lib.hid r1
  have kr := Blk.keep hb1 (Blk.new w _ _)
  have cl : w1.cell? ⟨gl, 1, none⟩ = some (.slice (cutA A1 c1 (up4 (chL l))) (n - up4 (chL l)) (c1 - up4 (chL l))) := by rw [kl.cell]; rfl
  have HO1 := Lib.hid hb1
  have zr := kr.lt
  have OR := Lib.hid ho
  have KL := Lib.hid kl
  clear r1 ho kl
  go_wp2_with fail
  (with_reducible refine (payload_any _ _ _ _ _ cl).mono ?_)
  rintro e w2 ⟨rfl, rfl⟩
  go_wp2_with fail
  have rq := (R1.out.cut (up4 (chL l)) n (by omega) (by omega))
  (with_reducible refine (toldSac_any q _ _ _ _ _ _ _ _ _ _ HB.out h16 hVb hup' hn2' R1.out _ _ _ _ KL.out OR.out HYB.out rq (HB.out.sub _ _) (by omega)).mono ?_)
  rintro e w2 ⟨v, rfl, hL, hb2⟩
  obtain ⟨A4, c4, A5, c5, A6, c6, A7, c7, rfl⟩ := hL.form
  have HL := Lib.hid hL
  clear hL
  have kr2 := Blk.keep hb2 kr
  have cr := kr2.cell
  have fr := kr2.frozen
  have zr2 := kr2.lt
  have B2 := Lib.hid ((Bl.trans (Below.alloc (Below.refl _ w) (Nat.le_refl _) _) HO1.out).trans hb2)
  have hz : w.heap.size ≤ w1.heap.size := Nat.le_of_lt zr
  subst hlen
  go_wp2_with fail
  refine bodyPost_ret (v := .tuple #[.agg #[.slice A4 8 c4, .slice A5 0 c5, .slice A6 (sacPs l q).length c6, .slice A7 (sub l (up4 (chL l)) l.length).length c7], .bool true]) (by simp [results, Try.results33, go_sem, cr]) rfl
    ⟨_, rfl, LyrV.mono (LyrV.boxed HL.out (by show ¬ (w1.heap.size ≤ w.heap.size); omega) _ _ _ _) (fun k hk => Nat.le_trans hz hk), Bl.boxed B2.out (Nat.le_refl _) _ _ _ _⟩
end Go.Proofs.Ytoljdgfbkebgcaa
