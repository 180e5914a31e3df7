/- impl.told: sctpsack. -/
import Derived.Test.YtoljdgfbkebgcaaRdSctp
import Derived.Test.YtoljdgfbkebgcaaChk
import Derived.Test.YtoljdgfbkebgcaaChunkv
import Derived.Test.YtoljdgfbkebgcaaPrs
import Derived.Test.YtoljdgfbkebgcaaDecSac
import Derived.Test.YtoljdgfbkebgcaaHeld
import Derived.Test.YtoljdgfbkebgcaaPar
import Derived.Test.YtoljdgfbkebgcaaFlo2
import Derived.Test.YtoljdgfbkebgcaaPrc
import Derived.LoopTactic
namespace Go.Proofs.Ytoljdgfbkebgcaa
open Go.RowKit
def TldSac (gb : Nat) (A6 : Option Addr) (j c6 : Nat) (V : World) : Prop := V.cell? ⟨gb, 2, none⟩ = some (.slice A6 j c6)
/-- What is told of the numbers. -/
def sacPs (l : List Int) (q : Nat) : List Prt := (fours l q).map fun y => ⟨[1, y], []⟩
theorem sacPs_len (l : List Int) (q : Nat) : (sacPs l q).length = q := by simp [sacPs, fours_len]
theorem ud31s : Try.prog.underlying 31 = some (.slice 26) := by kernel_rfl
theorem ud33s : Try.prog.underlying 33 = some (.slice 57) := by kernel_rfl
set_option maxHeartbeats 4000000 in
set_option maxRecDepth 100000 in
theorem toldSac_any (q : Nat) (A1 A : Option Addr) (n c1 m c gl : Nat) (l p : List Int) (w : World) (hl : By l) (h16 : 16 + 4 * q ≤ n) (hV : chL l ≤ 65535) (hup : up4 (chL l) ≤ n) (hn2 : n ≤ 2000) (r : Rd .u8 w A1 n c1 l) (A00 : Option Addr) (c00 : Nat) (v : Value) (B : Nat) (k : Blk w gl (((sacC A1 n c1 l q).push (.slice A00 0 c00)).push v) 119) (ho0 : w.ownsRow B 23 1 v q ((fours l q).map (Value.int .u32))) (hyb : ∀ j, j < q → 0 ≤ (fours l q).getD j 0 ∧ (fours l q).getD j 0 ≤ 4294967295) (h : Rd .u8 w A m c p) (hp : By p) (hm : m ≤ 2000) :
    Calls Try.prog 49 #[.iface 115 (.pointer (some ⟨gl, 0, none⟩)), .slice A m c] w fun e w' =>
      Got w w' e ⟨[l.getD 0 0, l.getD 1 0, be (sub l 2 4), (up4 (chL l) : Int), be (sub l 4 8), be (sub l 8 12), 0, (q : Int)], [], sacPs l q, p⟩ := by
  have u4 : chL l ≤ up4 (chL l) := by unfold up4; omega
  have H := Lib.hid h
  have HP := Lib.hid hp
  have hlen := r.len
  have b0 := hl.getD 0
  have b1 := hl.getD 1
  have b2 := be_bd2 (sub l 2 4) (hl.sub _ _) (by rw [sub_length _ _ _ (by omega)])
  have b3 : (0 : Int) ≤ (up4 (chL l) : Int) ∧ (up4 (chL l) : Int) ≤ 2147483647 := by omega
  have y0 := be_bd4 (sub l 4 8) (hl.sub _ _) (by rw [sub_length _ _ _ (by omega)])
  have y1 := be_bd4 (sub l 8 12) (hl.sub _ _) (by rw [sub_length _ _ _ (by omega)])
  have hq : q ≤ 500 := by omega
  obtain ⟨A0, c0, rfl, hr0⟩ := own_rd ho0
  have HR0 := Lib.hid hr0
  have HYB := Lib.hid hyb
  obtain ⟨ps, hps⟩ : ∃ ps, ps = sacPs l q := ⟨_, rfl⟩
  have hqe : q = ps.length := by rw [hps, sacPs_len]
  have hpe : ∀ j, j < q → ps.getD j Prt.nil = ⟨[1, (fours l q).getD j 0], []⟩ := fun j hj => by
    rw [hps]
    unfold sacPs
    simp [List.getD_eq_getElem?_getD, List.getElem?_eq_getElem (show j < (fours l q).length by rw [fours_len]; exact hj)]
  rw [← hps]
  have HPE := Lib.hid hpe
  have HQE := Lib.hid hqe
  clear hqe
  have hk : Blk w gl (#[.slice A1 (up4 (chL l)) c1, .slice (cutA A1 c1 (up4 (chL l))) (n - up4 (chL l)) (c1 - up4 (chL l)), .int .u8 (l.getD 0 0), .int .u8 (l.getD 1 0), .int .u16 (be (sub l 2 4)), .int .i64 (up4 (chL l)), .int .u32 (be (sub l 4 8)), .int .u32 (be (sub l 8 12)), .int .u16 0, .int .u16 (q : Nat), .slice A00 0 c00, .slice A0 q c0]) 119 := k
  have hgl := hk.lt
  generalize l.getD 0 0 = x0 at *
  generalize l.getD 1 0 = x1 at *
  generalize be (sub l 2 4) = L at *
  generalize be (sub l 4 8) = Y0 at *
  generalize be (sub l 8 12) = Y1 at *
  generalize up4 (chL l) = U at *
  generalize chL l = V at *
  generalize hfo : fours l q = fo at *
  clear h hp hl r k ho0 hyb hpe hr0 hps hfo hV
  have t0 := ta_115_90
  have t1 := ta_115_97
  have t2 := ta_115_105
  have t3 := ta_115
  go_enter Try.func49, Try.ntmps49
  go_wp2_with fail
  (with_reducible refine (clone_any _ _ _ _ _ (H.out.below (by go_grown)) (by omega)).mono ?_)
  rintro e w1 ⟨⟨A2, c2, rfl, ho⟩, hb1⟩
  have kr := Blk.keep hb1 (Blk.new w _ _)
  have kl := Blk.keep hb1 (hk.alloc _)
  have cl := kl.cell
  have zl := kl.lt
  have cr := kr.cell
  have fr := kr.frozen
  have zr := kr.lt
  have B0 : Bl w w1 := Bl.trans (by go_grown) hb1
  have v3 := Lib.hid (own_bytV (F := fun k => w.heap.size < k ∧ k ≠ w1.heap.size) ho HP.out (fun k h1 h2 => by simp at h1; exact ⟨by omega, by omega⟩))
  clear ho
  go_wp2_with fail
  have kb := Blk.new w1 #[.slice none 0 0, .slice none 0 0, .slice none 0 0, .slice A2 m c2] 35
  have kl1 := kl.alloc (.cells #[.slice none 0 0, .slice none 0 0, .slice none 0 0, .slice A2 m c2] 35)
  have kr1 := kr.alloc (.cells #[.slice none 0 0, .slice none 0 0, .slice none 0 0, .slice A2 m c2] 35)
  have B1 : Bl w (w1.alloc (.cells #[.slice none 0 0, .slice none 0 0, .slice none 0 0, .slice A2 m c2] 35)) := B0.trans (by go_grown)
  have v31 := Lib.hid (BytV.below v3.out (w' := w1.alloc (.cells #[.slice none 0 0, .slice none 0 0, .slice none 0 0, .slice A2 m c2] 35)) (by go_grown))
  clear v3 cl zl cr fr kl kr hb1 hk B0
  have zr' : w.heap.size < w1.heap.size := zr
  generalize w1.alloc (.cells #[.slice none 0 0, .slice none 0 0, .slice none 0 0, .slice A2 m c2] 35) = W at *
  generalize w1.heap.size = gb at *
  clear zr
  have zW : gb < W.heap.size := kb.lt
  have hne : w.heap.size ≠ gb := Nat.ne_of_lt zr'
  have k0 : ∀ d os, (Sort.grow (redrawn W d) os).cell? ⟨gl, 0, none⟩ = some (.slice A1 U c1) := fun d os => cell_regrown (kl1.cell 0) d os
  have k1 : ∀ d os, (Sort.grow (redrawn W d) os).cell? ⟨gl, 1, none⟩ = some (.slice (cutA A1 c1 U) (n - U) (c1 - U)) := fun d os => cell_regrown (kl1.cell 1) d os
  have k2 : ∀ d os, (Sort.grow (redrawn W d) os).cell? ⟨gl, 2, none⟩ = some (.int .u8 x0) := fun d os => cell_regrown (kl1.cell 2) d os
  have k3 : ∀ d os, (Sort.grow (redrawn W d) os).cell? ⟨gl, 3, none⟩ = some (.int .u8 x1) := fun d os => cell_regrown (kl1.cell 3) d os
  have k4 : ∀ d os, (Sort.grow (redrawn W d) os).cell? ⟨gl, 4, none⟩ = some (.int .u16 L) := fun d os => cell_regrown (kl1.cell 4) d os
  have k5 : ∀ d os, (Sort.grow (redrawn W d) os).cell? ⟨gl, 5, none⟩ = some (.int .i64 (U : Nat)) := fun d os => cell_regrown (kl1.cell 5) d os
  have k6 : ∀ d os, (Sort.grow (redrawn W d) os).cell? ⟨gl, 6, none⟩ = some (.int .u32 Y0) := fun d os => cell_regrown (kl1.cell 6) d os
  have k7 : ∀ d os, (Sort.grow (redrawn W d) os).cell? ⟨gl, 7, none⟩ = some (.int .u32 Y1) := fun d os => cell_regrown (kl1.cell 7) d os
  have k8 : ∀ d os, (Sort.grow (redrawn W d) os).cell? ⟨gl, 8, none⟩ = some (.int .u16 0) := fun d os => cell_regrown (kl1.cell 8) d os
  have k9 : ∀ d os, (Sort.grow (redrawn W d) os).cell? ⟨gl, 9, none⟩ = some (.int .u16 (q : Nat)) := fun d os => cell_regrown (kl1.cell 9) d os
  refine wp_region_float2 (S := Grw W) [true, true, true, true, true, false, true, true, true, true, true, true, true, true, true, true, true, true, true, true, true, true, true, true, true, true, false, false, false, false, false] [true, true, true, true, true, true, true, true, true, true, true, true, true, true, true, true, true, true, true, true, true, true, true, true, true, true, true, false, false, false, false] 5 26 28 (by kernel_rfl) (by kernel_rfl) (Grw.drew W) ?_
  simp only [selQ, selN, earlyN, pickL, List.cons_append, List.nil_append]
  repeat (first | go_big_quiet_skip | (go_big_quiet_want; go_big_quiet_op; go_big_quiet_on))
  have Bd : Bl W W.drew := (Bl.refl W).drew
  refine wpQuiet_nil ⟨?arm1, ?arm2⟩
  case' arm1 =>
    refine wpN_want rfl (fun K hK => ?_)
    go_big_op
    (with_reducible refine (chunkv_g _ _ _ _ _ _ _ _ _ _ _ b0 b1 b2 b3).mono ?_)
    rintro e w2 ⟨gn, rfl, hb2, ho'⟩
    have ho : w2.ownsRow W.heap.size 26 1 (.slice (some ⟨gn, 0, none⟩) 4 4) 4 ([x0, x1, L, (U : Int)].map (Value.int .u64)) := ho'
    have OW := Lib.hid (ho.alloc (.cells #[.int .u64 Y0, .int .u64 Y1, .int .u64 0, .int .u64 (q : Int)] 26))
    clear ho ho'
    have B2 := Bd.trans hb2
    refine hK _ _ (Grw.of B2) ?_
    clear hK K
    refine wpN_want rfl (fun K hK => ?_)
    go_big_op
    have B3 : Bl W (w2.alloc (.cells #[.int .u64 Y0, .int .u64 Y1, .int .u64 0, .int .u64 (q : Int)] 26)) := B2.trans (by go_grown)
    refine hK _ _ (Grw.of B3) ?_
    clear hK K
    refine wpN_if rfl (fun K hK => ?_)
    refine step_app rfl _ _ 31 26 (.int .u64 0) 1 8 W.heap.size rfl ud31s info26 rfl (by decide) (by decide) (.slice (some ⟨gn, 0, none⟩) 4 4) 4 _ _ 4 _ _ rfl rfl OW.out (Blk.src (Blk.new w2 #[.int .u64 Y0, .int .u64 Y1, .int .u64 0, .int .u64 (q : Int)] 26) 4 1 rfl (fun u hu => by simp at hu; rcases hu with rfl | rfl | rfl | rfl <;> rfl)) (by omega) B3.size ?_
    intro A5 c5 w3 hp
    have BW : Bl W w3 := hp.bl OW.out B3
    have ho5 := Lib.hid hp.own
    clear hp
    refine hK _ _ (Grw.of BW) ?_
    clear hK K
  case' arm2 =>
    refine wpN_want rfl (fun K hK => ?_)
    go_big_op
    have B1' : Bl W ((W.alloc (.cells #[.int .u64 Y0, .int .u64 Y1, .int .u64 0, .int .u64 (q : Int)] 26)).drew) := ((Bl.refl W).trans (by go_grown)).drew
    have kn1 : Blk ((W.alloc (.cells #[.int .u64 Y0, .int .u64 Y1, .int .u64 0, .int .u64 (q : Int)] 26)).drew) W.heap.size #[.int .u64 Y0, .int .u64 Y1, .int .u64 0, .int .u64 (q : Int)] 26 := (Blk.new W _ _).same rfl
    have hs1 : W.heap.size ≤ ((W.alloc (.cells #[.int .u64 Y0, .int .u64 Y1, .int .u64 0, .int .u64 (q : Int)] 26)).drew).heap.size := B1'.size
    refine hK _ _ (Grw.of B1') ?_
    clear hK K
    refine wpN_want rfl (fun K hK => ?_)
    go_big_op
    (with_reducible refine (chunkv_g _ _ _ _ _ _ _ _ _ _ _ b0 b1 b2 b3).mono ?_)
    rintro e w2 ⟨gn, rfl, hb2, ho'⟩
    have ho : w2.ownsRow W.heap.size 26 1 (.slice (some ⟨gn, 0, none⟩) 4 4) 4 ([x0, x1, L, (U : Int)].map (Value.int .u64)) := own_mono ho' hs1
    have OW := Lib.hid ho
    have kn2 := Blk.keep hb2 kn1
    clear ho ho'
    have B3 := B1'.trans hb2
    refine hK _ _ (Grw.of B3) ?_
    clear hK K
    refine wpN_if rfl (fun K hK => ?_)
    refine step_app rfl _ _ 31 26 (.int .u64 0) 1 8 W.heap.size rfl ud31s info26 rfl (by decide) (by decide) (.slice (some ⟨gn, 0, none⟩) 4 4) 4 _ _ 4 _ _ rfl rfl OW.out (Blk.src kn2 4 1 rfl (fun u hu => by simp at hu; rcases hu with rfl | rfl | rfl | rfl <;> rfl)) (by omega) B3.size ?_
    intro A5 c5 w3 hp
    have BW : Bl W w3 := hp.bl OW.out B3
    have ho5 := Lib.hid hp.own
    clear hp
    refine hK _ _ (Grw.of BW) ?_
    clear hK K
  all_goals
    have kb3 := Blk.keep BW kb
    have kr3 := Blk.keep BW kr1
    have v33 := Lib.hid (BytV.below v31.out BW)
    have B4 := B1.trans BW
    have cb := kb3.cell
    have fb := kb3.frozen
    have zb := kb3.lt
    have cr := kr3.cell
    have fr := kr3.frozen
    have zr := kr3.lt
    have kl3 := Blk.keep BW kl1
    have cl := kl3.cell
    have zl := kl3.lt
    clear k0 k1 k2 k3 k4 k5 k6 k7 k8 k9
    refine wpN_late ?_
    go_wp2_with fail
    refine NoPanic.normal ?_
    have hv0 := Lib.hid (own_numV (F := fun k => w.heap.size < k ∧ k ≠ gb) (l := [x0, x1, L, (U : Int), Y0, Y1, 0, (q : Int)]) ho5.out (fun k h1 _ => ⟨by have : W.heap.size ≤ k := h1; omega, by have : W.heap.size ≤ k := h1; omega⟩))
    go_wp2_with fail
    have hgn : W.heap.size ≤ w3.heap.size := BW.size
    have B3' : Bl w (w3.setCell ⟨gb, 0, none⟩ (.slice A5 8 c5)) := Below.setCell B4 (Nat.le_of_lt zr') _
    have kb4 := kb3.set 0 (.slice A5 8 c5)
    simp only [List.setIfInBounds_toArray, List.set_cons_zero] at kb4
    have kr4 := kr3.far (p := ⟨gb, 0, none⟩) hne (.slice A5 8 c5)
    have v34 := Lib.hid (BytV.keepF v33.out ((KeepF.refl _ w3).setCell (p := ⟨gb, 0, none⟩) (fun h => h.2 rfl) (.slice A5 8 c5)))
    have hv3 := Lib.hid (NumV.keepF hv0.out ((KeepF.refl _ w3).setCell (p := ⟨gb, 0, none⟩) (fun h => h.2 rfl) (.slice A5 8 c5)))
    have kl5 := kl3.far (p := ⟨gb, 0, none⟩) (show gl ≠ gb by omega) (.slice A5 8 c5)
    have hsz3 : w3.heap.size = (w3.setCell ⟨gb, 0, none⟩ (.slice A5 8 c5)).heap.size := by simp
    clear cb fb zb cr fr zr cl zl kl3 hv0 v31 v33 kb kb3 kr1 kr3 kl1 B3 BW B4 ho5 OW
    generalize w3.setCell ⟨gb, 0, none⟩ (.slice A5 8 c5) = W3 at *
    have cl := kl5.cell
    go_loopw [207] (fun i wr => i = .int .i64 0 ∧ W3 = wr) (fun _ _ => 0)
    case atStart => exact ⟨rfl, rfl⟩
    case round =>
    obtain ⟨rfl, hw3⟩ := hrel
    subst hw3
    go_wp2_with fail
    clear cl kl5
    go_loopw [230] (fun i wr => Hid (∃ (j : Nat) (v : Value), j ≤ q ∧ i = .int .i64 j ∧ Bl w wr ∧ W3.heap.size ≤ wr.heap.size ∧ Blk wr w.heap.size #[.slice none 0 0, .slice none 0 0, .slice none 0 0, .slice none 0 0] 35 ∧ Blk wr gb #[.slice A5 8 c5, .slice none 0 0, v, .slice A2 m c2] 35 ∧ v.ownBlock ≠ some gb ∧ PRow (fun k => w.heap.size < k ∧ k ≠ gb) W3.heap.size wr v (ps.take j) ∧ NumV (fun k => (w.heap.size < k ∧ k ≠ gb) ∧ k < W3.heap.size) wr (.slice A5 8 c5) [x0, x1, L, (U : Int), Y0, Y1, 0, (q : Int)] ∧ BytV (fun k => (w.heap.size < k ∧ k ≠ gb) ∧ k < W3.heap.size) wr (.slice A2 m c2) p)) (fun i _ => q - (intOf i).toNat)
    case atStart => exact Lib.hid ⟨0, .slice none 0 0, by omega, rfl, B3', Nat.le_refl _, kr4, kb4, by simp [Value.ownBlock], by simpa using PRow.nil _ _ _, NumV.strong hv3.out, BytV.strong v34.out⟩
    case round =>
      clear kr4 kb4
      obtain ⟨j, v, hj, rfl, hb, hsz, kr4, kb4, hvg, hpr, hv, hy⟩ := hrel.out
      clear hrel
      obtain ⟨A6, c6, rfl⟩ := hpr.form
      have hlt : (ps.take j).length = j := by rw [List.length_take]; have := HQE.out; omega
      rw [hlt] at kb4 hvg hpr
      have HPR := Lib.hid hpr
      have HV := Lib.hid hv
      have HY := Lib.hid hy
      have HKB := Lib.hid kb4
      have HKR := Lib.hid kr4
      have HB := Lib.hid hb
      by_cases hjq : j = q
      · have cr := kr4.cell
        have fr := kr4.frozen
        have zr := kr4.lt
        have cb := kb4.cell
        clear hpr hv hy kb4 kr4 hb
        go_wp2_with fail
        have k5 := (((HKR.out.set 0 (.slice A5 8 c5)).set 1 (.slice none 0 0)).set 2 (.slice A6 q c6)).set 3 (.slice A2 m c2)
        have cz := k5.cell
        have hpt : ps.take q = ps := by rw [HQE.out]; exact List.take_length
        have HPP := HPR.out
        rw [hjq, hpt] at HPP
        have hL : LyrV (fun k => w.heap.size < k ∧ k ≠ gb) wr (.agg #[.slice A5 8 c5, .slice none 0 0, .slice A6 q c6, .slice A2 m c2]) ⟨[x0, x1, L, (U : Int), Y0, Y1, 0, (q : Int)], [], ps, p⟩ :=
          ⟨_, _, _, _, rfl, HV.out.mono fun _ h => h.1, DataV.nil _ _, HPP.parts (fun k h1 _ => ⟨by omega, by omega⟩), HY.out.mono fun _ h => h.1⟩
        have hL2 := LyrV.boxed (g := w.heap.size) hL (fun h => Nat.lt_irrefl _ h.1) (.slice A5 8 c5) (.slice none 0 0) (.slice A6 q c6) (.slice A2 m c2)
        have BF := Bl.boxed HB.out (Nat.le_refl _) (.slice A5 8 c5) (.slice none 0 0) (.slice A6 q c6) (.slice A2 m c2)
        clear hL k5
        generalize ((((wr.setCell ⟨w.heap.size, 0, none⟩ (.slice A5 8 c5)).setCell ⟨w.heap.size, 1, none⟩ (.slice none 0 0)).setCell ⟨w.heap.size, 2, none⟩ (.slice A6 q c6)).setCell ⟨w.heap.size, 3, none⟩ (.slice A2 m c2)) = WF at *
        refine bodyPost_ret (v := .tuple #[.agg #[.slice A5 8 c5, .slice none 0 0, .slice A6 q c6, .slice A2 m c2], .bool true]) (by simp [results, Try.results49, go_sem, cz]) rfl ⟨_, rfl, LyrV.mono hL2 (fun k h => Nat.le_of_lt h.1), BF⟩
      · have hjq' : (j : Int) < (q : Int) := by omega
        obtain ⟨g0, o0, hA0, hg0, hc0⟩ := HR0.out.at (by omega)
        have d0 : wr.cell? ⟨g0, o0 + j, none⟩ = some (.int .u32 (fo.getD j 0)) := (hb.cell (p := ⟨g0, o0 + j, none⟩) hg0).trans (hc0 j (by omega))
        have yb := HYB.out j (by omega)
        have HYE := Lib.hid (HPE.out j (by omega))
        generalize fo.getD j 0 = Y at *
        subst hA0
        have hownr : ∀ k, (Value.slice A6 j c6).ownBlock = some k → W3.heap.size ≤ k ∧ k < wr.heap.size := fun k hk => by
          obtain ⟨_, ho, _⟩ := HPR.out
          exact ho.lt k hk
        have hgr : gb < wr.heap.size := HKB.out.lt
        clear hc0 hpr hv hy kb4 kr4 hb
        have B7 : Bl wr ((wr.alloc (.cells #[.int .u64 1, .int .u64 Y] 26)).alloc (.cells #[.slice (some ⟨wr.heap.size, 0, none⟩) 2 2, .slice none 0 0] 57)) := by go_grown
        have kn1 : Blk ((wr.alloc (.cells #[.int .u64 1, .int .u64 Y] 26)).alloc (.cells #[.slice (some ⟨wr.heap.size, 0, none⟩) 2 2, .slice none 0 0] 57)) wr.heap.size #[.int .u64 1, .int .u64 Y] 26 := (Blk.new wr _ _).alloc _
        have kn7 : Blk ((wr.alloc (.cells #[.int .u64 1, .int .u64 Y] 26)).alloc (.cells #[.slice (some ⟨wr.heap.size, 0, none⟩) 2 2, .slice none 0 0] 57)) (wr.heap.size + 1) #[.slice (some ⟨wr.heap.size, 0, none⟩) 2 2, .slice none 0 0] 57 := Blk.newAt (wr.alloc (.cells #[.int .u64 1, .int .u64 Y] 26)) _ _ _ (by simp)
        obtain ⟨vs6, ho6', hes6⟩ := PRow.below HPR.out B7
        have ho6 := ho6'
        rw [hlt] at ho6
        have KB7 := Lib.hid (Blk.keep B7 HKB.out)
        have KR7 := Lib.hid (Blk.keep B7 HKR.out)
        have hz7 := B7.size
        have HV7 := Lib.hid (NumV.below HV.out B7)
        have HY7 := Lib.hid (BytV.below HY.out B7)
        have HO6 := Lib.hid ho6
        have HO6' := Lib.hid ho6'
        have HES := Lib.hid hes6
        have KN1 := Lib.hid kn1
        have KN7 := Lib.hid kn7
        have HB7 := Lib.hid B7
        have cb := HKB.out.cell
        clear ho6 ho6' hes6 kn1 kn7 B7
        go_wp2_with (at_builtin; refine wpList_app rfl (.tmp 238) (.tmp 243) 33 57 (.agg #[.slice none 0 0, .slice none 0 0]) 2 48 W3.heap.size rfl ud33s info57 rfl (by decide) (by decide) (.slice A6 j c6) j vs6 (some ⟨wr.heap.size + 1, 0, none⟩) 1 1 [.slice (some ⟨wr.heap.size, 0, none⟩) 2 2, .slice none 0 0] rfl rfl HO6.out (Blk.src KN7.out 1 2 rfl (by simp [Value.oneCell'])) (by omega) (by omega) ?_; intro A9 c9 w8 hp; have kb8 := hp.blk KB7.out hvg; have cg := kb8.cell; have fg := kb8.frozen; have zg := kb8.lt; clear cb)
        have hgl9 : gb < W3.heap.size := by omega
        have kr8 := hp.blk KR7.out (fun e => by have := hownr _ e; omega)
        have ho6' := HO6'.out
        have hes6 := HES.out
        have kn1 := KN1.out
        have B7 := HB7.out
        have kb7 := KB7.out
        generalize ((wr.alloc (.cells #[.int .u64 1, .int .u64 Y] 26)).alloc (.cells #[.slice (some ⟨wr.heap.size, 0, none⟩) 2 2, .slice none 0 0] 57)) = W7 at *
        have hnF : ∀ k, wr.heap.size ≤ k → (w.heap.size < k ∧ k ≠ gb) ∧ (Value.slice A6 j c6).ownBlock ≠ some k := fun k hk => ⟨⟨by omega, by omega⟩, fun e => by have := hownr _ e; omega⟩
        have hpa := PRow.app (P := ps.getD j Prt.nil) hes6 ho6' (by rw [hlt]; exact hp) (by rw [HYE.out]; exact Blk.numV (F := fun k => (w.heap.size < k ∧ k ≠ gb) ∧ (Value.slice A6 j c6).ownBlock ≠ some k) kn1 (hnF _ (Nat.le_refl _)) [1, Y] rfl) (by rw [HYE.out]; exact BytV.nil _ _)
        rw [hlt] at hpa
        have hts : ps.take j ++ [ps.getD j Prt.nil] = ps.take (j + 1) := by
          have hqe := HQE.out
          rw [List.take_add_one, List.getElem?_eq_getElem (by omega)]
          simp [List.getD_eq_getElem?_getD, List.getElem?_eq_getElem (show j < ps.length by omega)]
        rw [hts] at hpa
        have hpb := hpa.set kb8 (by decide) (fun h => h.2 rfl) 2 (.slice A9 (j + 1) c9)
        have B8 : Bl w w8 := Below.grown (HB.out.trans B7) hp.grown (HB.out.trans B7).size (fun k hk => by have := hownr _ hk; have := B3'.size; omega)
        have hne8 : (Value.slice A9 (j + 1) c9).ownBlock ≠ some gb := by
          rcases hp.at_ with e | e
          · rw [e]; exact hvg
          · rw [e]; intro e2; simp at e2; have := kb7.lt; omega
        have hkf : KeepF (fun k => (w.heap.size < k ∧ k ≠ gb) ∧ k < W3.heap.size) W7 (w8.setCell ⟨gb, 2, none⟩ (.slice A9 (j + 1) c9)) := fun k hF hlt' =>
          (Below.heap_setCell w8 ⟨gb, 2, none⟩ _ k hF.1.2).trans (hp.grown.block k hlt' (fun e => by have := hownr _ e.symm; omega))
        have hv9 := Lib.hid (HV7.out.keepF hkf)
        have hy9 := Lib.hid (HY7.out.keepF hkf)
        have hz8 : W7.heap.size ≤ w8.heap.size := hp.grown.size
        have HPB := Lib.hid hpb
        have k9 := kb8.set 2 (.slice A9 (j + 1) c9)
        simp only [List.setIfInBounds_toArray, List.set_cons_zero, List.set_cons_succ] at k9
        have kr9 := kr8.far (p := ⟨gb, 2, none⟩) hne (.slice A9 (j + 1) c9)
        have B9 : Bl w (w8.setCell ⟨gb, 2, none⟩ (.slice A9 (j + 1) c9)) := Below.setCell B8 (Nat.le_of_lt zr') _
        have hz9 : W3.heap.size ≤ (w8.setCell ⟨gb, 2, none⟩ (.slice A9 (j + 1) c9)).heap.size := by simp; omega
        exact ⟨Lib.hid ⟨j + 1, .slice A9 (j + 1) c9, by omega, by simp, B9, hz9, kr9, k9, hne8, HPB.out, hv9.out, hy9.out⟩, by simp [intOf]; omega⟩
end Go.Proofs.Ytoljdgfbkebgcaa
