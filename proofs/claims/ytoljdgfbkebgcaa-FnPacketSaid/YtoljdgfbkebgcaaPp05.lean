/- sctpinit: its decoder. (Printed out of DecHea's text.) sctpinit, sctpsack: fewer than four bytes told. -/
import Derived.Test.YtoljdgfbkebgcaaPq05
import Derived.Test.YtoljdgfbkebgcaaPq03
import Derived.Test.YtoljdgfbkebgcaaPq01
namespace Go.Proofs.Ytoljdgfbkebgcaa
open Go.RowKit
set_option linter.unusedVariables false
/-- The cells of a chunk that begins, but the last. -/
def iniC (A : Option Addr) (n c : Nat) (l : List Int) : Array Value :=
  #[.slice A (up4 (chL l)) c, .slice (cutA A c (up4 (chL l))) (n - up4 (chL l)) (c - up4 (chL l)), .int .u8 (l.getD 0 0), .int .u8 (l.getD 1 0), .int .u16 (be (sub l 2 4)), .int .i64 (up4 (chL l)), .int .u32 (be (sub l 4 8)), .int .u32 (be (sub l 8 12)), .int .u16 (be (sub l 12 14)), .int .u16 (be (sub l 14 16)), .int .u32 (be (sub l 16 20))]
def PrmI (gl g9 : Nat) (A4 A3 : Option Addr) (q c4 U2 V2 c' : Nat) (P0 P1 : Int) (V : World) : Prop := V.cell? ⟨gl, 11, none⟩ = some (.slice A4 q c4) ∧ V.cell? ⟨g9, 0, none⟩ = some (.int .u16 P0) ∧ V.cell? ⟨g9, 1, none⟩ = some (.int .u16 P1) ∧ V.cell? ⟨g9, 2, none⟩ = some (.int .i64 (U2 : Nat)) ∧ V.cell? ⟨g9, 3, none⟩ = some (.slice A3 (V2 - 4) (c' - 4))
theorem ud106 : Try.prog.underlying 106 = some (.slice 114) := by kernel_rfl
theorem info114 : (Try.prog.info? 114).map (fun i => (i.zero, i.size, i.bytes)) = some (some (.agg #[.int .u16 0, .int .u16 0, .int .i64 0, .slice none 0 0]), 4, 40) := by kernel_rfl
set_option maxHeartbeats 4000000 in
set_option maxRecDepth 100000 in
theorem decIni_any (A : Option Addr) (n c gk : Nat) (l : List Int) (w : World) (h : Rd .u8 w A n c l) (hl : By l) (h4 : 4 ≤ chL l) (h20 : 20 ≤ chL l) (hm : chL l % 4 = 0) (hn : up4 (chL l) ≤ n) (h0 : l.getD 0 0 ≠ 0) (hn2 : n ≤ 2000) (hf : fullOf (sub l 20 (chL l)) = true) (x : Value) (k : Blk w gk #[x] 164) :
    Calls Try.prog 79 #[.slice A n c, .iface 162 (.pointer (some ⟨gk, 0, none⟩))] w fun e w' => e = .returned .nilIface ∧ ∃ gl v q, Kept w w' gk 105 108 gl ((iniC A n c l).push v) ∧ w'.ownsRow w.heap.size 114 4 v q (prmCells (cutA A c 20) (c - 20) (sub l 20 (chL l))) := by
  have hk := k.lt
  have hcap := h.cap
  have hVn : chL l ≤ n := by unfold up4 at hn; omega
  have hUV : up4 (chL l) = chL l := by unfold up4; omega
  have s1 := run_cut A n c 20 (chL l) 20 (up4 (chL l) : Nat) rfl (by rw [hUV]) h20 (by omega) 24 Try.underlying24 size5
  have p0 := run_cut A n c 4 8 4 8 rfl rfl (by omega) (by omega) 24 Try.underlying24 size5
  have R0 := Lib.hid (h.cutm 4 8 4 (by omega) (by omega))
  have p1 := run_cut A n c 8 12 8 12 rfl rfl (by omega) (by omega) 24 Try.underlying24 size5
  have R1 := Lib.hid (h.cutm 8 12 4 (by omega) (by omega))
  have p2 := run_cut A n c 12 14 12 14 rfl rfl (by omega) (by omega) 24 Try.underlying24 size5
  have R2 := Lib.hid (h.cutm 12 14 2 (by omega) (by omega))
  have p3 := run_cut A n c 14 16 14 16 rfl rfl (by omega) (by omega) 24 Try.underlying24 size5
  have R3 := Lib.hid (h.cutm 14 16 2 (by omega) (by omega))
  have p4 := run_cut A n c 16 20 16 20 rfl rfl (by omega) (by omega) 24 Try.underlying24 size5
  have R4 := Lib.hid (h.cutm 16 20 4 (by omega) (by omega))
  have H := Lib.hid h
  have HB := Lib.hid hl
  have H0 := Lib.hid h0
  have HR := Lib.hid (h.cut 20 (chL l) h20 hVn)
  have HF := Lib.hid hf
  have HUV := Lib.hid hUV
  clear h hl h0 hf hUV hm
  go_enter Try.func79, Try.ntmps79
  go_wp2_with fail
  (with_reducible refine (chunk_any _ _ _ _ _ H.out HB.out h4 hn H0.out (by omega)).mono ?_)
  rintro e w1 ⟨rfl, hb1⟩
  have k1 := Blk.keep hb1 k
  have z1 := k1.lt
  unfold chk
  generalize G0 : l.getD 0 0 = x0 at *
  generalize G1 : l.getD 1 0 = x1 at *
  generalize G2 : be (sub l 2 4) = L at *
  generalize G3 : up4 (chL l) = U at *
  generalize G4 : chL l = V at *
  generalize H0 : be (sub l 4 8) = Y0 at *
  generalize H1 : be (sub l 8 12) = Y1 at *
  generalize H2 : be (sub l 12 14) = Y2 at *
  generalize H3 : be (sub l 14 16) = Y3 at *
  generalize H4 : be (sub l 16 20) = Y4 at *
  have kc := Blk.new w1 #[.slice A U c, .slice (cutA A c U) (n - U) (c - U), .int .u8 x0, .int .u8 x1, .int .u16 L, .int .i64 U] 100
  have B1 : Bl w (w1.alloc (.cells #[.slice A U c, .slice (cutA A c U) (n - U) (c - U), .int .u8 x0, .int .u8 x1, .int .u16 L, .int .i64 U] 100)) := Bl.trans hb1 (by go_grown)
  go_wp2_with fail
  generalize w1.alloc (.cells #[.slice A U c, .slice (cutA A c U) (n - U) (c - U), .int .u8 x0, .int .u8 x1, .int .u16 L, .int .i64 U] 100) = W0 at *
  generalize w1.heap.size = gc at *
  have k0' : ∀ d os, (Sort.grow (redrawn W0 d) os).cell? ⟨gc, 0, none⟩ = some (.slice A U c) := fun d os => cell_regrown (kc.cell 0) d os
  have k1' : ∀ d os, (Sort.grow (redrawn W0 d) os).cell? ⟨gc, 1, none⟩ = some (.slice (cutA A c U) (n - U) (c - U)) := fun d os => cell_regrown (kc.cell 1) d os
  have k2' : ∀ d os, (Sort.grow (redrawn W0 d) os).cell? ⟨gc, 2, none⟩ = some (.int .u8 x0) := fun d os => cell_regrown (kc.cell 2) d os
  have k3' : ∀ d os, (Sort.grow (redrawn W0 d) os).cell? ⟨gc, 3, none⟩ = some (.int .u8 x1) := fun d os => cell_regrown (kc.cell 3) d os
  have k4' : ∀ d os, (Sort.grow (redrawn W0 d) os).cell? ⟨gc, 4, none⟩ = some (.int .u16 L) := fun d os => cell_regrown (kc.cell 4) d os
  have k5' : ∀ d os, (Sort.grow (redrawn W0 d) os).cell? ⟨gc, 5, none⟩ = some (.int .i64 U) := fun d os => cell_regrown (kc.cell 5) d os
  have BB := Lib.hid B1
  clear hb1 B1
  refine wp_region_float (S := Grw W0) [true, true, true, true, false, true, true, true, false, true, true, true, false, true, true, true, false, true, true, true, false, false, false, false] 21 (by kernel_rfl) (by kernel_rfl) (Grw.drew W0) ?_
  simp only [selQ, selN, earlyN]
  go_big_quiet_want; go_big_quiet_op; go_big_quiet_on
  repeat (first | go_big_quiet_skip | (go_big_quiet_want; go_big_quiet_op; go_big_quiet_on))
  refine wpQuiet_nil ?_
  have Bd : Bl W0 W0.drew := (Bl.refl W0).drew
  refine wpN_want rfl (fun K hK => ?_)
  go_big_op
  (with_reducible refine (be32_any _ _ _ _ (R0.out.below (BB.out.trans Bd)) (HB.out.sub 4 8)).mono ?_)
  rintro e w2 ⟨rfl, hb2⟩
  rw [H0]
  have C0 := Bd.trans hb2
  refine hK _ _ (Grw.of C0) ?_
  clear hK K
  refine wpN_want rfl (fun K hK => ?_)
  go_big_op
  (with_reducible refine (be32_any _ _ _ _ (R1.out.below (BB.out.trans C0)) (HB.out.sub 8 12)).mono ?_)
  rintro e w3 ⟨rfl, hb3⟩
  rw [H1]
  have C1 := C0.trans hb3
  refine hK _ _ (Grw.of C1) ?_
  clear hK K
  refine wpN_want rfl (fun K hK => ?_)
  go_big_op
  (with_reducible refine (be16_any _ _ _ _ (R2.out.below (BB.out.trans C1)) (HB.out.sub 12 14)).mono ?_)
  rintro e w4 ⟨rfl, hb4⟩
  rw [H2]
  have C2 := C1.trans hb4
  refine hK _ _ (Grw.of C2) ?_
  clear hK K
  refine wpN_want rfl (fun K hK => ?_)
  go_big_op
  (with_reducible refine (be16_any _ _ _ _ (R3.out.below (BB.out.trans C2)) (HB.out.sub 14 16)).mono ?_)
  rintro e w5 ⟨rfl, hb5⟩
  rw [H3]
  have C3 := C2.trans hb5
  refine hK _ _ (Grw.of C3) ?_
  clear hK K
  refine wpN_want rfl (fun K hK => ?_)
  go_big_op
  (with_reducible refine (be32_any _ _ _ _ (R4.out.below (BB.out.trans C3)) (HB.out.sub 16 20)).mono ?_)
  rintro e w6 ⟨rfl, hb6⟩
  rw [H4]
  have C4 := C3.trans hb6
  refine hK _ _ (Grw.of C4) ?_
  clear hK K
  refine wpN_late ?_
  clear k0' k1' k2' k3' k4' k5'
  go_wp2_with fail
  refine NoPanic.normal ?_
  go_wp2_with fail
  have B2 : Bl w (w6.alloc (.cells #[.slice A U c, .slice (cutA A c U) (n - U) (c - U), .int .u8 x0, .int .u8 x1, .int .u16 L, .int .i64 U, .int .u32 Y0, .int .u32 Y1, .int .u16 Y2, .int .u16 Y3, .int .u32 Y4, .slice none 0 0] 108)) := (BB.out.trans C4).trans (by go_grown)
  have kl := Blk.new w6 #[.slice A U c, .slice (cutA A c U) (n - U) (c - U), .int .u8 x0, .int .u8 x1, .int .u16 L, .int .i64 U, .int .u32 Y0, .int .u32 Y1, .int .u16 Y2, .int .u16 Y3, .int .u32 Y4, .slice none 0 0] 108
  have hz : gk < w6.heap.size := Nat.lt_of_lt_of_le hk (BB.out.trans C4).size
  have hzl : w.heap.size ≤ w6.heap.size := (BB.out.trans C4).size
  generalize w6.alloc (.cells #[.slice A U c, .slice (cutA A c U) (n - U) (c - U), .int .u8 x0, .int .u8 x1, .int .u16 L, .int .i64 U, .int .u32 Y0, .int .u32 Y1, .int .u16 Y2, .int .u16 Y3, .int .u32 Y4, .slice none 0 0] 108) = W at *
  generalize w6.heap.size = gl at *
  have kgl := kl.lt
  have hB2 := B2.size
  go_loopw [8] (fun b wr => Hid (∃ (A' : Option Addr) (n' c' : Nat) (l' : List Int) (v : Value) (q : Nat) (vs : List Value), b = .slice A' n' c' ∧ Rd .u8 wr A' n' c' l' ∧ By l' ∧ InF (· < w.heap.size) A' n' ∧ n' + q ≤ n ∧ fullOf l' = true ∧ Blk wr gl #[.slice A U c, .slice (cutA A c U) (n - U) (c - U), .int .u8 x0, .int .u8 x1, .int .u16 L, .int .i64 U, .int .u32 Y0, .int .u32 Y1, .int .u16 Y2, .int .u16 Y3, .int .u32 Y4, v] 108 ∧ wr.ownsRow w.heap.size 114 4 v q vs ∧ v.ownBlock ≠ some gl ∧ Bl w wr ∧ prmCells (cutA A c 20) (c - 20) (sub l 20 V) = vs ++ prmCells A' c' l')) (fun b _ => match b with | .slice _ n _ => n | _ => 0)
  case atStart => exact Lib.hid ⟨_, _, _, _, _, 0, [], rfl, HR.out.below B2, HB.out.sub _ _, cutA_inF H.out.inF (fun _ => by omega), by omega, HF.out, kl, World.ownsRow_nil _ _ _ _, by simp [Value.ownBlock], B2, by simp⟩
  case round =>
    obtain ⟨A', n', c', l', v, q, vs, rfl, h, hl, hA, hnn, hfu, kv, ho, hne, hb, he⟩ := hrel.out
    clear hrel
    have hcap' := h.cap
    have hlen' := h.len
    obtain ⟨A4, c4, rfl⟩ := ownsRow_form ho
    by_cases h0 : n' = 0
    · have HE := Lib.hid (he.trans (by rw [prmCells_nil _ _ _ (by omega), List.append_nil]))
      have k2 := Blk.keep hb k
      have HO := Lib.hid ho
      have KV := Lib.hid kv
      subst h0
      clear h hl he ho kv hfu kl
      go_wp2_with fail
      (with_reducible refine (addLayer_any _ _ _ _ _ k2).mono ?_)
      rintro e w3 ⟨rfl, rfl⟩
      go_wp2_with fail
      go_ret
      subst_vars
      exact ⟨rfl, gl, _, q, ⟨(Below.ofBl hb (Nat.le_of_lt hk)).setCell (Nat.le_refl _) _, k2.set 0 _, KV.out.far (Nat.ne_of_gt hz) _⟩, own_set HO.out k2 (by decide) 0 _⟩
    have h0' : (0 : Int) < (n' : Int) := by omega
    obtain ⟨p4, pc, pl, pq⟩ := fullOf_step l' (by omega) hfu
    have HE := Lib.hid (he.trans (by rw [prmCells_cons _ _ _ (by omega) hfu]))
    have HFq := Lib.hid pq
    have R := Lib.hid h
    have HB1 := Lib.hid hl
    have HA1 := Lib.hid hA
    have HO := Lib.hid ho
    have KV := Lib.hid kv
    have s2 := run_cut_l A' n' c' (up4 (chL l')) _ rfl (by omega) 24 Try.underlying24 size5
    have hpc : chL l' ≤ n' := by unfold up4 at pl; omega
    clear h hl he ho kv hfu hA pq kl
    go_wp2_with fail
    (with_reducible refine (decPrm_any _ _ _ _ _ R.out HB1.out (by omega) pc hpc).mono ?_)
    rintro e w4 ⟨rfl, hb4⟩
    unfold prmC
    go_wp2_with fail
    generalize hP0 : be (sub l' 0 2) = P0 at *
    generalize hP1 : be (sub l' 2 4) = P1 at *
    generalize hP2 : up4 (chL l') = U2 at *
    generalize hP3 : cutA A' c' 4 = A3 at *
    generalize hP4 : chL l' = V2 at *
    have kp : Blk (w4.alloc (.cells #[.int .u16 P0, .int .u16 P1, .int .i64 (U2 : Nat), .slice A3 (V2 - 4) (c' - 4)] 114)) w4.heap.size #[.int .u16 P0, .int .u16 P1, .int .i64 (U2 : Nat), .slice A3 (V2 - 4) (c' - 4)] 114 := Blk.new _ _ _
    have B5 : Bl wr (w4.alloc (.cells #[.int .u16 P0, .int .u16 P1, .int .i64 (U2 : Nat), .slice A3 (V2 - 4) (c' - 4)] 114)) := Bl.trans hb4 (by go_grown)
    have kg5 := Blk.keep B5 KV.out
    have ho5 := own_bl HO.out B5
    have hsz4 := hb4.size
    have hszr := hb.size
    have hglr : gl < wr.heap.size := KV.out.lt
    generalize hg9 : w4.heap.size = g9 at *
    generalize w4.alloc (.cells #[.int .u16 P0, .int .u16 P1, .int .i64 (U2 : Nat), .slice A3 (V2 - 4) (c' - 4)] 114) = W5 at *
    have q0 : ∀ p : HoldT (PrmI gl g9 A4 A3 q c4 U2 V2 c' P0 P1), p.val.cell? ⟨gl, 11, none⟩ = some (.slice A4 q c4) := fun p => p.ok.1
    have q1 : ∀ p : HoldT (PrmI gl g9 A4 A3 q c4 U2 V2 c' P0 P1), p.val.cell? ⟨g9, 0, none⟩ = some (.int .u16 P0) := fun p => p.ok.2.1
    have q2 : ∀ p : HoldT (PrmI gl g9 A4 A3 q c4 U2 V2 c' P0 P1), p.val.cell? ⟨g9, 1, none⟩ = some (.int .u16 P1) := fun p => p.ok.2.2.1
    have q3 : ∀ p : HoldT (PrmI gl g9 A4 A3 q c4 U2 V2 c' P0 P1), p.val.cell? ⟨g9, 2, none⟩ = some (.int .i64 (U2 : Nat)) := fun p => p.ok.2.2.2.1
    have q4 : ∀ p : HoldT (PrmI gl g9 A4 A3 q c4 U2 V2 c' P0 P1), p.val.cell? ⟨g9, 3, none⟩ = some (.slice A3 (V2 - 4) (c' - 4)) := fun p => p.ok.2.2.2.2
    have mk : ∀ {V : World}, Blk V gl #[.slice A U c, .slice (cutA A c U) (n - U) (c - U), .int .u8 x0, .int .u8 x1, .int .u16 L, .int .i64 U, .int .u32 Y0, .int .u32 Y1, .int .u16 Y2, .int .u16 Y3, .int .u32 Y4, .slice A4 q c4] 108 → Blk V g9 #[.int .u16 P0, .int .u16 P1, .int .i64 (U2 : Nat), .slice A3 (V2 - 4) (c' - 4)] 114 → HoldS (PrmI gl g9 A4 A3 q c4 U2 V2 c' P0 P1) V := fun k1 k2 => HoldS.of ⟨k1.cell 11, k2.cell 0, k2.cell 1, k2.cell 2, k2.cell 3⟩
    haveI hne9 : Nonempty (HoldT (PrmI gl g9 A4 A3 q c4 U2 V2 c' P0 P1)) := ⟨⟨W5, kg5.cell 11, kp.cell 0, kp.cell 1, kp.cell 2, kp.cell 3⟩⟩
    refine wp_region_float (S := HoldS (PrmI gl g9 A4 A3 q c4 U2 V2 c' P0 P1)) [true, true, true, true, true, true, false, false, false, false, false] 8 (by kernel_rfl) (by kernel_rfl) (mk (kg5.same rfl) (kp.same rfl)) ?_
    simp only [selQ, selN, earlyN]
    repeat (first | go_big_quiet_skip | (go_big_quiet_want; go_big_quiet_op; go_big_quiet_on))
    refine wpQuiet_nil ?_
    clear q0 q1 q2 q3 q4 s2 s1
    have kg6 : Blk ((W5.alloc (.cells #[.int .u16 P0, .int .u16 P1, .int .i64 (U2 : Nat), .slice A3 (V2 - 4) (c' - 4)] 114)).drew) gl #[.slice A U c, .slice (cutA A c U) (n - U) (c - U), .int .u8 x0, .int .u8 x1, .int .u16 L, .int .i64 U, .int .u32 Y0, .int .u32 Y1, .int .u16 Y2, .int .u16 Y3, .int .u32 Y4, .slice A4 q c4] 108 := (kg5.alloc _).same rfl
    have kp6 : Blk ((W5.alloc (.cells #[.int .u16 P0, .int .u16 P1, .int .i64 (U2 : Nat), .slice A3 (V2 - 4) (c' - 4)] 114)).drew) g9 #[.int .u16 P0, .int .u16 P1, .int .i64 (U2 : Nat), .slice A3 (V2 - 4) (c' - 4)] 114 := (kp.alloc _).same rfl
    have kn6 : Blk ((W5.alloc (.cells #[.int .u16 P0, .int .u16 P1, .int .i64 (U2 : Nat), .slice A3 (V2 - 4) (c' - 4)] 114)).drew) W5.heap.size #[.int .u16 P0, .int .u16 P1, .int .i64 (U2 : Nat), .slice A3 (V2 - 4) (c' - 4)] 114 := (Blk.new W5 _ _).same rfl
    have ho6 : ((W5.alloc (.cells #[.int .u16 P0, .int .u16 P1, .int .i64 (U2 : Nat), .slice A3 (V2 - 4) (c' - 4)] 114)).drew).ownsRow w.heap.size 114 4 (.slice A4 q c4) q vs := own_bl ho5 ((show Bl W5 (W5.alloc (.cells #[.int .u16 P0, .int .u16 P1, .int .i64 (U2 : Nat), .slice A3 (V2 - 4) (c' - 4)] 114)) by go_grown).drew)
    have B6 : Bl wr ((W5.alloc (.cells #[.int .u16 P0, .int .u16 P1, .int .i64 (U2 : Nat), .slice A3 (V2 - 4) (c' - 4)] 114)).drew) := B5.trans ((show Bl W5 (W5.alloc (.cells #[.int .u16 P0, .int .u16 P1, .int .i64 (U2 : Nat), .slice A3 (V2 - 4) (c' - 4)] 114)) by go_grown).drew)
    refine wpN_want rfl (fun K hK => ?_)
    go_big_op
    refine hK _ _ (mk kg6 kp6) ?_
    clear hK K
    refine wpN_if rfl (fun K hK => ?_)
    generalize hW6 : (W5.alloc (.cells #[.int .u16 P0, .int .u16 P1, .int .i64 (U2 : Nat), .slice A3 (V2 - 4) (c' - 4)] 114)).drew = W6 at *
    refine step_app rfl _ _ 106 114 (.agg #[.int .u16 0, .int .u16 0, .int .i64 0, .slice none 0 0]) 4 40 w.heap.size rfl ud106 info114 rfl (by decide) (by decide) (.slice A4 q c4) q vs (some ⟨W5.heap.size, 0, none⟩) 1 1 [.int .u16 P0, .int .u16 P1, .int .i64 (U2 : Nat), .slice A3 (V2 - 4) (c' - 4)] rfl rfl ho6 (Blk.src kn6 1 4 rfl (by simp [Value.oneCell'])) (by omega) (Nat.le_trans hszr B6.size) ?_
    intro A5 c5 w7 hp
    have hown : ∀ k, (Value.slice A4 q c4).ownBlock = some k → w.heap.size ≤ k ∧ k < wr.heap.size := fun k hk => HO.out.lt k hk
    have kg7 : Blk w7 gl #[.slice A U c, .slice (cutA A c U) (n - U) (c - U), .int .u8 x0, .int .u8 x1, .int .u16 L, .int .i64 U, .int .u32 Y0, .int .u32 Y1, .int .u16 Y2, .int .u16 Y3, .int .u32 Y4, .slice A4 q c4] 108 := ⟨(hp.grown.block gl kg6.lt (fun e => hne e.symm)).trans kg6.heap⟩
    have kp7 : Blk w7 g9 #[.int .u16 P0, .int .u16 P1, .int .i64 (U2 : Nat), .slice A3 (V2 - 4) (c' - 4)] 114 := ⟨(hp.grown.block g9 kp6.lt (fun e => by have := hown _ e.symm; omega)).trans kp6.heap⟩
    refine hK _ _ (mk kg7 kp7) ?_
    clear hK K
    refine wpN_late ?_
    have B7 : Bl w w7 := hp.bl ho6 (hb.trans B6)
    have ho7 := Lib.hid hp.own
    have hgl6 := kg6.lt
    have hne7 : (Value.slice A5 (q + 1) c5).ownBlock ≠ some gl := by
      rcases hp.at_ with e | e
      · rw [e]; exact hne
      · rw [e]; intro e2; simp at e2; omega
    have cg := kg7.cell
    have fg := kg7.frozen
    have zg := kg7.lt
    clear hne9 mk hp kp kp6 kn6 ho6 kg6 kp7 kg5 ho5 B6 B5 hW6
    go_wp2_with fail
    refine NoPanic.normal ?_
    go_wp2_with fail
    clear cg fg
    have k8 := kg7.set 11 (.slice A5 (q + 1) c5)
    simp only [List.setIfInBounds_toArray, List.set_cons_zero, List.set_cons_succ] at k8
    have ho8 := own_set ho7.out kg7 (by decide) 11 (.slice A5 (q + 1) c5)
    have B8 : Bl w (w7.setCell ⟨gl, 11, none⟩ (.slice A5 (q + 1) c5)) := Below.setCell B7 hzl _
    generalize w7.setCell ⟨gl, 11, none⟩ (.slice A5 (q + 1) c5) = W8 at *
    have hu4 : 4 ≤ U2 := by rw [← hP2]; unfold up4; omega
    have hk8 : KeepF (· < w.heap.size) wr W8 := fun k hF _ => (B8.block k hF).trans (hb.block k hF).symm
    have r8 := (R.out.keepF HA1.out hk8).cut U2 n' (by omega) (Nat.le_refl _)
    have es : sub l' U2 n' = l'.drop U2 := by rw [← hlen']; simp [sub]
    rw [es] at r8
    have hbd : By (l'.drop U2) := by rw [← es]; exact HB1.out.sub _ _
    have hpc : (prmC A' c' l').toList = [.int .u16 P0, .int .u16 P1, .int .i64 (U2 : Nat), .slice A3 (V2 - 4) (c' - 4)] := by unfold prmC; rw [hP0, hP1, hP4, hP2, hP3]
    have hE := HE.out
    rw [hpc, ← List.append_assoc] at hE
    refine ⟨Lib.hid ⟨cutA A' c' U2, n' - U2, c' - U2, l'.drop U2, _, q + 1, _, rfl, r8, hbd, cutA_inF HA1.out (fun _ => by omega), by omega, HFq.out, k8, ho8, hne7, B8, hE⟩, by simp only; omega⟩
end Go.Proofs.Ytoljdgfbkebgcaa
namespace Go.Proofs.Ytoljdgfbkebgcaa
open Go.RowKit
set_option linter.unusedVariables false
set_option maxHeartbeats 1000000 in
theorem decIni_short (A : Option Addr) (n c : Nat) (l : List Int) (w : World) (h : Rd .u8 w A n c l) (hl : By l) (h4 : 4 ≤ n) (hL : chL l < 4) (v : Value) :
    Calls Try.prog 79 #[.slice A n c, v] w fun e w' => (∃ u, e = .returned (.iface 167 u)) ∧ Bl w w' := by
  have H := Lib.hid h
  have HB := Lib.hid hl
  clear h hl
  go_enter Try.func79, Try.ntmps79
  go_wp2_with fail
  (with_reducible refine (chunk_short _ _ _ _ _ H.out HB.out h4 hL).mono ?_)
  rintro e w1 ⟨⟨u, rfl⟩, hb1⟩
  go_wp2_with fail
  go_ret
  exact ⟨⟨_, rfl⟩, Bl.trans hb1 (by go_grown)⟩
set_option maxHeartbeats 1000000 in
theorem decSac_short (A : Option Addr) (n c : Nat) (l : List Int) (w : World) (h : Rd .u8 w A n c l) (hl : By l) (h4 : 4 ≤ n) (hL : chL l < 4) (v : Value) :
    Calls Try.prog 80 #[.slice A n c, v] w fun e w' => (∃ u, e = .returned (.iface 167 u)) ∧ Bl w w' := by
  have H := Lib.hid h
  have HB := Lib.hid hl
  clear h hl
  go_enter Try.func80, Try.ntmps80
  go_wp2_with fail
  (with_reducible refine (chunk_short _ _ _ _ _ H.out HB.out h4 hL).mono ?_)
  rintro e w1 ⟨⟨u, rfl⟩, hb1⟩
  go_wp2_with fail
  go_ret
  exact ⟨⟨_, rfl⟩, Bl.trans hb1 (by go_grown)⟩
end Go.Proofs.Ytoljdgfbkebgcaa
