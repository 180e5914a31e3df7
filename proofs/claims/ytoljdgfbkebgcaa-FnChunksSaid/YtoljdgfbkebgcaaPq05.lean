/- decodeSCTPParameter. sctpheartbeat: its decoder. sctperror: its decoder. (Printed out of DecHea's text.) sctpheartbeat, sctperror: fewer than four bytes told. sctpshutdown: its decoder. -/
import Derived.Test.YtoljdgfbkebgcaaPq03
import Derived.Test.YtoljdgfbkebgcaaPq04
import Derived.Test.YtoljdgfbkebgcaaPq01
import Derived.LoopTactic
namespace Go.Proofs.Ytoljdgfbkebgcaa
open Go.RowKit
set_option linter.unusedVariables false
theorem run_cut16 {e : TypeId} (A : Option Addr) (n c lo hi : Nat) (ilo ihi : Int) (e1 : ilo = lo) (e2 : ihi = hi) (h1 : lo ≤ hi) (h2 : hi ≤ c)
    (t : TypeId) (ht : Try.prog.underlying t = some (.slice e)) (hs : ∀ W, (sizeOf e).run Try.prog W = .ok 1 W) (W : World) :
    (Instr.slice t (.slice A n c) (some (.int .i64 ilo)) (some (.int .u16 ihi)) none).run Try.prog W = .ok (.slice (cutA A c lo) (hi - lo) (c - lo)) W := by
  subst e1 e2
  have hel : Try.prog.elem t = e := by simp [Program.elem, ht]
  have hu : Try.prog.underlying t = some (.slice (Try.prog.elem t)) := by rw [hel]; exact ht
  rw [run_slice_lh W t A n c hu .i64 .u16 lo hi (by omega) (by omega) (by omega), hel, hs]
  simp [sliced, Result.andThen, cutA]
/-- What a parameter is decoded to. -/
def prmC (A : Option Addr) (c : Nat) (l : List Int) : Array Value := #[.int .u16 (be (sub l 0 2)), .int .u16 (be (sub l 2 4)), .int .i64 (up4 (chL l) : Nat), .slice (cutA A c 4) (chL l - 4) (c - 4)]
set_option maxHeartbeats 2000000 in
set_option maxRecDepth 100000 in
theorem decPrm_any (A : Option Addr) (n c : Nat) (l : List Int) (w : World) (h : Rd .u8 w A n c l) (hl : By l) (h4 : 4 ≤ n) (hc4 : 4 ≤ chL l) (hle : chL l ≤ n) :
    Calls Try.prog 92 #[.slice A n c] w fun e w' => e = .returned (.agg (prmC A c l)) ∧ Bl w w' := by
  have hcap := h.cap
  have hlen := h.len
  have s1 := run_cut A n c 2 4 2 4 rfl rfl (by omega) (by omega) 24 Try.underlying24 size5
  have s0 := run_cut A n c 0 2 0 2 rfl rfl (by omega) (by omega) 24 Try.underlying24 size5
  have e1 := chL_int l hl
  have s3 : ∀ W, (Instr.slice 24 (.slice A n c) (some (.int .i64 4)) (some (.int .u16 (be (sub l 2 4)))) none).run Try.prog W = .ok (.slice (cutA A c 4) (chL l - 4) (c - 4)) W := run_cut16 A n c 4 (chL l) 4 (be (sub l 2 4)) rfl e1 hc4 (by omega) 24 Try.underlying24 size5
  have R1 := Lib.hid (h.cutm 2 4 2 (by omega) (by omega))
  have R0 : Hid (Rd .u8 w (cutA A c 0) 2 c (sub l 0 2)) := Lib.hid (h.cutm 0 2 2 (by omega) (by omega))
  have HB := Lib.hid hl
  have b1 := be_bd2 (sub l 2 4) (hl.sub _ _) (by rw [sub_length _ _ _ (by omega)])
  have b0 := be_bd2 (sub l 0 2) (hl.sub _ _) (by rw [sub_length _ _ _ (by omega)])
  have HU : Hid ((be (sub l 2 4) + 3) / 4 * 4 = ((up4 (chL l) : Nat) : Int)) := Lib.hid (by unfold up4; omega)
  clear h hl
  have hP : prmC A c l = #[.int .u16 (be (sub l 0 2)), .int .u16 (be (sub l 2 4)), .int .i64 ((be (sub l 2 4) + 3) / 4 * 4), .slice (cutA A c 4) (chL l - 4) (c - 4)] := by unfold prmC; rw [HU.out]
  rw [hP]
  clear hP HU e1
  generalize HG : be (sub l 2 4) = G at *
  generalize HG0 : be (sub l 0 2) = G0 at *
  go_enter Try.func92, Try.ntmps92
  go_wp2_with fail
  have B0 : Bl w (w.alloc (.cells #[.int .u16 0, .int .u16 0, .int .i64 0, .slice none 0 0] 111)) := by go_grown
  have k0 : Blk (w.alloc (.cells #[.int .u16 0, .int .u16 0, .int .i64 0, .slice none 0 0] 111)) w.heap.size #[.int .u16 0, .int .u16 0, .int .i64 0, .slice none 0 0] 111 := Blk.new _ _ _
  generalize w.alloc (.cells #[.int .u16 0, .int .u16 0, .int .i64 0, .slice none 0 0] 111) = W0 at *
  refine wp_region_float (S := Grw W0) [true, true, true, false, false] 3 (by kernel_rfl) (by kernel_rfl) (Grw.drew W0) ?_
  simp only [selQ, selN, earlyN]
  repeat (first | go_big_quiet_skip | (go_big_quiet_want; go_big_quiet_op; go_big_quiet_on))
  refine wpQuiet_nil ?_
  refine wpN_late ?_
  have B0' : Bl w W0.drew := B0.drew
  go_wp2_with fail
  (with_reducible refine (be16_any _ _ _ _ (R1.out.below B0') (HB.out.sub 2 4)).mono ?_)
  rintro e w1 ⟨rfl, hb1⟩
  rw [HG]
  have B1 := B0'.trans hb1
  have k1 := Blk.keep hb1 (k0.same (w' := W0.drew) rfl)
  clear k0 hb1 B0 B0'
  go_wp2_with fail
  refine NoPanic.normal ?_
  go_wp2_with fail
  refine wp_region_float (S := Grw w1) [true, true, true, false, true, true, true, true, true, true, false, false, false] 11 (by kernel_rfl) (by kernel_rfl) (Grw.drew w1) ?_
  simp only [selQ, selN, earlyN]
  repeat (first | go_big_quiet_skip | (go_big_quiet_want; go_big_quiet_op; go_big_quiet_on))
  refine wpQuiet_nil ?_
  have Bd : Bl w1 w1.drew := (Bl.refl w1).drew
  refine wpN_want rfl (fun K hK => ?_)
  go_big_op
  (with_reducible refine (be16_any _ _ _ _ (R0.out.below (B1.drew)) (HB.out.sub 0 2)).mono ?_)
  rintro e w2 ⟨rfl, hb2⟩
  rw [HG0]
  have B2 := Bd.trans hb2
  refine hK _ _ (Grw.of B2) ?_
  clear hK K
  refine wpN_want rfl (fun K hK => ?_)
  go_big_op
  (with_reducible refine (round_any _ (by omega) (by omega) _).mono ?_)
  rintro e w3 ⟨rfl, rfl⟩
  refine hK _ _ (Grw.of B2) ?_
  clear hK K
  refine wpN_late ?_
  have k2 := Blk.keep B2 k1
  have BW := B1.trans B2
  have kc := k2.cell
  have kf := k2.frozen
  have kz := k2.lt
  go_wp2_with fail
  refine NoPanic.normal ?_
  go_wp2_with fail
  have k9 := ((((k2.set 0 (.int .u16 G0)).set 1 (.int .u16 G)).set 2 (.int .i64 ((G + 3) / 4 * 4))).set 3 (.slice (cutA A c 4) (chL l - 4) (c - 4)))
  have B9 : Bl w ((((w2.setCell ⟨w.heap.size, 0, none⟩ (.int .u16 G0)).setCell ⟨w.heap.size, 1, none⟩ (.int .u16 G)).setCell ⟨w.heap.size, 2, none⟩ (.int .i64 ((G + 3) / 4 * 4))).setCell ⟨w.heap.size, 3, none⟩ (.slice (cutA A c 4) (chL l - 4) (c - 4))) := (((BW.setCell (Nat.le_refl _) _).setCell (Nat.le_refl _) _).setCell (Nat.le_refl _) _).setCell (Nat.le_refl _) _
  simp only [List.setIfInBounds_toArray, List.set_cons_zero, List.set_cons_succ] at k9
  generalize ((((w2.setCell ⟨w.heap.size, 0, none⟩ (.int .u16 G0)).setCell ⟨w.heap.size, 1, none⟩ (.int .u16 G)).setCell ⟨w.heap.size, 2, none⟩ (.int .i64 ((G + 3) / 4 * 4))).setCell ⟨w.heap.size, 3, none⟩ (.slice (cutA A c 4) (chL l - 4) (c - 4))) = W9 at *
  have c9 := k9.cell
  exact bodyPost_ret (v := .agg #[.int .u16 G0, .int .u16 G, .int .i64 ((G + 3) / 4 * 4), .slice (cutA A c 4) (chL l - 4) (c - 4)]) (by simp [results, Try.results92, go_sem, c9]) rfl ⟨rfl, B9⟩
end Go.Proofs.Ytoljdgfbkebgcaa
namespace Go.Proofs.Ytoljdgfbkebgcaa
open Go.RowKit
set_option linter.unusedVariables false
/-- The cells of the parameters that bytes are decoded to, and their number. -/
def prmCs : Nat → Option Addr → Nat → List Int → List Value
  | 0, _, _, _ => []
  | f + 1, A, c, l => if l.length = 0 then [] else (prmC A c l).toList ++ prmCs f (cutA A c (up4 (chL l))) (c - up4 (chL l)) (l.drop (up4 (chL l)))
theorem prmCs_mono (f f' : Nat) (A : Option Addr) (c : Nat) (l : List Int) (h : l.length < f) (hf : f ≤ f') (hq : fullOf l = true) : prmCs f' A c l = prmCs f A c l := by
  induction f generalizing f' A c l with
  | zero => omega
  | succ f ih =>
    obtain ⟨k, rfl⟩ : ∃ k, f' = k + 1 := ⟨f' - 1, by omega⟩
    unfold prmCs
    split
    · rfl
    · rename_i h1
      have hb : ¬(l.length < 4 ∨ chL l < 4 ∨ l.length < up4 (chL l)) := fun hb => by rw [fullOf_bad l h1 hb] at hq; simp at hq
      have hu : 4 ≤ up4 (chL l) := by unfold up4; omega
      rw [fullOf_cons l (by omega) (by omega) (by omega)] at hq
      rw [ih k _ _ _ (by rw [List.length_drop]; omega) (by omega) hq]
def prmCells (A : Option Addr) (c : Nat) (l : List Int) : List Value := prmCs (l.length + 1) A c l
theorem prmCells_nil (A : Option Addr) (c : Nat) (l : List Int) (h : l.length = 0) : prmCells A c l = [] := by unfold prmCells prmCs; rw [if_pos h]
theorem fullOf_step (l : List Int) (h0 : l.length ≠ 0) (hq : fullOf l = true) : 4 ≤ l.length ∧ 4 ≤ chL l ∧ up4 (chL l) ≤ l.length ∧ fullOf (l.drop (up4 (chL l))) = true := by
  have hb : ¬(l.length < 4 ∨ chL l < 4 ∨ l.length < up4 (chL l)) := fun hb => by rw [fullOf_bad l h0 hb] at hq; simp at hq
  rw [fullOf_cons l (by omega) (by omega) (by omega)] at hq
  exact ⟨by omega, by omega, by omega, hq⟩
theorem prmCells_cons (A : Option Addr) (c : Nat) (l : List Int) (h0 : l.length ≠ 0) (hq : fullOf l = true) : prmCells A c l = (prmC A c l).toList ++ prmCells (cutA A c (up4 (chL l))) (c - up4 (chL l)) (l.drop (up4 (chL l))) := by
  obtain ⟨h4, hc, hl, hq'⟩ := fullOf_step l h0 hq
  have hu : 4 ≤ up4 (chL l) := by unfold up4; omega
  unfold prmCells
  rw [prmCs, if_neg h0]
  rw [prmCs_mono ((l.drop (up4 (chL l))).length + 1) l.length _ _ _ (by omega) (by rw [List.length_drop]; omega) hq']
/-- A class of worlds by what their cells hold. -/
structure HoldT (Φ : World → Prop) where
  val : World
  ok : Φ val
abbrev HoldS (Φ : World → Prop) : World → Prop := fun w' => ∃ p : HoldT Φ, w' = p.val
theorem HoldS.of {Φ : World → Prop} {w : World} (h : Φ w) : HoldS Φ w := ⟨⟨w, h⟩, rfl⟩
def Prm9 (gl g9 : Nat) (A4 A3 : Option Addr) (q c4 U2 V2 c' : Nat) (P0 P1 : Int) (V : World) : Prop := V.cell? ⟨gl, 6, none⟩ = some (.slice A4 q c4) ∧ V.cell? ⟨g9, 0, none⟩ = some (.int .u16 P0) ∧ V.cell? ⟨g9, 1, none⟩ = some (.int .u16 P1) ∧ V.cell? ⟨g9, 2, none⟩ = some (.int .i64 (U2 : Nat)) ∧ V.cell? ⟨g9, 3, none⟩ = some (.slice A3 (V2 - 4) (c' - 4))
theorem ud121 : Try.prog.underlying 121 = some (.slice 124) := by kernel_rfl
theorem info124 : (Try.prog.info? 124).map (fun i => (i.zero, i.size, i.bytes)) = some (some (.agg #[.int .u16 0, .int .u16 0, .int .i64 0, .slice none 0 0]), 4, 40) := by kernel_rfl
set_option maxHeartbeats 4000000 in
set_option maxRecDepth 100000 in
theorem decHea_any (A : Option Addr) (n c gk : Nat) (l : List Int) (w : World) (h : Rd .u8 w A n c l) (hl : By l) (h4 : 4 ≤ chL l) (hn : up4 (chL l) ≤ n) (h0 : l.getD 0 0 ≠ 0) (hn2 : n ≤ 2000) (hf : fullOf (sub l 4 (chL l)) = true) (x : Value) (k : Blk w gk #[x] 164) :
    Calls Try.prog 81 #[.slice A n c, .iface 162 (.pointer (some ⟨gk, 0, none⟩))] w fun e w' => e = .returned .nilIface ∧ ∃ gl v q, Kept w w' gk 120 123 gl ((chk A n c l).push v) ∧ w'.ownsRow w.heap.size 124 4 v q (prmCells (cutA A c 4) (c - 4) (sub l 4 (chL l))) := by
  have hk := k.lt
  have hcap := h.cap
  have hVn : chL l ≤ n := by unfold up4 at hn; omega
  have s1 := run_cutu A n c 4 (chL l) 4 (be (sub l 2 4)) rfl (chL_int l hl) h4 (by omega) 24 Try.underlying24 size5
  have H := Lib.hid h
  have HB := Lib.hid hl
  have H0 := Lib.hid h0
  have HR := Lib.hid (h.cut 4 (chL l) h4 hVn)
  have HF := Lib.hid hf
  clear h hl h0 hf
  go_enter Try.func81, Try.ntmps81
  go_wp2_with fail
  (with_reducible refine (chunk_any _ _ _ _ _ H.out HB.out h4 hn H0.out (by omega)).mono ?_)
  rintro e w1 ⟨rfl, hb1⟩
  have k1 := Blk.keep hb1 k
  have z1 := k1.lt
  unfold chk
  generalize G0 : l.getD 0 0 = x0 at *
  generalize G1 : l.getD 1 0 = x1 at *
  generalize G2 : be (sub l 2 4) = L at *
  generalize G3 : up4 (chL l) = U at *
  generalize G4 : chL l = V at *
  go_wp2_with fail
  have B2 : Bl w ((w1.alloc (.cells #[.slice A U c, .slice (cutA A c U) (n - U) (c - U), .int .u8 x0, .int .u8 x1, .int .u16 L, .int .i64 U] 100)).alloc (.cells #[.slice A U c, .slice (cutA A c U) (n - U) (c - U), .int .u8 x0, .int .u8 x1, .int .u16 L, .int .i64 U, .slice none 0 0] 123)) := Bl.trans hb1 (by go_grown)
  have kl := Blk.newAt (w1.alloc (.cells #[.slice A U c, .slice (cutA A c U) (n - U) (c - U), .int .u8 x0, .int .u8 x1, .int .u16 L, .int .i64 U] 100)) #[.slice A U c, .slice (cutA A c U) (n - U) (c - U), .int .u8 x0, .int .u8 x1, .int .u16 L, .int .i64 U, .slice none 0 0] 123 (w1.heap.size + 1) (by simp)
  have hz : gk < w1.heap.size + 1 := by omega
  have hzl : w.heap.size ≤ w1.heap.size + 1 := by have := hb1.size; omega
  generalize ((w1.alloc (.cells #[.slice A U c, .slice (cutA A c U) (n - U) (c - U), .int .u8 x0, .int .u8 x1, .int .u16 L, .int .i64 U] 100)).alloc (.cells #[.slice A U c, .slice (cutA A c U) (n - U) (c - U), .int .u8 x0, .int .u8 x1, .int .u16 L, .int .i64 U, .slice none 0 0] 123)) = W at *
  generalize w1.heap.size + 1 = gl at *
  have kgl := kl.lt
  have hB2 := B2.size
  go_loopw [8] (fun b wr => Hid (∃ (A' : Option Addr) (n' c' : Nat) (l' : List Int) (v : Value) (q : Nat) (vs : List Value), b = .slice A' n' c' ∧ Rd .u8 wr A' n' c' l' ∧ By l' ∧ InF (· < w.heap.size) A' n' ∧ n' + q ≤ n ∧ fullOf l' = true ∧ Blk wr gl #[.slice A U c, .slice (cutA A c U) (n - U) (c - U), .int .u8 x0, .int .u8 x1, .int .u16 L, .int .i64 U, v] 123 ∧ wr.ownsRow w.heap.size 124 4 v q vs ∧ v.ownBlock ≠ some gl ∧ Bl w wr ∧ prmCells (cutA A c 4) (c - 4) (sub l 4 V) = vs ++ prmCells A' c' l')) (fun b _ => match b with | .slice _ n _ => n | _ => 0)
  case atStart => exact Lib.hid ⟨_, _, _, _, _, 0, [], rfl, HR.out.below B2, HB.out.sub _ _, cutA_inF H.out.inF (fun _ => by omega), by omega, HF.out, kl, World.ownsRow_nil _ _ _ _, by simp [Value.ownBlock], B2, by simp⟩
  case round =>
    obtain ⟨A', n', c', l', v, q, vs, rfl, h, hl, hA, hnn, hfu, kv, ho, hne, hb, he⟩ := hrel.out
    clear hrel
    have hcap' := h.cap
    have hlen' := h.len
    obtain ⟨A4, c4, rfl⟩ := ownsRow_form ho
    by_cases h0 : n' = 0
    · have HE := Lib.hid (he.trans (by rw [prmCells_nil _ _ _ (by omega), List.append_nil]))
      have k2 := Blk.keep hb k
      have HO := Lib.hid ho
      have KV := Lib.hid kv
      subst h0
      clear h hl he ho kv hfu kl
      go_wp2_with fail
      (with_reducible refine (addLayer_any _ _ _ _ _ k2).mono ?_)
      rintro e w3 ⟨rfl, rfl⟩
      go_wp2_with fail
      go_ret
      subst_vars
      exact ⟨rfl, gl, _, q, ⟨(Below.ofBl hb (Nat.le_of_lt hk)).setCell (Nat.le_refl _) _, k2.set 0 _, KV.out.far (Nat.ne_of_gt hz) _⟩, own_set HO.out k2 (by decide) 0 _⟩
    have h0' : (0 : Int) < (n' : Int) := by omega
    obtain ⟨p4, pc, pl, pq⟩ := fullOf_step l' (by omega) hfu
    have HE := Lib.hid (he.trans (by rw [prmCells_cons _ _ _ (by omega) hfu]))
    have HFq := Lib.hid pq
    have R := Lib.hid h
    have HB1 := Lib.hid hl
    have HA1 := Lib.hid hA
    have HO := Lib.hid ho
    have KV := Lib.hid kv
    have s2 := run_cut_l A' n' c' (up4 (chL l')) _ rfl (by omega) 24 Try.underlying24 size5
    have hpc : chL l' ≤ n' := by unfold up4 at pl; omega
    clear h hl he ho kv hfu hA pq kl
    go_wp2_with fail
    (with_reducible refine (decPrm_any _ _ _ _ _ R.out HB1.out (by omega) pc hpc).mono ?_)
    rintro e w4 ⟨rfl, hb4⟩
    unfold prmC
    go_wp2_with fail
    generalize hP0 : be (sub l' 0 2) = P0 at *
    generalize hP1 : be (sub l' 2 4) = P1 at *
    generalize hP2 : up4 (chL l') = U2 at *
    generalize hP3 : cutA A' c' 4 = A3 at *
    generalize hP4 : chL l' = V2 at *
    have kp : Blk (w4.alloc (.cells #[.int .u16 P0, .int .u16 P1, .int .i64 (U2 : Nat), .slice A3 (V2 - 4) (c' - 4)] 124)) w4.heap.size #[.int .u16 P0, .int .u16 P1, .int .i64 (U2 : Nat), .slice A3 (V2 - 4) (c' - 4)] 124 := Blk.new _ _ _
    have B5 : Bl wr (w4.alloc (.cells #[.int .u16 P0, .int .u16 P1, .int .i64 (U2 : Nat), .slice A3 (V2 - 4) (c' - 4)] 124)) := Bl.trans hb4 (by go_grown)
    have kg5 := Blk.keep B5 KV.out
    have ho5 := own_bl HO.out B5
    have hsz4 := hb4.size
    have hszr := hb.size
    have hglr : gl < wr.heap.size := KV.out.lt
    generalize hg9 : w4.heap.size = g9 at *
    generalize w4.alloc (.cells #[.int .u16 P0, .int .u16 P1, .int .i64 (U2 : Nat), .slice A3 (V2 - 4) (c' - 4)] 124) = W5 at *
    have q0 : ∀ p : HoldT (Prm9 gl g9 A4 A3 q c4 U2 V2 c' P0 P1), p.val.cell? ⟨gl, 6, none⟩ = some (.slice A4 q c4) := fun p => p.ok.1
    have q1 : ∀ p : HoldT (Prm9 gl g9 A4 A3 q c4 U2 V2 c' P0 P1), p.val.cell? ⟨g9, 0, none⟩ = some (.int .u16 P0) := fun p => p.ok.2.1
    have q2 : ∀ p : HoldT (Prm9 gl g9 A4 A3 q c4 U2 V2 c' P0 P1), p.val.cell? ⟨g9, 1, none⟩ = some (.int .u16 P1) := fun p => p.ok.2.2.1
    have q3 : ∀ p : HoldT (Prm9 gl g9 A4 A3 q c4 U2 V2 c' P0 P1), p.val.cell? ⟨g9, 2, none⟩ = some (.int .i64 (U2 : Nat)) := fun p => p.ok.2.2.2.1
    have q4 : ∀ p : HoldT (Prm9 gl g9 A4 A3 q c4 U2 V2 c' P0 P1), p.val.cell? ⟨g9, 3, none⟩ = some (.slice A3 (V2 - 4) (c' - 4)) := fun p => p.ok.2.2.2.2
    have mk : ∀ {V : World}, Blk V gl #[.slice A U c, .slice (cutA A c U) (n - U) (c - U), .int .u8 x0, .int .u8 x1, .int .u16 L, .int .i64 U, .slice A4 q c4] 123 → Blk V g9 #[.int .u16 P0, .int .u16 P1, .int .i64 (U2 : Nat), .slice A3 (V2 - 4) (c' - 4)] 124 → HoldS (Prm9 gl g9 A4 A3 q c4 U2 V2 c' P0 P1) V := fun k1 k2 => HoldS.of ⟨k1.cell 6, k2.cell 0, k2.cell 1, k2.cell 2, k2.cell 3⟩
    haveI hne9 : Nonempty (HoldT (Prm9 gl g9 A4 A3 q c4 U2 V2 c' P0 P1)) := ⟨⟨W5, kg5.cell 6, kp.cell 0, kp.cell 1, kp.cell 2, kp.cell 3⟩⟩
    refine wp_region_float (S := HoldS (Prm9 gl g9 A4 A3 q c4 U2 V2 c' P0 P1)) [true, true, true, true, true, true, false, false, false, false, false] 8 (by kernel_rfl) (by kernel_rfl) (mk (kg5.same rfl) (kp.same rfl)) ?_
    simp only [selQ, selN, earlyN]
    repeat (first | go_big_quiet_skip | (go_big_quiet_want; go_big_quiet_op; go_big_quiet_on))
    refine wpQuiet_nil ?_
    clear q0 q1 q2 q3 q4 s2 s1
    have kg6 : Blk ((W5.alloc (.cells #[.int .u16 P0, .int .u16 P1, .int .i64 (U2 : Nat), .slice A3 (V2 - 4) (c' - 4)] 124)).drew) gl #[.slice A U c, .slice (cutA A c U) (n - U) (c - U), .int .u8 x0, .int .u8 x1, .int .u16 L, .int .i64 U, .slice A4 q c4] 123 := (kg5.alloc _).same rfl
    have kp6 : Blk ((W5.alloc (.cells #[.int .u16 P0, .int .u16 P1, .int .i64 (U2 : Nat), .slice A3 (V2 - 4) (c' - 4)] 124)).drew) g9 #[.int .u16 P0, .int .u16 P1, .int .i64 (U2 : Nat), .slice A3 (V2 - 4) (c' - 4)] 124 := (kp.alloc _).same rfl
    have kn6 : Blk ((W5.alloc (.cells #[.int .u16 P0, .int .u16 P1, .int .i64 (U2 : Nat), .slice A3 (V2 - 4) (c' - 4)] 124)).drew) W5.heap.size #[.int .u16 P0, .int .u16 P1, .int .i64 (U2 : Nat), .slice A3 (V2 - 4) (c' - 4)] 124 := (Blk.new W5 _ _).same rfl
    have ho6 : ((W5.alloc (.cells #[.int .u16 P0, .int .u16 P1, .int .i64 (U2 : Nat), .slice A3 (V2 - 4) (c' - 4)] 124)).drew).ownsRow w.heap.size 124 4 (.slice A4 q c4) q vs := own_bl ho5 ((show Bl W5 (W5.alloc (.cells #[.int .u16 P0, .int .u16 P1, .int .i64 (U2 : Nat), .slice A3 (V2 - 4) (c' - 4)] 124)) by go_grown).drew)
    have B6 : Bl wr ((W5.alloc (.cells #[.int .u16 P0, .int .u16 P1, .int .i64 (U2 : Nat), .slice A3 (V2 - 4) (c' - 4)] 124)).drew) := B5.trans ((show Bl W5 (W5.alloc (.cells #[.int .u16 P0, .int .u16 P1, .int .i64 (U2 : Nat), .slice A3 (V2 - 4) (c' - 4)] 124)) by go_grown).drew)
    refine wpN_want rfl (fun K hK => ?_)
    go_big_op
    refine hK _ _ (mk kg6 kp6) ?_
    clear hK K
    refine wpN_if rfl (fun K hK => ?_)
    generalize hW6 : (W5.alloc (.cells #[.int .u16 P0, .int .u16 P1, .int .i64 (U2 : Nat), .slice A3 (V2 - 4) (c' - 4)] 124)).drew = W6 at *
    refine step_app rfl _ _ 121 124 (.agg #[.int .u16 0, .int .u16 0, .int .i64 0, .slice none 0 0]) 4 40 w.heap.size rfl ud121 info124 rfl (by decide) (by decide) (.slice A4 q c4) q vs (some ⟨W5.heap.size, 0, none⟩) 1 1 [.int .u16 P0, .int .u16 P1, .int .i64 (U2 : Nat), .slice A3 (V2 - 4) (c' - 4)] rfl rfl ho6 (Blk.src kn6 1 4 rfl (by simp [Value.oneCell'])) (by omega) (Nat.le_trans hszr B6.size) ?_
    intro A5 c5 w7 hp
    have hown : ∀ k, (Value.slice A4 q c4).ownBlock = some k → w.heap.size ≤ k ∧ k < wr.heap.size := fun k hk => HO.out.lt k hk
    have kg7 : Blk w7 gl #[.slice A U c, .slice (cutA A c U) (n - U) (c - U), .int .u8 x0, .int .u8 x1, .int .u16 L, .int .i64 U, .slice A4 q c4] 123 := ⟨(hp.grown.block gl kg6.lt (fun e => hne e.symm)).trans kg6.heap⟩
    have kp7 : Blk w7 g9 #[.int .u16 P0, .int .u16 P1, .int .i64 (U2 : Nat), .slice A3 (V2 - 4) (c' - 4)] 124 := ⟨(hp.grown.block g9 kp6.lt (fun e => by have := hown _ e.symm; omega)).trans kp6.heap⟩
    refine hK _ _ (mk kg7 kp7) ?_
    clear hK K
    refine wpN_late ?_
    have B7 : Bl w w7 := hp.bl ho6 (hb.trans B6)
    have ho7 := Lib.hid hp.own
    have hgl6 := kg6.lt
    have hne7 : (Value.slice A5 (q + 1) c5).ownBlock ≠ some gl := by
      rcases hp.at_ with e | e
      · rw [e]; exact hne
      · rw [e]; intro e2; simp at e2; omega
    have cg := kg7.cell
    have fg := kg7.frozen
    have zg := kg7.lt
    clear hne9 mk hp kp kp6 kn6 ho6 kg6 kp7 kg5 ho5 B6 B5 hW6
    go_wp2_with fail
    refine NoPanic.normal ?_
    go_wp2_with fail
    clear cg fg
    have k8 := kg7.set 6 (.slice A5 (q + 1) c5)
    simp only [List.setIfInBounds_toArray, List.set_cons_zero, List.set_cons_succ] at k8
    have ho8 := own_set ho7.out kg7 (by decide) 6 (.slice A5 (q + 1) c5)
    have B8 : Bl w (w7.setCell ⟨gl, 6, none⟩ (.slice A5 (q + 1) c5)) := Below.setCell B7 hzl _
    generalize w7.setCell ⟨gl, 6, none⟩ (.slice A5 (q + 1) c5) = W8 at *
    have hu4 : 4 ≤ U2 := by rw [← hP2]; unfold up4; omega
    have hk8 : KeepF (· < w.heap.size) wr W8 := fun k hF _ => (B8.block k hF).trans (hb.block k hF).symm
    have r8 := (R.out.keepF HA1.out hk8).cut U2 n' (by omega) (Nat.le_refl _)
    have es : sub l' U2 n' = l'.drop U2 := by rw [← hlen']; simp [sub]
    rw [es] at r8
    have hbd : By (l'.drop U2) := by rw [← es]; exact HB1.out.sub _ _
    have hpc : (prmC A' c' l').toList = [.int .u16 P0, .int .u16 P1, .int .i64 (U2 : Nat), .slice A3 (V2 - 4) (c' - 4)] := by unfold prmC; rw [hP0, hP1, hP4, hP2, hP3]
    have hE := HE.out
    rw [hpc, ← List.append_assoc] at hE
    refine ⟨Lib.hid ⟨cutA A' c' U2, n' - U2, c' - U2, l'.drop U2, _, q + 1, _, rfl, r8, hbd, cutA_inF HA1.out (fun _ => by omega), by omega, HFq.out, k8, ho8, hne7, B8, hE⟩, by simp only; omega⟩
end Go.Proofs.Ytoljdgfbkebgcaa
namespace Go.Proofs.Ytoljdgfbkebgcaa
open Go.RowKit
set_option linter.unusedVariables false
theorem ud126 : Try.prog.underlying 126 = some (.slice 129) := by kernel_rfl
theorem info129 : (Try.prog.info? 129).map (fun i => (i.zero, i.size, i.bytes)) = some (some (.agg #[.int .u16 0, .int .u16 0, .int .i64 0, .slice none 0 0]), 4, 40) := by kernel_rfl
set_option maxHeartbeats 4000000 in
set_option maxRecDepth 100000 in
theorem decErr_any (A : Option Addr) (n c gk : Nat) (l : List Int) (w : World) (h : Rd .u8 w A n c l) (hl : By l) (h4 : 4 ≤ chL l) (hn : up4 (chL l) ≤ n) (h0 : l.getD 0 0 ≠ 0) (hn2 : n ≤ 2000) (hf : fullOf (sub l 4 (chL l)) = true) (x : Value) (k : Blk w gk #[x] 164) :
    Calls Try.prog 82 #[.slice A n c, .iface 162 (.pointer (some ⟨gk, 0, none⟩))] w fun e w' => e = .returned .nilIface ∧ ∃ gl v q, Kept w w' gk 125 128 gl ((chk A n c l).push v) ∧ w'.ownsRow w.heap.size 129 4 v q (prmCells (cutA A c 4) (c - 4) (sub l 4 (chL l))) := by
  have hk := k.lt
  have hcap := h.cap
  have hVn : chL l ≤ n := by unfold up4 at hn; omega
  have s1 := run_cutu A n c 4 (chL l) 4 (be (sub l 2 4)) rfl (chL_int l hl) h4 (by omega) 24 Try.underlying24 size5
  have H := Lib.hid h
  have HB := Lib.hid hl
  have H0 := Lib.hid h0
  have HR := Lib.hid (h.cut 4 (chL l) h4 hVn)
  have HF := Lib.hid hf
  clear h hl h0 hf
  go_enter Try.func82, Try.ntmps82
  go_wp2_with fail
  (with_reducible refine (chunk_any _ _ _ _ _ H.out HB.out h4 hn H0.out (by omega)).mono ?_)
  rintro e w1 ⟨rfl, hb1⟩
  have k1 := Blk.keep hb1 k
  have z1 := k1.lt
  unfold chk
  generalize G0 : l.getD 0 0 = x0 at *
  generalize G1 : l.getD 1 0 = x1 at *
  generalize G2 : be (sub l 2 4) = L at *
  generalize G3 : up4 (chL l) = U at *
  generalize G4 : chL l = V at *
  go_wp2_with fail
  have B2 : Bl w ((w1.alloc (.cells #[.slice A U c, .slice (cutA A c U) (n - U) (c - U), .int .u8 x0, .int .u8 x1, .int .u16 L, .int .i64 U] 100)).alloc (.cells #[.slice A U c, .slice (cutA A c U) (n - U) (c - U), .int .u8 x0, .int .u8 x1, .int .u16 L, .int .i64 U, .slice none 0 0] 128)) := Bl.trans hb1 (by go_grown)
  have kl := Blk.newAt (w1.alloc (.cells #[.slice A U c, .slice (cutA A c U) (n - U) (c - U), .int .u8 x0, .int .u8 x1, .int .u16 L, .int .i64 U] 100)) #[.slice A U c, .slice (cutA A c U) (n - U) (c - U), .int .u8 x0, .int .u8 x1, .int .u16 L, .int .i64 U, .slice none 0 0] 128 (w1.heap.size + 1) (by simp)
  have hz : gk < w1.heap.size + 1 := by omega
  have hzl : w.heap.size ≤ w1.heap.size + 1 := by have := hb1.size; omega
  generalize ((w1.alloc (.cells #[.slice A U c, .slice (cutA A c U) (n - U) (c - U), .int .u8 x0, .int .u8 x1, .int .u16 L, .int .i64 U] 100)).alloc (.cells #[.slice A U c, .slice (cutA A c U) (n - U) (c - U), .int .u8 x0, .int .u8 x1, .int .u16 L, .int .i64 U, .slice none 0 0] 128)) = W at *
  generalize w1.heap.size + 1 = gl at *
  have kgl := kl.lt
  have hB2 := B2.size
  go_loopw [8] (fun b wr => Hid (∃ (A' : Option Addr) (n' c' : Nat) (l' : List Int) (v : Value) (q : Nat) (vs : List Value), b = .slice A' n' c' ∧ Rd .u8 wr A' n' c' l' ∧ By l' ∧ InF (· < w.heap.size) A' n' ∧ n' + q ≤ n ∧ fullOf l' = true ∧ Blk wr gl #[.slice A U c, .slice (cutA A c U) (n - U) (c - U), .int .u8 x0, .int .u8 x1, .int .u16 L, .int .i64 U, v] 128 ∧ wr.ownsRow w.heap.size 129 4 v q vs ∧ v.ownBlock ≠ some gl ∧ Bl w wr ∧ prmCells (cutA A c 4) (c - 4) (sub l 4 V) = vs ++ prmCells A' c' l')) (fun b _ => match b with | .slice _ n _ => n | _ => 0)
  case atStart => exact Lib.hid ⟨_, _, _, _, _, 0, [], rfl, HR.out.below B2, HB.out.sub _ _, cutA_inF H.out.inF (fun _ => by omega), by omega, HF.out, kl, World.ownsRow_nil _ _ _ _, by simp [Value.ownBlock], B2, by simp⟩
  case round =>
    obtain ⟨A', n', c', l', v, q, vs, rfl, h, hl, hA, hnn, hfu, kv, ho, hne, hb, he⟩ := hrel.out
    clear hrel
    have hcap' := h.cap
    have hlen' := h.len
    obtain ⟨A4, c4, rfl⟩ := ownsRow_form ho
    by_cases h0 : n' = 0
    · have HE := Lib.hid (he.trans (by rw [prmCells_nil _ _ _ (by omega), List.append_nil]))
      have k2 := Blk.keep hb k
      have HO := Lib.hid ho
      have KV := Lib.hid kv
      subst h0
      clear h hl he ho kv hfu kl
      go_wp2_with fail
      (with_reducible refine (addLayer_any _ _ _ _ _ k2).mono ?_)
      rintro e w3 ⟨rfl, rfl⟩
      go_wp2_with fail
      go_ret
      subst_vars
      exact ⟨rfl, gl, _, q, ⟨(Below.ofBl hb (Nat.le_of_lt hk)).setCell (Nat.le_refl _) _, k2.set 0 _, KV.out.far (Nat.ne_of_gt hz) _⟩, own_set HO.out k2 (by decide) 0 _⟩
    have h0' : (0 : Int) < (n' : Int) := by omega
    obtain ⟨p4, pc, pl, pq⟩ := fullOf_step l' (by omega) hfu
    have HE := Lib.hid (he.trans (by rw [prmCells_cons _ _ _ (by omega) hfu]))
    have HFq := Lib.hid pq
    have R := Lib.hid h
    have HB1 := Lib.hid hl
    have HA1 := Lib.hid hA
    have HO := Lib.hid ho
    have KV := Lib.hid kv
    have s2 := run_cut_l A' n' c' (up4 (chL l')) _ rfl (by omega) 24 Try.underlying24 size5
    have hpc : chL l' ≤ n' := by unfold up4 at pl; omega
    clear h hl he ho kv hfu hA pq kl
    go_wp2_with fail
    (with_reducible refine (decPrm_any _ _ _ _ _ R.out HB1.out (by omega) pc hpc).mono ?_)
    rintro e w4 ⟨rfl, hb4⟩
    unfold prmC
    go_wp2_with fail
    generalize hP0 : be (sub l' 0 2) = P0 at *
    generalize hP1 : be (sub l' 2 4) = P1 at *
    generalize hP2 : up4 (chL l') = U2 at *
    generalize hP3 : cutA A' c' 4 = A3 at *
    generalize hP4 : chL l' = V2 at *
    have kp : Blk (w4.alloc (.cells #[.int .u16 P0, .int .u16 P1, .int .i64 (U2 : Nat), .slice A3 (V2 - 4) (c' - 4)] 129)) w4.heap.size #[.int .u16 P0, .int .u16 P1, .int .i64 (U2 : Nat), .slice A3 (V2 - 4) (c' - 4)] 129 := Blk.new _ _ _
    have B5 : Bl wr (w4.alloc (.cells #[.int .u16 P0, .int .u16 P1, .int .i64 (U2 : Nat), .slice A3 (V2 - 4) (c' - 4)] 129)) := Bl.trans hb4 (by go_grown)
    have kg5 := Blk.keep B5 KV.out
    have ho5 := own_bl HO.out B5
    have hsz4 := hb4.size
    have hszr := hb.size
    have hglr : gl < wr.heap.size := KV.out.lt
    generalize hg9 : w4.heap.size = g9 at *
    generalize w4.alloc (.cells #[.int .u16 P0, .int .u16 P1, .int .i64 (U2 : Nat), .slice A3 (V2 - 4) (c' - 4)] 129) = W5 at *
    have q0 : ∀ p : HoldT (Prm9 gl g9 A4 A3 q c4 U2 V2 c' P0 P1), p.val.cell? ⟨gl, 6, none⟩ = some (.slice A4 q c4) := fun p => p.ok.1
    have q1 : ∀ p : HoldT (Prm9 gl g9 A4 A3 q c4 U2 V2 c' P0 P1), p.val.cell? ⟨g9, 0, none⟩ = some (.int .u16 P0) := fun p => p.ok.2.1
    have q2 : ∀ p : HoldT (Prm9 gl g9 A4 A3 q c4 U2 V2 c' P0 P1), p.val.cell? ⟨g9, 1, none⟩ = some (.int .u16 P1) := fun p => p.ok.2.2.1
    have q3 : ∀ p : HoldT (Prm9 gl g9 A4 A3 q c4 U2 V2 c' P0 P1), p.val.cell? ⟨g9, 2, none⟩ = some (.int .i64 (U2 : Nat)) := fun p => p.ok.2.2.2.1
    have q4 : ∀ p : HoldT (Prm9 gl g9 A4 A3 q c4 U2 V2 c' P0 P1), p.val.cell? ⟨g9, 3, none⟩ = some (.slice A3 (V2 - 4) (c' - 4)) := fun p => p.ok.2.2.2.2
    have mk : ∀ {V : World}, Blk V gl #[.slice A U c, .slice (cutA A c U) (n - U) (c - U), .int .u8 x0, .int .u8 x1, .int .u16 L, .int .i64 U, .slice A4 q c4] 128 → Blk V g9 #[.int .u16 P0, .int .u16 P1, .int .i64 (U2 : Nat), .slice A3 (V2 - 4) (c' - 4)] 129 → HoldS (Prm9 gl g9 A4 A3 q c4 U2 V2 c' P0 P1) V := fun k1 k2 => HoldS.of ⟨k1.cell 6, k2.cell 0, k2.cell 1, k2.cell 2, k2.cell 3⟩
    haveI hne9 : Nonempty (HoldT (Prm9 gl g9 A4 A3 q c4 U2 V2 c' P0 P1)) := ⟨⟨W5, kg5.cell 6, kp.cell 0, kp.cell 1, kp.cell 2, kp.cell 3⟩⟩
    refine wp_region_float (S := HoldS (Prm9 gl g9 A4 A3 q c4 U2 V2 c' P0 P1)) [true, true, true, true, true, true, false, false, false, false, false] 8 (by kernel_rfl) (by kernel_rfl) (mk (kg5.same rfl) (kp.same rfl)) ?_
    simp only [selQ, selN, earlyN]
    repeat (first | go_big_quiet_skip | (go_big_quiet_want; go_big_quiet_op; go_big_quiet_on))
    refine wpQuiet_nil ?_
    clear q0 q1 q2 q3 q4 s2 s1
    have kg6 : Blk ((W5.alloc (.cells #[.int .u16 P0, .int .u16 P1, .int .i64 (U2 : Nat), .slice A3 (V2 - 4) (c' - 4)] 129)).drew) gl #[.slice A U c, .slice (cutA A c U) (n - U) (c - U), .int .u8 x0, .int .u8 x1, .int .u16 L, .int .i64 U, .slice A4 q c4] 128 := (kg5.alloc _).same rfl
    have kp6 : Blk ((W5.alloc (.cells #[.int .u16 P0, .int .u16 P1, .int .i64 (U2 : Nat), .slice A3 (V2 - 4) (c' - 4)] 129)).drew) g9 #[.int .u16 P0, .int .u16 P1, .int .i64 (U2 : Nat), .slice A3 (V2 - 4) (c' - 4)] 129 := (kp.alloc _).same rfl
    have kn6 : Blk ((W5.alloc (.cells #[.int .u16 P0, .int .u16 P1, .int .i64 (U2 : Nat), .slice A3 (V2 - 4) (c' - 4)] 129)).drew) W5.heap.size #[.int .u16 P0, .int .u16 P1, .int .i64 (U2 : Nat), .slice A3 (V2 - 4) (c' - 4)] 129 := (Blk.new W5 _ _).same rfl
    have ho6 : ((W5.alloc (.cells #[.int .u16 P0, .int .u16 P1, .int .i64 (U2 : Nat), .slice A3 (V2 - 4) (c' - 4)] 129)).drew).ownsRow w.heap.size 129 4 (.slice A4 q c4) q vs := own_bl ho5 ((show Bl W5 (W5.alloc (.cells #[.int .u16 P0, .int .u16 P1, .int .i64 (U2 : Nat), .slice A3 (V2 - 4) (c' - 4)] 129)) by go_grown).drew)
    have B6 : Bl wr ((W5.alloc (.cells #[.int .u16 P0, .int .u16 P1, .int .i64 (U2 : Nat), .slice A3 (V2 - 4) (c' - 4)] 129)).drew) := B5.trans ((show Bl W5 (W5.alloc (.cells #[.int .u16 P0, .int .u16 P1, .int .i64 (U2 : Nat), .slice A3 (V2 - 4) (c' - 4)] 129)) by go_grown).drew)
    refine wpN_want rfl (fun K hK => ?_)
    go_big_op
    refine hK _ _ (mk kg6 kp6) ?_
    clear hK K
    refine wpN_if rfl (fun K hK => ?_)
    generalize hW6 : (W5.alloc (.cells #[.int .u16 P0, .int .u16 P1, .int .i64 (U2 : Nat), .slice A3 (V2 - 4) (c' - 4)] 129)).drew = W6 at *
    refine step_app rfl _ _ 126 129 (.agg #[.int .u16 0, .int .u16 0, .int .i64 0, .slice none 0 0]) 4 40 w.heap.size rfl ud126 info129 rfl (by decide) (by decide) (.slice A4 q c4) q vs (some ⟨W5.heap.size, 0, none⟩) 1 1 [.int .u16 P0, .int .u16 P1, .int .i64 (U2 : Nat), .slice A3 (V2 - 4) (c' - 4)] rfl rfl ho6 (Blk.src kn6 1 4 rfl (by simp [Value.oneCell'])) (by omega) (Nat.le_trans hszr B6.size) ?_
    intro A5 c5 w7 hp
    have hown : ∀ k, (Value.slice A4 q c4).ownBlock = some k → w.heap.size ≤ k ∧ k < wr.heap.size := fun k hk => HO.out.lt k hk
    have kg7 : Blk w7 gl #[.slice A U c, .slice (cutA A c U) (n - U) (c - U), .int .u8 x0, .int .u8 x1, .int .u16 L, .int .i64 U, .slice A4 q c4] 128 := ⟨(hp.grown.block gl kg6.lt (fun e => hne e.symm)).trans kg6.heap⟩
    have kp7 : Blk w7 g9 #[.int .u16 P0, .int .u16 P1, .int .i64 (U2 : Nat), .slice A3 (V2 - 4) (c' - 4)] 129 := ⟨(hp.grown.block g9 kp6.lt (fun e => by have := hown _ e.symm; omega)).trans kp6.heap⟩
    refine hK _ _ (mk kg7 kp7) ?_
    clear hK K
    refine wpN_late ?_
    have B7 : Bl w w7 := hp.bl ho6 (hb.trans B6)
    have ho7 := Lib.hid hp.own
    have hgl6 := kg6.lt
    have hne7 : (Value.slice A5 (q + 1) c5).ownBlock ≠ some gl := by
      rcases hp.at_ with e | e
      · rw [e]; exact hne
      · rw [e]; intro e2; simp at e2; omega
    have cg := kg7.cell
    have fg := kg7.frozen
    have zg := kg7.lt
    clear hne9 mk hp kp kp6 kn6 ho6 kg6 kp7 kg5 ho5 B6 B5 hW6
    go_wp2_with fail
    refine NoPanic.normal ?_
    go_wp2_with fail
    clear cg fg
    have k8 := kg7.set 6 (.slice A5 (q + 1) c5)
    simp only [List.setIfInBounds_toArray, List.set_cons_zero, List.set_cons_succ] at k8
    have ho8 := own_set ho7.out kg7 (by decide) 6 (.slice A5 (q + 1) c5)
    have B8 : Bl w (w7.setCell ⟨gl, 6, none⟩ (.slice A5 (q + 1) c5)) := Below.setCell B7 hzl _
    generalize w7.setCell ⟨gl, 6, none⟩ (.slice A5 (q + 1) c5) = W8 at *
    have hu4 : 4 ≤ U2 := by rw [← hP2]; unfold up4; omega
    have hk8 : KeepF (· < w.heap.size) wr W8 := fun k hF _ => (B8.block k hF).trans (hb.block k hF).symm
    have r8 := (R.out.keepF HA1.out hk8).cut U2 n' (by omega) (Nat.le_refl _)
    have es : sub l' U2 n' = l'.drop U2 := by rw [← hlen']; simp [sub]
    rw [es] at r8
    have hbd : By (l'.drop U2) := by rw [← es]; exact HB1.out.sub _ _
    have hpc : (prmC A' c' l').toList = [.int .u16 P0, .int .u16 P1, .int .i64 (U2 : Nat), .slice A3 (V2 - 4) (c' - 4)] := by unfold prmC; rw [hP0, hP1, hP4, hP2, hP3]
    have hE := HE.out
    rw [hpc, ← List.append_assoc] at hE
    refine ⟨Lib.hid ⟨cutA A' c' U2, n' - U2, c' - U2, l'.drop U2, _, q + 1, _, rfl, r8, hbd, cutA_inF HA1.out (fun _ => by omega), by omega, HFq.out, k8, ho8, hne7, B8, hE⟩, by simp only; omega⟩
end Go.Proofs.Ytoljdgfbkebgcaa
namespace Go.Proofs.Ytoljdgfbkebgcaa
open Go.RowKit
set_option linter.unusedVariables false
set_option maxHeartbeats 1000000 in
theorem decHea_short (A : Option Addr) (n c : Nat) (l : List Int) (w : World) (h : Rd .u8 w A n c l) (hl : By l) (h4 : 4 ≤ n) (hL : chL l < 4) (v : Value) :
    Calls Try.prog 81 #[.slice A n c, v] w fun e w' => (∃ u, e = .returned (.iface 167 u)) ∧ Bl w w' := by
  have H := Lib.hid h
  have HB := Lib.hid hl
  clear h hl
  go_enter Try.func81, Try.ntmps81
  go_wp2_with fail
  (with_reducible refine (chunk_short _ _ _ _ _ H.out HB.out h4 hL).mono ?_)
  rintro e w1 ⟨⟨u, rfl⟩, hb1⟩
  go_wp2_with fail
  go_ret
  exact ⟨⟨_, rfl⟩, Bl.trans hb1 (by go_grown)⟩
set_option maxHeartbeats 1000000 in
theorem decErr_short (A : Option Addr) (n c : Nat) (l : List Int) (w : World) (h : Rd .u8 w A n c l) (hl : By l) (h4 : 4 ≤ n) (hL : chL l < 4) (v : Value) :
    Calls Try.prog 82 #[.slice A n c, v] w fun e w' => (∃ u, e = .returned (.iface 167 u)) ∧ Bl w w' := by
  have H := Lib.hid h
  have HB := Lib.hid hl
  clear h hl
  go_enter Try.func82, Try.ntmps82
  go_wp2_with fail
  (with_reducible refine (chunk_short _ _ _ _ _ H.out HB.out h4 hL).mono ?_)
  rintro e w1 ⟨⟨u, rfl⟩, hb1⟩
  go_wp2_with fail
  go_ret
  exact ⟨⟨_, rfl⟩, Bl.trans hb1 (by go_grown)⟩
end Go.Proofs.Ytoljdgfbkebgcaa
namespace Go.Proofs.Ytoljdgfbkebgcaa
open Go.RowKit
set_option linter.unusedVariables false
set_option maxHeartbeats 1000000 in
theorem decShu_any (A : Option Addr) (n c gk : Nat) (l : List Int) (w : World) (h : Rd .u8 w A n c l) (hl : By l) (h4 : 4 ≤ chL l) (hn : up4 (chL l) ≤ n) (h0 : l.getD 0 0 ≠ 0) (hn2 : n ≤ 2147483647) (h8 : 8 ≤ n) (x : Value) (k : Blk w gk #[x] 164) :
    Calls Try.prog 83 #[.slice A n c, .iface 162 (.pointer (some ⟨gk, 0, none⟩))] w fun e w' => e = .returned .nilIface ∧ ∃ gl, Kept w w' gk 130 132 gl ((chk A n c l).push (.int .u32 (be (sub l 4 8)))) := by
  have hk := k.lt
  have s1 := run_cut A n c 4 8 4 8 rfl rfl (by omega) (by have := h.cap; omega) 24 Try.underlying24 size5
  have R1 := Lib.hid (h.cutm 4 8 4 (by omega) (by omega))
  have H := Lib.hid h
  have HB := Lib.hid hl
  have H0 := Lib.hid h0
  clear h hl h0
  go_enter Try.func83, Try.ntmps83
  go_wp2_with fail
  (with_reducible refine (chunk_any _ _ _ _ _ H.out HB.out h4 hn H0.out hn2).mono ?_)
  rintro e w1 ⟨rfl, hb1⟩
  have k1 := Blk.keep hb1 k
  have z1 := k1.lt
  unfold chk
  generalize G0 : l.getD 0 0 = x0 at *
  generalize G1 : l.getD 1 0 = x1 at *
  generalize G2 : be (sub l 2 4) = L at *
  generalize G3 : up4 (chL l) = U at *
  go_wp2_with fail
  go_region_with (go_at_call 90; (with_reducible refine (be32_any _ _ _ _ (R1.out.below (Bl.trans hb1 (by go_grown))) (HB.out.sub 4 8)).mono ?_); rintro e w2 ⟨rfl, hb2⟩; have kc := Blk.keep hb2 (Blk.same (Blk.new w1 _ _) rfl); have cc := kc.cell; have B1 : Bl w w2 := Bl.trans (Bl.trans hb1 (by go_grown)) hb2)
  all_goals
    generalize G5 : be (sub l 4 8) = Y at *
    have k1b := Blk.keep B1 k
    have z1b := k1b.lt
    go_wp2_with fail
    have B2 : Bl w (w2.alloc (.cells #[.slice A U c, .slice (cutA A c U) (n - U) (c - U), .int .u8 x0, .int .u8 x1, .int .u16 L, .int .i64 U, .int .u32 Y] 132)) := Bl.trans B1 (by go_grown)
    have k2 := Blk.keep B2 k
    have kl := Blk.newAt w2 #[.slice A U c, .slice (cutA A c U) (n - U) (c - U), .int .u8 x0, .int .u8 x1, .int .u16 L, .int .i64 U, .int .u32 Y] 132 w2.heap.size rfl
    have hz : gk < w2.heap.size := by omega
    generalize (w2.alloc (.cells #[.slice A U c, .slice (cutA A c U) (n - U) (c - U), .int .u8 x0, .int .u8 x1, .int .u16 L, .int .i64 U, .int .u32 Y] 132)) = W at *
    (with_reducible refine (addLayer_any _ _ _ _ _ k2).mono ?_)
    rintro e w3 ⟨rfl, rfl⟩
    go_wp2_with fail
    go_ret
    subst_vars
    exact ⟨rfl, w2.heap.size, (Below.ofBl B2 (Nat.le_of_lt hk)).setCell (Nat.le_refl _) _, k2.set 0 _, kl.far (Nat.ne_of_gt hz) _⟩
set_option maxHeartbeats 1000000 in
theorem decShu_short (A : Option Addr) (n c : Nat) (l : List Int) (w : World) (h : Rd .u8 w A n c l) (hl : By l) (h4 : 4 ≤ n) (hL : chL l < 4) (v : Value) :
    Calls Try.prog 83 #[.slice A n c, v] w fun e w' => (∃ u, e = .returned (.iface 167 u)) ∧ Bl w w' := by
  have H := Lib.hid h
  have HB := Lib.hid hl
  clear h hl
  go_enter Try.func83, Try.ntmps83
  go_wp2_with fail
  (with_reducible refine (chunk_short _ _ _ _ _ H.out HB.out h4 hL).mono ?_)
  rintro e w1 ⟨⟨u, rfl⟩, hb1⟩
  go_wp2_with fail
  go_ret
  exact ⟨⟨_, rfl⟩, Bl.trans hb1 (by go_grown)⟩
end Go.Proofs.Ytoljdgfbkebgcaa
