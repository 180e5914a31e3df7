/- The taker: a chunk's head, bytes, whether all was taken. -/
import Derived.Test.YtoljdgfbkebgcaaTake
import Derived.Test.YtoljdgfbkebgcaaApp
import Derived.Test.YtoljdgfbkebgcaaFlo
namespace Go.Proofs.Ytoljdgfbkebgcaa
open Go.RowKit
set_option maxHeartbeats 2000000 in
theorem chunkT (gt : Nat) (A0 : Option Addr) (n0 c0 : Nat) (v1 v2 v3 : Value) (d : Int) (ls : Bool) (l : List Int) (x0 x1 L U : Int) (w : World) (k : Blk w gt (tkC A0 n0 c0 v1 v2 v3 0 d ls) 89) (h : Rd .u64 w A0 n0 c0 l) (hne : InF (· < gt) A0 n0) (hi : 4 ≤ n0) (hn : n0 ≤ 1000)
    (e0 : l.getD 0 0 = x0) (e1 : l.getD 1 0 = x1) (e2 : l.getD 2 0 = L) (e3 : l.getD 3 0 = U) (b0 : 0 ≤ x0 ∧ x0 ≤ 255) (b1 : 0 ≤ x1 ∧ x1 ≤ 255) (b2 : 0 ≤ L ∧ L ≤ 65535) (b3 : 0 ≤ U ∧ U ≤ 4294967295) :
    Calls Try.prog 56 #[.pointer (some ⟨gt, 0, none⟩)] w fun e w' => e = .returned (.agg #[.slice none 0 0, .slice none 0 0, .int .u8 x0, .int .u8 x1, .int .u16 L, .int .i64 U]) ∧ Chg gt w w' ∧ Blk w' gt (tkC A0 n0 c0 v1 v2 v3 4 d ls) 89 := by
  have HN : Hid (InF (· ≠ gt) A0 n0) := Lib.hid (hne.mono fun _ h => Nat.ne_of_lt h)
  have H := Lib.hid h
  have K := Lib.hid k
  have E0 := Lib.hid e0
  have E1 := Lib.hid e1
  have E2 := Lib.hid e2
  have E3 := Lib.hid e3
  have kz := k.lt
  clear h k hne e0 e1 e2 e3
  go_enter Try.func56, Try.ntmps56
  go_wp2_with fail
  have r0 := Blk.new w #[.slice none 0 0, .slice none 0 0, .int .u8 0, .int .u8 0, .int .u16 0, .int .i64 0] 100
  have X0 : Chg gt w (w.alloc (.cells #[.slice none 0 0, .slice none 0 0, .int .u8 0, .int .u8 0, .int .u16 0, .int .i64 0] 100)) := Chg.of (by go_grown)
  have k0 := K.out.alloc (.cells #[.slice none 0 0, .slice none 0 0, .int .u8 0, .int .u8 0, .int .u16 0, .int .i64 0] 100)
  generalize w.alloc (.cells #[.slice none 0 0, .slice none 0 0, .int .u8 0, .int .u8 0, .int .u16 0, .int .i64 0] 100) = W0 at *
  generalize hgr : w.heap.size = gr at *
  have hrt : gr ≠ gt := by omega
  (with_reducible refine (take8 gt A0 n0 c0 v1 v2 v3 0 _ d ls _ _ _ k0 (H.out.chg X0 HN.out) HN.out (by simp) (by omega) hn E0.out b0.1 b0.2).mono ?_)
  rintro e w1 ⟨rfl, c1, k1⟩
  have X1 := X0.trans c1
  have r1 := r0.chg c1 hrt
  go_wp2_with fail
  (with_reducible refine (take8 gt A0 n0 c0 v1 v2 v3 1 _ d ls _ _ _ k1 (H.out.chg X1 HN.out) HN.out (by simp) (by omega) hn E1.out b1.1 b1.2).mono ?_)
  rintro e w2 ⟨rfl, c2, k2⟩
  have X2 := X1.trans c2
  have r2 := r1.chg c2 hrt
  go_wp2_with fail
  (with_reducible refine (take16 gt A0 n0 c0 v1 v2 v3 2 _ d ls _ _ _ k2 (H.out.chg X2 HN.out) HN.out (by simp) (by omega) hn E2.out b2.1 b2.2).mono ?_)
  rintro e w3 ⟨rfl, c3, k3⟩
  have X3 := X2.trans c3
  have r3 := r2.chg c3 hrt
  go_wp2_with fail
  (with_reducible refine (take32 gt A0 n0 c0 v1 v2 v3 3 _ d ls _ _ _ k3 (H.out.chg X3 HN.out) HN.out (by simp) (by omega) hn E3.out b3.1 b3.2).mono ?_)
  rintro e w4 ⟨rfl, c4, k4⟩
  have X4 := X3.trans c4
  have r4 := r3.chg c4 hrt
  have K4 := Lib.hid k4
  have cr := r4.cell
  have fr := r4.frozen
  have zr := r4.lt
  clear k0 k1 k2 k3 k4 r0 r1 r2 r3 c1 c2 c3 c4 X0 X1 X2 X3
  go_wp2_with fail
  have XF : Chg gt w ((((((w4.setCell ⟨gr, 0, none⟩ (.slice none 0 0)).setCell ⟨gr, 1, none⟩ (.slice none 0 0)).setCell ⟨gr, 2, none⟩ (.int .u8 x0)).setCell ⟨gr, 3, none⟩ (.int .u8 x1)).setCell ⟨gr, 4, none⟩ (.int .u16 L)).setCell ⟨gr, 5, none⟩ (.int .i64 U)) :=
    (((((X4.new (p := ⟨gr, 0, none⟩) (Nat.le_of_eq hgr) _).new (p := ⟨gr, 1, none⟩) (Nat.le_of_eq hgr) _).new (p := ⟨gr, 2, none⟩) (Nat.le_of_eq hgr) _).new (p := ⟨gr, 3, none⟩) (Nat.le_of_eq hgr) _).new (p := ⟨gr, 4, none⟩) (Nat.le_of_eq hgr) _).new (p := ⟨gr, 5, none⟩) (Nat.le_of_eq hgr) _
  have kf := (((((r4.set 0 (.slice none 0 0)).set 1 (.slice none 0 0)).set 2 (.int .u8 x0)).set 3 (.int .u8 x1)).set 4 (.int .u16 L)).set 5 (.int .i64 U)
  have kt := (((((K4.out.far (p := ⟨gr, 0, none⟩) (Ne.symm hrt) (.slice none 0 0)).far (p := ⟨gr, 1, none⟩) (Ne.symm hrt) (.slice none 0 0)).far (p := ⟨gr, 2, none⟩) (Ne.symm hrt) (.int .u8 x0)).far (p := ⟨gr, 3, none⟩) (Ne.symm hrt) (.int .u8 x1)).far (p := ⟨gr, 4, none⟩) (Ne.symm hrt) (.int .u16 L)).far (p := ⟨gr, 5, none⟩) (Ne.symm hrt) (.int .i64 U)
  have cf := kf.cell
  generalize ((((((w4.setCell ⟨gr, 0, none⟩ (.slice none 0 0)).setCell ⟨gr, 1, none⟩ (.slice none 0 0)).setCell ⟨gr, 2, none⟩ (.int .u8 x0)).setCell ⟨gr, 3, none⟩ (.int .u8 x1)).setCell ⟨gr, 4, none⟩ (.int .u16 L)).setCell ⟨gr, 5, none⟩ (.int .i64 U)) = WF at *
  exact bodyPost_ret (v := .agg #[.slice none 0 0, .slice none 0 0, .int .u8 x0, .int .u8 x1, .int .u16 L, .int .i64 U]) (by simp [results, Try.results56, go_sem, cf]) rfl ⟨rfl, XF, kt⟩
set_option maxHeartbeats 2000000 in
theorem wholeT (gt : Nat) (A0 A1 A2 : Option Addr) (n0 c0 n1 c1 n2 c2 : Nat) (v3 : Value) (i d : Int) (ls : Bool) (w : World) (k : Blk w gt (tkC A0 n0 c0 (.slice A1 n1 c1) (.slice A2 n2 c2) v3 i d ls) 89) (hi : i = n0) (hd : d = n1) (hl : ls = true ∨ n2 = 0) :
    Calls Try.prog 61 #[.pointer (some ⟨gt, 0, none⟩)] w fun e w' => e = .returned (.bool true) ∧ ∃ q, w' = w.drewN q := by
  subst hi hd
  have kc := k.cell
  unfold tkC at kc
  clear k
  rcases hl with rfl | rfl
  · go_enter Try.func61, Try.ntmps61
    go_wp2_with fail
    go_quiet (fail)
    go_wp2_with fail
    go_ret
    exact ⟨rfl, _, rfl⟩
  · cases ls
    · go_enter Try.func61, Try.ntmps61
      go_wp2_with fail
      go_quiet (fail)
      go_wp2_with fail
      go_ret
      exact ⟨rfl, _, rfl⟩
    · go_enter Try.func61, Try.ntmps61
      go_wp2_with fail
      go_quiet (fail)
      go_wp2_with fail
      go_ret
      exact ⟨rfl, _, rfl⟩
/-- The bytes of a layer that has one row of them. -/
theorem bytesT (gt : Nat) (v0 v2 v3 : Value) (g1 n1 c1 : Nat) (o1 : Nat) (i : Int) (A : Option Addr) (n c : Nat) (l : List Int) (ls : Bool) (w : World) (k : Blk w gt #[v0, .slice (some ⟨g1, o1, none⟩) n1 c1, v2, v3, .int .i64 i, .int .i64 0, .bool false, .bool ls] 89) (h1 : 0 < n1) (hg : g1 < gt)
    (hc : w.cell? ⟨g1, o1, none⟩ = some (.slice A n c)) (h : Rd .u8 w A n c l) (hA : InF (· < gt) A n) (hn : n ≤ 2147483647) :
    Calls Try.prog 60 #[.pointer (some ⟨gt, 0, none⟩)] w fun e w' => (∃ A1 c1', e = .returned (.slice A1 n c1') ∧ w'.ownsRow w.heap.size 5 1 (.slice A1 n c1') n (l.map (Value.int .u8))) ∧ Chg gt w w' ∧ Blk w' gt #[v0, .slice (some ⟨g1, o1, none⟩) n1 c1, v2, v3, .int .i64 i, .int .i64 1, .bool false, .bool ls] 89 := by
  have K := Lib.hid k
  have H := Lib.hid h
  have HA := Lib.hid (hA.mono (G := (· ≠ gt)) fun _ h => Nat.ne_of_lt h)
  have hgt := k.lt
  have kc := k.cell
  have kf := k.frozen
  have kz := k.lt
  have h1' : (0 : Int) < (n1 : Int) := by omega
  clear k h hA
  go_enter Try.func60, Try.ntmps60
  go_wp2_with fail
  go_quiet (fail)
  go_wp2_with fail
  have X2 := (Chg.drewN (Chg.refl gt w) nq).set 5 (.int .i64 1)
  have k2 : Blk ((w.drewN nq).setCell ⟨gt, 5, none⟩ (.int .i64 1)) gt #[v0, .slice (some ⟨g1, o1, none⟩) n1 c1, v2, v3, .int .i64 i, .int .i64 1, .bool false, .bool ls] 89 := (K.out.same (w' := w.drewN nq) rfl).set 5 _
  have hc2 : ((w.drewN nq).setCell ⟨gt, 5, none⟩ (.int .i64 1)).cell? ⟨g1, o1, none⟩ = some (.slice A n c) := (World.cell?_of_block (X2.block g1 (Nat.ne_of_lt hg) (Nat.lt_trans hg hgt))).trans hc
  have hsz : ((w.drewN nq).setCell ⟨gt, 5, none⟩ (.int .i64 1)).heap.size = w.heap.size := by simp
  have K2 := Lib.hid k2
  have HSZ := Lib.hid hsz
  clear kc kf kz hc hsz
  generalize (w.drewN nq).setCell ⟨gt, 5, none⟩ (.int .i64 1) = W at *
  have q1 : ∀ d os, (Sort.grow (redrawn W d) os).cell? ⟨gt, 1, none⟩ = some (.slice (some ⟨g1, o1, none⟩) n1 c1) := fun d os => cell_regrown (k2.cell 1) d os
  have q5 : ∀ d os, (Sort.grow (redrawn W d) os).cell? ⟨gt, 5, none⟩ = some (.int .i64 1) := fun d os => cell_regrown (k2.cell 5) d os
  have qd : ∀ d os, (Sort.grow (redrawn W d) os).cell? ⟨g1, o1, none⟩ = some (.slice A n c) := fun d os => cell_regrown hc2 d os
  clear k2 hc2
  refine wp_region_float (S := Grw W) [true, true, true, true, true, true, true, true, true, true, true, true, false, false] 12 (by kernel_rfl) (by kernel_rfl) (Grw.drew W) ?_
  simp only [selQ, selN, earlyN]
  repeat (first | go_big_quiet_skip | (go_big_quiet_want; go_big_quiet_op; go_big_quiet_on))
  refine wpQuiet_nil ?_
  refine wpN_late ?_
  clear q1 q5 qd
  have hW : W.drew.heap.size = w.heap.size := HSZ.out
  have HW := Lib.hid hW
  clear hW
  go_wp2_with fail
  (with_reducible refine (clone_any _ _ _ _ _ ((H.out.chg X2 HA.out).below ((Bl.refl W).drew)) hn).mono ?_)
  rintro e w3 ⟨⟨A1, c1', rfl, ho⟩, hb3⟩
  have ho' : w3.ownsRow w.heap.size 5 1 (.slice A1 n c1') n (l.map (Value.int .u8)) := by rw [HW.out] at ho; exact ho
  have hb3' : Bl W w3 := Bl.trans ((Bl.refl W).drew) hb3
  have HO := Lib.hid ho'
  clear ho ho' hb3
  go_wp2_with fail
  refine NoPanic.normal ?_
  go_wp2_with fail
  go_ret
  exact ⟨⟨_, _, rfl, HO.out⟩, X2.trans (Chg.of hb3'), K2.out.below hb3'⟩
end Go.Proofs.Ytoljdgfbkebgcaa
