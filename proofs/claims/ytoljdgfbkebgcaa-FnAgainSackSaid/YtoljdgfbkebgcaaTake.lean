/- The taker: numbers and truths of a layer, one by one. -/
import Derived.Test.YtoljdgfbkebgcaaLay
namespace Go.Proofs.Ytoljdgfbkebgcaa
open Go.RowKit
/-- Of what was there only block g has changed. -/
structure Chg (g : Nat) (w w' : World) : Prop where
  os : w'.os = w.os
  tape : w'.tape = w.tape
  output : w'.output = w.output
  size : w.heap.size ≤ w'.heap.size
  block : ∀ k, k ≠ g → k < w.heap.size → w'.heap[k]? = w.heap[k]?
theorem Chg.of {g : Nat} {w w' : World} (h : Bl w w') : Chg g w w' := ⟨h.os, h.tape, h.output, h.size, fun k _ hk => h.block k hk⟩
theorem Chg.refl (g : Nat) (w : World) : Chg g w w := .of (Bl.refl w)
theorem Chg.trans {g : Nat} {a b c : World} (h : Chg g a b) (k : Chg g b c) : Chg g a c :=
  ⟨k.os.trans h.os, k.tape.trans h.tape, k.output.trans h.output, Nat.le_trans h.size k.size, fun i hi hk => (k.block i hi (Nat.lt_of_lt_of_le hk h.size)).trans (h.block i hi hk)⟩
theorem Chg.set {g : Nat} {a b : World} (h : Chg g a b) (i : Nat) (u : Value) : Chg g a (b.setCell ⟨g, i, none⟩ u) :=
  ⟨h.os, h.tape, h.output, by simpa using h.size, fun k hk hlt => (Below.heap_setCell b ⟨g, i, none⟩ u k hk).trans (h.block k hk hlt)⟩
theorem Chg.new {g : Nat} {a b : World} (h : Chg g a b) {p : Addr} (hp : a.heap.size ≤ p.block) (u : Value) : Chg g a (b.setCell p u) :=
  ⟨h.os, h.tape, h.output, by simpa using h.size, fun k hk hlt => (Below.heap_setCell b p u k (by omega)).trans (h.block k hk hlt)⟩
theorem Chg.drewN {g : Nat} {a b : World} (h : Chg g a b) (n : Nat) : Chg g a (b.drewN n) := ⟨h.os, h.tape, h.output, h.size, h.block⟩
theorem Chg.below {g B : Nat} {w w' : World} (h : Chg g w w') (hB : B ≤ g) (hs : B ≤ w.heap.size) : Below B w w' :=
  ⟨h.os, h.tape, h.output, h.size, fun k hk => h.block k (Nat.ne_of_lt (Nat.lt_of_lt_of_le hk hB)) (Nat.lt_of_lt_of_le hk hs)⟩
theorem Chg.bl {g : Nat} {a w w' : World} (h : Chg g w w') (hb : Bl a w) (hg : a.heap.size ≤ g) : Bl a w' := Below.trans hb (h.below hg hb.size)
theorem Blk.chg {w w' : World} {g g' : Nat} {cs : Array Value} {T : TypeId} (k : Blk w g' cs T) (h : Chg g w w') (hne : g' ≠ g) : Blk w' g' cs T := ⟨(h.block g' hne k.lt).trans k.heap⟩
theorem Rd.chg {k : IntKind} {w w' : World} {g : Nat} {A : Option Addr} {n c : Nat} {l : List Int} (h : Rd k w A n c l) (hc : Chg g w w') (hne : InF (· ≠ g) A n) : Rd k w' A n c l :=
  ⟨h.len, h.cap, fun i hi => by
    obtain ⟨g', o, e, hcell⟩ := h.cell i hi
    have h1 : g' ≠ g := hne (by omega) _ e
    exact ⟨g', o, e, (World.cell?_of_block (hc.block g' h1 (World.block_lt_of_cell? w _ hcell))).trans hcell⟩⟩
/-- A taker's cells. -/
def tkC (A0 : Option Addr) (n0 c0 : Nat) (v1 v2 v3 : Value) (i d : Int) (lists : Bool) : Array Value := #[.slice A0 n0 c0, v1, v2, v3, .int .i64 i, .int .i64 d, .bool false, .bool lists]
set_option maxHeartbeats 1000000 in
theorem take8 (gt : Nat) (A0 : Option Addr) (n0 c0 : Nat) (v1 v2 v3 : Value) (i : Nat) (i' d : Int) (ls : Bool) (l : List Int) (x : Int) (w : World) (k : Blk w gt (tkC A0 n0 c0 v1 v2 v3 i' d ls) 89) (h : Rd .u64 w A0 n0 c0 l) (hne : InF (· ≠ gt) A0 n0) (ei : i' = i) (hi : i < n0) (hn : n0 ≤ 1000)
    (hx : l.getD i 0 = x) (h0 : 0 ≤ x) (h1 : x ≤ 255) :
    Calls Try.prog 55 #[.pointer (some ⟨gt, 0, none⟩), .int .i64 8] w fun e w' => e = .returned (.int .u64 x) ∧ Chg gt w w' ∧ Blk w' gt (tkC A0 n0 c0 v1 v2 v3 (i' + 1) d ls) 89 := by
  subst ei
  obtain ⟨g, o, rfl, hg, hc⟩ := h.at (by omega)
  have ci := hc i hi
  have hg' : g ≠ gt := hne (by omega) _ rfl
  rw [hx] at ci
  have K := Lib.hid k
  have kc := k.cell
  have kf := k.frozen
  have kz := k.lt
  unfold tkC at kc
  have hs : x / 256 = 0 := by omega
  have hi' : (i : Int) < (n0 : Int) := by omega
  clear h hc k hx hne
  go_enter Try.func55, Try.ntmps55
  go_wp2_with fail
  go_quiet (fail)
  go_wp2_with fail
  have X := Chg.drewN (Chg.refl gt w) nq
  have k2 : Blk ((w.drewN nq).setCell ⟨gt, 4, none⟩ (.int .i64 ((i : Int) + 1))) gt (tkC (some ⟨g, o, none⟩) n0 c0 v1 v2 v3 ((i : Int) + 1) d ls) 89 := (K.out.same (w' := w.drewN nq) rfl).set 4 _
  have X2 := X.set 4 (.int .i64 ((i : Int) + 1))
  have ci2 : ((w.drewN nq).setCell ⟨gt, 4, none⟩ (.int .i64 ((i : Int) + 1))).cell? ⟨g, o + i, none⟩ = some (.int .u64 x) := (World.cell?_of_block (X2.block g hg' hg)).trans ci
  have K2 := Lib.hid k2
  have kc2 := k2.cell
  unfold tkC at kc2
  clear k2 kc kf kz ci X
  generalize (w.drewN nq).setCell ⟨gt, 4, none⟩ (.int .i64 ((i : Int) + 1)) = W at *
  go_quiet (fail)
  go_wp2_with fail
  go_ret
  exact ⟨rfl, X2.drewN _, K2.out.same rfl⟩
set_option maxHeartbeats 1000000 in
theorem take16 (gt : Nat) (A0 : Option Addr) (n0 c0 : Nat) (v1 v2 v3 : Value) (i : Nat) (i' d : Int) (ls : Bool) (l : List Int) (x : Int) (w : World) (k : Blk w gt (tkC A0 n0 c0 v1 v2 v3 i' d ls) 89) (h : Rd .u64 w A0 n0 c0 l) (hne : InF (· ≠ gt) A0 n0) (ei : i' = i) (hi : i < n0) (hn : n0 ≤ 1000)
    (hx : l.getD i 0 = x) (h0 : 0 ≤ x) (h1 : x ≤ 65535) :
    Calls Try.prog 55 #[.pointer (some ⟨gt, 0, none⟩), .int .i64 16] w fun e w' => e = .returned (.int .u64 x) ∧ Chg gt w w' ∧ Blk w' gt (tkC A0 n0 c0 v1 v2 v3 (i' + 1) d ls) 89 := by
  subst ei
  obtain ⟨g, o, rfl, hg, hc⟩ := h.at (by omega)
  have ci := hc i hi
  have hg' : g ≠ gt := hne (by omega) _ rfl
  rw [hx] at ci
  have K := Lib.hid k
  have kc := k.cell
  have kf := k.frozen
  have kz := k.lt
  unfold tkC at kc
  have hs : x / 65536 = 0 := by omega
  have hi' : (i : Int) < (n0 : Int) := by omega
  clear h hc k hx hne
  go_enter Try.func55, Try.ntmps55
  go_wp2_with fail
  go_quiet (fail)
  go_wp2_with fail
  have X := Chg.drewN (Chg.refl gt w) nq
  have k2 : Blk ((w.drewN nq).setCell ⟨gt, 4, none⟩ (.int .i64 ((i : Int) + 1))) gt (tkC (some ⟨g, o, none⟩) n0 c0 v1 v2 v3 ((i : Int) + 1) d ls) 89 := (K.out.same (w' := w.drewN nq) rfl).set 4 _
  have X2 := X.set 4 (.int .i64 ((i : Int) + 1))
  have ci2 : ((w.drewN nq).setCell ⟨gt, 4, none⟩ (.int .i64 ((i : Int) + 1))).cell? ⟨g, o + i, none⟩ = some (.int .u64 x) := (World.cell?_of_block (X2.block g hg' hg)).trans ci
  have K2 := Lib.hid k2
  have kc2 := k2.cell
  unfold tkC at kc2
  clear k2 kc kf kz ci X
  generalize (w.drewN nq).setCell ⟨gt, 4, none⟩ (.int .i64 ((i : Int) + 1)) = W at *
  go_quiet (fail)
  go_wp2_with fail
  go_ret
  exact ⟨rfl, X2.drewN _, K2.out.same rfl⟩
set_option maxHeartbeats 1000000 in
theorem take32 (gt : Nat) (A0 : Option Addr) (n0 c0 : Nat) (v1 v2 v3 : Value) (i : Nat) (i' d : Int) (ls : Bool) (l : List Int) (x : Int) (w : World) (k : Blk w gt (tkC A0 n0 c0 v1 v2 v3 i' d ls) 89) (h : Rd .u64 w A0 n0 c0 l) (hne : InF (· ≠ gt) A0 n0) (ei : i' = i) (hi : i < n0) (hn : n0 ≤ 1000)
    (hx : l.getD i 0 = x) (h0 : 0 ≤ x) (h1 : x ≤ 4294967295) :
    Calls Try.prog 55 #[.pointer (some ⟨gt, 0, none⟩), .int .i64 32] w fun e w' => e = .returned (.int .u64 x) ∧ Chg gt w w' ∧ Blk w' gt (tkC A0 n0 c0 v1 v2 v3 (i' + 1) d ls) 89 := by
  subst ei
  obtain ⟨g, o, rfl, hg, hc⟩ := h.at (by omega)
  have ci := hc i hi
  have hg' : g ≠ gt := hne (by omega) _ rfl
  rw [hx] at ci
  have K := Lib.hid k
  have kc := k.cell
  have kf := k.frozen
  have kz := k.lt
  unfold tkC at kc
  have hs : x / 4294967296 = 0 := by omega
  have hi' : (i : Int) < (n0 : Int) := by omega
  clear h hc k hx hne
  go_enter Try.func55, Try.ntmps55
  go_wp2_with fail
  go_quiet (fail)
  go_wp2_with fail
  have X := Chg.drewN (Chg.refl gt w) nq
  have k2 : Blk ((w.drewN nq).setCell ⟨gt, 4, none⟩ (.int .i64 ((i : Int) + 1))) gt (tkC (some ⟨g, o, none⟩) n0 c0 v1 v2 v3 ((i : Int) + 1) d ls) 89 := (K.out.same (w' := w.drewN nq) rfl).set 4 _
  have X2 := X.set 4 (.int .i64 ((i : Int) + 1))
  have ci2 : ((w.drewN nq).setCell ⟨gt, 4, none⟩ (.int .i64 ((i : Int) + 1))).cell? ⟨g, o + i, none⟩ = some (.int .u64 x) := (World.cell?_of_block (X2.block g hg' hg)).trans ci
  have K2 := Lib.hid k2
  have kc2 := k2.cell
  unfold tkC at kc2
  clear k2 kc kf kz ci X
  generalize (w.drewN nq).setCell ⟨gt, 4, none⟩ (.int .i64 ((i : Int) + 1)) = W at *
  go_quiet (fail)
  go_wp2_with fail
  go_ret
  exact ⟨rfl, X2.drewN _, K2.out.same rfl⟩
set_option maxHeartbeats 1000000 in
theorem take1 (gt : Nat) (A0 : Option Addr) (n0 c0 : Nat) (v1 v2 v3 : Value) (i : Nat) (i' d : Int) (ls : Bool) (l : List Int) (x : Int) (w : World) (k : Blk w gt (tkC A0 n0 c0 v1 v2 v3 i' d ls) 89) (h : Rd .u64 w A0 n0 c0 l) (hne : InF (· ≠ gt) A0 n0) (ei : i' = i) (hi : i < n0) (hn : n0 ≤ 1000)
    (hx : l.getD i 0 = x) (h0 : 0 ≤ x) (h1 : x ≤ 1) :
    Calls Try.prog 55 #[.pointer (some ⟨gt, 0, none⟩), .int .i64 1] w fun e w' => e = .returned (.int .u64 x) ∧ Chg gt w w' ∧ Blk w' gt (tkC A0 n0 c0 v1 v2 v3 (i' + 1) d ls) 89 := by
  subst ei
  obtain ⟨g, o, rfl, hg, hc⟩ := h.at (by omega)
  have ci := hc i hi
  have hg' : g ≠ gt := hne (by omega) _ rfl
  rw [hx] at ci
  have K := Lib.hid k
  have kc := k.cell
  have kf := k.frozen
  have kz := k.lt
  unfold tkC at kc
  have hs : x / 2 = 0 := by omega
  have hi' : (i : Int) < (n0 : Int) := by omega
  clear h hc k hx hne
  go_enter Try.func55, Try.ntmps55
  go_wp2_with fail
  go_quiet (fail)
  go_wp2_with fail
  have X := Chg.drewN (Chg.refl gt w) nq
  have k2 : Blk ((w.drewN nq).setCell ⟨gt, 4, none⟩ (.int .i64 ((i : Int) + 1))) gt (tkC (some ⟨g, o, none⟩) n0 c0 v1 v2 v3 ((i : Int) + 1) d ls) 89 := (K.out.same (w' := w.drewN nq) rfl).set 4 _
  have X2 := X.set 4 (.int .i64 ((i : Int) + 1))
  have ci2 : ((w.drewN nq).setCell ⟨gt, 4, none⟩ (.int .i64 ((i : Int) + 1))).cell? ⟨g, o + i, none⟩ = some (.int .u64 x) := (World.cell?_of_block (X2.block g hg' hg)).trans ci
  have K2 := Lib.hid k2
  have kc2 := k2.cell
  unfold tkC at kc2
  clear k2 kc kf kz ci X
  generalize (w.drewN nq).setCell ⟨gt, 4, none⟩ (.int .i64 ((i : Int) + 1)) = W at *
  go_quiet (fail)
  go_wp2_with fail
  go_ret
  exact ⟨rfl, X2.drewN _, K2.out.same rfl⟩
theorem takeT (gt : Nat) (A0 : Option Addr) (n0 c0 : Nat) (v1 v2 v3 : Value) (i : Nat) (i' d : Int) (ls : Bool) (l : List Int) (x : Int) (w : World) (k : Blk w gt (tkC A0 n0 c0 v1 v2 v3 i' d ls) 89) (h : Rd .u64 w A0 n0 c0 l) (hne : InF (· ≠ gt) A0 n0) (ei : i' = i) (hi : i < n0) (hn : n0 ≤ 1000)
    (hx : l.getD i 0 = x) (h0 : 0 ≤ x) (h1 : x ≤ 1) :
    Calls Try.prog 57 #[.pointer (some ⟨gt, 0, none⟩)] w fun e w' => e = .returned (.bool (x == 1)) ∧ Chg gt w w' ∧ Blk w' gt (tkC A0 n0 c0 v1 v2 v3 (i' + 1) d ls) 89 := by
  have H := Lib.hid (take1 gt A0 n0 c0 v1 v2 v3 i i' d ls l x w k h hne ei hi hn hx h0 h1)
  clear k h hne ei hi hn hx h0 h1
  go_enter Try.func57, Try.ntmps57
  go_wp2_with fail
  (with_reducible refine H.out.mono ?_)
  rintro e w1 ⟨rfl, hc, hk⟩
  go_wp2_with fail
  go_ret
  exact ⟨rfl, hc, hk⟩
end Go.Proofs.Ytoljdgfbkebgcaa
