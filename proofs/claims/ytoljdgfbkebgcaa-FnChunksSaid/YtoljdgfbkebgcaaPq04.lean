/- What is known of a slice of bytes that came in, as a slice that is read. impl.chunk: the numbers of a chunk's head. One row of bytes. sctpshutdownack: its decoder. sctpcookieecho: its decoder. sctpempty: its decoder. A region that draws its order: what only looks is taken first, in the text's order; what acts follows in the one order that is left. -/
import Derived.Test.YtoljdgfbkebgcaaPq01
import Derived.Test.YtoljdgfbkebgcaaPq02
import Derived.Test.YtoljdgfbkebgcaaPq03
import Derived.Still
import Derived.OrdersHeld
import Derived.Deep.Quiet
import Derived.Tactics
import Derived.BigQuiet
import Derived.WalkKit
import Derived.Lib.QuietBelow
import Derived.Deep.RegionHeld3
namespace Go.Proofs.Ytoljdgfbkebgcaa
open Go.RowKit
set_option linter.unusedVariables false
/-- A slice of integers that came in: nil, or a row of 'cap' cells, the first 'len' its elements, each fitting its kind. -/
def IsRow (k : IntKind) (w : World) (a : Option Addr) (len cap : Nat) (zs : List Int) : Prop :=
  (a = none ∧ len = 0 ∧ cap = 0 ∧ zs = []) ∨
  ∃ x, a = some x ∧ len ≤ cap ∧ cap ≤ maxLen ∧ zs.length = cap ∧ (∀ i, i < zs.length → w.cell? (x.add i) = some (.int k (zs.getD i 0))) ∧ ∀ n ∈ zs, (Lit.int k n).wf = true
theorem IsRow.rd {w : World} {a : Option Addr} {len cap : Nat} {zs : List Int} (h : IsRow .u8 w a len cap zs) : Rd .u8 w a len cap (zs.take len) ∧ By (zs.take len) := by
  rcases h with ⟨rfl, rfl, rfl, rfl⟩ | ⟨x, rfl, hl, hm, hz, hc, hw⟩
  · exact ⟨Rd.nil _ _ _ _, By.nil⟩
  · refine ⟨⟨by simp; omega, hl, fun i hi => ?_⟩, fun y hy => ?_⟩
    · obtain ⟨b, off, spot⟩ := x
      have h0 := hc i (by omega)
      have hspot : spot = none := by
        simpa [Addr.add] using World.cell?_spot (hc 0 (by omega))
      subst hspot
      refine ⟨b, off, rfl, ?_⟩
      rw [add_add] at h0
      rw [h0]
      simp [List.getD_eq_getElem?_getD, hi]
    · have := hw y (List.mem_of_mem_take hy)
      simp [Lit.wf, IntKind.min, IntKind.max, IntKind.signed, IntKind.bits] at this
      omega
end Go.Proofs.Ytoljdgfbkebgcaa
namespace Go.Proofs.Ytoljdgfbkebgcaa
open Go.RowKit
set_option linter.unusedVariables false
theorem chunkv_any (A0 A1 : Option Addr) (n0 c0 n1 c1 : Nat) (x0 x1 L U : Int) (w : World) (h0 : 0 ≤ x0 ∧ x0 ≤ 255) (h1 : 0 ≤ x1 ∧ x1 ≤ 255) (h2 : 0 ≤ L ∧ L ≤ 65535) (h3 : 0 ≤ U ∧ U ≤ 2147483647) :
    Calls Try.prog 70 #[.agg #[.slice A0 n0 c0, .slice A1 n1 c1, .int .u8 x0, .int .u8 x1, .int .u16 L, .int .i64 U]] w fun e w' =>
      e = .returned (.slice (some ⟨w.heap.size + 1, 0, none⟩) 4 4) ∧ Bl w w' ∧ Blk w' (w.heap.size + 1) #[.int .u64 x0, .int .u64 x1, .int .u64 L, .int .u64 U] 26 ∧ w'.ownsRow w.heap.size 26 1 (.slice (some ⟨w.heap.size + 1, 0, none⟩) 4 4) 4 ([x0, x1, L, U].map (Value.int .u64)) := by
  go_enter Try.func70, Try.ntmps70
  go_wp2
  have k := Blk.newAt (w.alloc (.cells #[.slice A0 n0 c0, .slice A1 n1 c1, .int .u8 x0, .int .u8 x1, .int .u16 L, .int .i64 U] 100)) #[.int .u64 x0, .int .u64 x1, .int .u64 L, .int .u64 U] 26 (w.heap.size + 1) (by simp)
  go_ret
  exact ⟨rfl, by go_grown, k, rfl, .inr ⟨w.heap.size + 1, 4, _, rfl, by omega, k.heap, Nat.le_refl _, by decide, rfl, rfl⟩⟩
theorem chunkv_g (A0 A1 : Option Addr) (n0 c0 n1 c1 : Nat) (x0 x1 L U : Int) (w : World) (h0 : 0 ≤ x0 ∧ x0 ≤ 255) (h1 : 0 ≤ x1 ∧ x1 ≤ 255) (h2 : 0 ≤ L ∧ L ≤ 65535) (h3 : 0 ≤ U ∧ U ≤ 2147483647) :
    Calls Try.prog 70 #[.agg #[.slice A0 n0 c0, .slice A1 n1 c1, .int .u8 x0, .int .u8 x1, .int .u16 L, .int .i64 U]] w fun e w' =>
      ∃ gn, e = .returned (.slice (some ⟨gn, 0, none⟩) 4 4) ∧ Bl w w' ∧ w'.ownsRow w.heap.size 26 1 (.slice (some ⟨gn, 0, none⟩) 4 4) 4 ([x0, x1, L, U].map (Value.int .u64)) :=
  (chunkv_any A0 A1 n0 c0 n1 c1 x0 x1 L U w h0 h1 h2 h3).mono fun _ _ ⟨h, hb, _, ho⟩ => ⟨_, h, hb, ho⟩
end Go.Proofs.Ytoljdgfbkebgcaa
namespace Go.Proofs.Ytoljdgfbkebgcaa
open Go.RowKit
set_option linter.unusedVariables false
theorem DataV.one {F : Nat → Prop} {w : World} {g : Nat} {v : Value} {T : TypeId} {d : List Int} (k : Blk w g #[v] T) (hF : F g) (hv : BytV F w v d) : DataV F w (.slice (some ⟨g, 0, none⟩) 1 1) [d] := by
  refine ⟨_, _, rfl, Nat.le_refl _, fun _ x hx => by simp at hx; subst hx; exact hF, fun i hi => ?_⟩
  have h0 : i = 0 := by simpa using hi
  subst h0
  exact ⟨g, 0, v, rfl, by simpa using k.cell 0, hv⟩
end Go.Proofs.Ytoljdgfbkebgcaa
namespace Go.Proofs.Ytoljdgfbkebgcaa
open Go.RowKit
set_option linter.unusedVariables false
set_option maxHeartbeats 1000000 in
theorem decAck_any (A : Option Addr) (n c gk : Nat) (l : List Int) (w : World) (h : Rd .u8 w A n c l) (hl : By l) (h4 : 4 ≤ chL l) (hn : up4 (chL l) ≤ n) (h0 : l.getD 0 0 ≠ 0) (hn2 : n ≤ 2147483647) (x : Value) (k : Blk w gk #[x] 164) :
    Calls Try.prog 84 #[.slice A n c, .iface 162 (.pointer (some ⟨gk, 0, none⟩))] w fun e w' => e = .returned .nilIface ∧ ∃ gl, Kept w w' gk 133 135 gl (chk A n c l) := by
  have hk := k.lt
  have H := Lib.hid h
  have HB := Lib.hid hl
  have H0 := Lib.hid h0
  clear h hl h0
  go_enter Try.func84, Try.ntmps84
  go_wp2_with fail
  (with_reducible refine (chunk_any _ _ _ _ _ H.out HB.out h4 hn H0.out hn2).mono ?_)
  rintro e w1 ⟨rfl, hb1⟩
  have k1 := Blk.keep hb1 k
  have z1 := k1.lt
  unfold chk
  generalize G0 : l.getD 0 0 = x0 at *
  generalize G1 : l.getD 1 0 = x1 at *
  generalize G2 : be (sub l 2 4) = L at *
  generalize G3 : up4 (chL l) = U at *
  go_wp2_with fail
  have B2 : Bl w ((w1.alloc (.cells #[.slice A U c, .slice (cutA A c U) (n - U) (c - U), .int .u8 x0, .int .u8 x1, .int .u16 L, .int .i64 U] 100)).alloc (.cells #[.slice A U c, .slice (cutA A c U) (n - U) (c - U), .int .u8 x0, .int .u8 x1, .int .u16 L, .int .i64 U] 135)) := Bl.trans hb1 (by go_grown)
  have k2 := Blk.keep B2 k
  have kl := Blk.newAt (w1.alloc (.cells #[.slice A U c, .slice (cutA A c U) (n - U) (c - U), .int .u8 x0, .int .u8 x1, .int .u16 L, .int .i64 U] 100)) #[.slice A U c, .slice (cutA A c U) (n - U) (c - U), .int .u8 x0, .int .u8 x1, .int .u16 L, .int .i64 U] 135 (w1.heap.size + 1) (by simp)
  have hz : gk < w1.heap.size + 1 := by omega
  generalize ((w1.alloc (.cells #[.slice A U c, .slice (cutA A c U) (n - U) (c - U), .int .u8 x0, .int .u8 x1, .int .u16 L, .int .i64 U] 100)).alloc (.cells #[.slice A U c, .slice (cutA A c U) (n - U) (c - U), .int .u8 x0, .int .u8 x1, .int .u16 L, .int .i64 U] 135)) = W at *
  (with_reducible refine (addLayer_any _ _ _ _ _ k2).mono ?_)
  rintro e w3 ⟨rfl, rfl⟩
  go_wp2_with fail
  go_ret
  subst_vars
  exact ⟨rfl, w1.heap.size + 1, (Below.ofBl B2 (Nat.le_of_lt hk)).setCell (Nat.le_refl _) _, k2.set 0 _, kl.far (Nat.ne_of_gt hz) _⟩
set_option maxHeartbeats 1000000 in
theorem decAck_short (A : Option Addr) (n c : Nat) (l : List Int) (w : World) (h : Rd .u8 w A n c l) (hl : By l) (h4 : 4 ≤ n) (hL : chL l < 4) (v : Value) :
    Calls Try.prog 84 #[.slice A n c, v] w fun e w' => (∃ u, e = .returned (.iface 167 u)) ∧ Bl w w' := by
  have H := Lib.hid h
  have HB := Lib.hid hl
  clear h hl
  go_enter Try.func84, Try.ntmps84
  go_wp2_with fail
  (with_reducible refine (chunk_short _ _ _ _ _ H.out HB.out h4 hL).mono ?_)
  rintro e w1 ⟨⟨u, rfl⟩, hb1⟩
  go_wp2_with fail
  go_ret
  exact ⟨⟨_, rfl⟩, Bl.trans hb1 (by go_grown)⟩
end Go.Proofs.Ytoljdgfbkebgcaa
namespace Go.Proofs.Ytoljdgfbkebgcaa
open Go.RowKit
set_option linter.unusedVariables false
set_option maxHeartbeats 1000000 in
theorem decCoo_any (A : Option Addr) (n c gk : Nat) (l : List Int) (w : World) (h : Rd .u8 w A n c l) (hl : By l) (h4 : 4 ≤ chL l) (hn : up4 (chL l) ≤ n) (h0 : l.getD 0 0 ≠ 0) (hn2 : n ≤ 2147483647) (x : Value) (k : Blk w gk #[x] 164) :
    Calls Try.prog 85 #[.slice A n c, .iface 162 (.pointer (some ⟨gk, 0, none⟩))] w fun e w' => e = .returned .nilIface ∧ ∃ gl, Kept w w' gk 136 138 gl ((chk A n c l).push (.slice (cutA A c 4) (chL l - 4) (c - 4))) := by
  have hk := k.lt
  have s1 := run_cutu A n c 4 (chL l) 4 (be (sub l 2 4)) rfl (chL_int l hl) h4 (by have := h.cap; unfold up4 at hn; omega) 24 Try.underlying24 size5
  have H := Lib.hid h
  have HB := Lib.hid hl
  have H0 := Lib.hid h0
  clear h hl h0
  go_enter Try.func85, Try.ntmps85
  go_wp2_with fail
  (with_reducible refine (chunk_any _ _ _ _ _ H.out HB.out h4 hn H0.out hn2).mono ?_)
  rintro e w1 ⟨rfl, hb1⟩
  have k1 := Blk.keep hb1 k
  have z1 := k1.lt
  unfold chk
  generalize G0 : l.getD 0 0 = x0 at *
  generalize G1 : l.getD 1 0 = x1 at *
  generalize G2 : be (sub l 2 4) = L at *
  generalize G3 : up4 (chL l) = U at *
  generalize G4 : chL l = V at *
  go_wp2_with fail
  have B2 : Bl w ((w1.alloc (.cells #[.slice A U c, .slice (cutA A c U) (n - U) (c - U), .int .u8 x0, .int .u8 x1, .int .u16 L, .int .i64 U] 100)).alloc (.cells #[.slice A U c, .slice (cutA A c U) (n - U) (c - U), .int .u8 x0, .int .u8 x1, .int .u16 L, .int .i64 U, .slice (cutA A c 4) (V - 4) (c - 4)] 138)) := Bl.trans hb1 (by go_grown)
  have k2 := Blk.keep B2 k
  have kl := Blk.newAt (w1.alloc (.cells #[.slice A U c, .slice (cutA A c U) (n - U) (c - U), .int .u8 x0, .int .u8 x1, .int .u16 L, .int .i64 U] 100)) #[.slice A U c, .slice (cutA A c U) (n - U) (c - U), .int .u8 x0, .int .u8 x1, .int .u16 L, .int .i64 U, .slice (cutA A c 4) (V - 4) (c - 4)] 138 (w1.heap.size + 1) (by simp)
  have hz : gk < w1.heap.size + 1 := by omega
  generalize ((w1.alloc (.cells #[.slice A U c, .slice (cutA A c U) (n - U) (c - U), .int .u8 x0, .int .u8 x1, .int .u16 L, .int .i64 U] 100)).alloc (.cells #[.slice A U c, .slice (cutA A c U) (n - U) (c - U), .int .u8 x0, .int .u8 x1, .int .u16 L, .int .i64 U, .slice (cutA A c 4) (V - 4) (c - 4)] 138)) = W at *
  (with_reducible refine (addLayer_any _ _ _ _ _ k2).mono ?_)
  rintro e w3 ⟨rfl, rfl⟩
  go_wp2_with fail
  go_ret
  subst_vars
  exact ⟨rfl, w1.heap.size + 1, (Below.ofBl B2 (Nat.le_of_lt hk)).setCell (Nat.le_refl _) _, k2.set 0 _, kl.far (Nat.ne_of_gt hz) _⟩
set_option maxHeartbeats 1000000 in
theorem decCoo_short (A : Option Addr) (n c : Nat) (l : List Int) (w : World) (h : Rd .u8 w A n c l) (hl : By l) (h4 : 4 ≤ n) (hL : chL l < 4) (v : Value) :
    Calls Try.prog 85 #[.slice A n c, v] w fun e w' => (∃ u, e = .returned (.iface 167 u)) ∧ Bl w w' := by
  have H := Lib.hid h
  have HB := Lib.hid hl
  clear h hl
  go_enter Try.func85, Try.ntmps85
  go_wp2_with fail
  (with_reducible refine (chunk_short _ _ _ _ _ H.out HB.out h4 hL).mono ?_)
  rintro e w1 ⟨⟨u, rfl⟩, hb1⟩
  go_wp2_with fail
  go_ret
  exact ⟨⟨_, rfl⟩, Bl.trans hb1 (by go_grown)⟩
end Go.Proofs.Ytoljdgfbkebgcaa
namespace Go.Proofs.Ytoljdgfbkebgcaa
open Go.RowKit
set_option linter.unusedVariables false
set_option maxHeartbeats 1000000 in
theorem decEmp_any (A : Option Addr) (n c gk : Nat) (l : List Int) (w : World) (h : Rd .u8 w A n c l) (hl : By l) (h4 : 4 ≤ chL l) (hn : up4 (chL l) ≤ n) (h0 : l.getD 0 0 ≠ 0) (hn2 : n ≤ 2147483647) (x : Value) (k : Blk w gk #[x] 164) :
    Calls Try.prog 86 #[.slice A n c, .iface 162 (.pointer (some ⟨gk, 0, none⟩))] w fun e w' => e = .returned .nilIface ∧ ∃ gl, Kept w w' gk 139 140 gl (chk A n c l) := by
  have hk := k.lt
  have H := Lib.hid h
  have HB := Lib.hid hl
  have H0 := Lib.hid h0
  clear h hl h0
  go_enter Try.func86, Try.ntmps86
  go_wp2_with fail
  (with_reducible refine (chunk_any _ _ _ _ _ H.out HB.out h4 hn H0.out hn2).mono ?_)
  rintro e w1 ⟨rfl, hb1⟩
  have k1 := Blk.keep hb1 k
  have z1 := k1.lt
  unfold chk
  generalize G0 : l.getD 0 0 = x0 at *
  generalize G1 : l.getD 1 0 = x1 at *
  generalize G2 : be (sub l 2 4) = L at *
  generalize G3 : up4 (chL l) = U at *
  go_wp2_with fail
  have B2 : Bl w ((w1.alloc (.cells #[.slice A U c, .slice (cutA A c U) (n - U) (c - U), .int .u8 x0, .int .u8 x1, .int .u16 L, .int .i64 U] 100)).alloc (.cells #[.slice A U c, .slice (cutA A c U) (n - U) (c - U), .int .u8 x0, .int .u8 x1, .int .u16 L, .int .i64 U] 140)) := Bl.trans hb1 (by go_grown)
  have k2 := Blk.keep B2 k
  have kl := Blk.newAt (w1.alloc (.cells #[.slice A U c, .slice (cutA A c U) (n - U) (c - U), .int .u8 x0, .int .u8 x1, .int .u16 L, .int .i64 U] 100)) #[.slice A U c, .slice (cutA A c U) (n - U) (c - U), .int .u8 x0, .int .u8 x1, .int .u16 L, .int .i64 U] 140 (w1.heap.size + 1) (by simp)
  have hz : gk < w1.heap.size + 1 := by omega
  generalize ((w1.alloc (.cells #[.slice A U c, .slice (cutA A c U) (n - U) (c - U), .int .u8 x0, .int .u8 x1, .int .u16 L, .int .i64 U] 100)).alloc (.cells #[.slice A U c, .slice (cutA A c U) (n - U) (c - U), .int .u8 x0, .int .u8 x1, .int .u16 L, .int .i64 U] 140)) = W at *
  (with_reducible refine (addLayer_any _ _ _ _ _ k2).mono ?_)
  rintro e w3 ⟨rfl, rfl⟩
  go_wp2_with fail
  go_ret
  subst_vars
  exact ⟨rfl, w1.heap.size + 1, (Below.ofBl B2 (Nat.le_of_lt hk)).setCell (Nat.le_refl _) _, k2.set 0 _, kl.far (Nat.ne_of_gt hz) _⟩
set_option maxHeartbeats 1000000 in
theorem decEmp_short (A : Option Addr) (n c : Nat) (l : List Int) (w : World) (h : Rd .u8 w A n c l) (hl : By l) (h4 : 4 ≤ n) (hL : chL l < 4) (v : Value) :
    Calls Try.prog 86 #[.slice A n c, v] w fun e w' => (∃ u, e = .returned (.iface 167 u)) ∧ Bl w w' := by
  have H := Lib.hid h
  have HB := Lib.hid hl
  clear h hl
  go_enter Try.func86, Try.ntmps86
  go_wp2_with fail
  (with_reducible refine (chunk_short _ _ _ _ _ H.out HB.out h4 hL).mono ?_)
  rintro e w1 ⟨⟨u, rfl⟩, hb1⟩
  go_wp2_with fail
  go_ret
  exact ⟨⟨_, rfl⟩, Bl.trans hb1 (by go_grown)⟩
end Go.Proofs.Ytoljdgfbkebgcaa
namespace Go.Proofs.Ytoljdgfbkebgcaa
open Go Go.RowKit

section
variable {P : Program} {ops : Array Oper} {Q : Exit → Act → World → Prop} {S : World → Prop} {md : Region.Mode} {T : Nat}

/-- The kinds of operation that yield a value and do no more. -/
def plainOp : Op → Bool
  | .move _ => true
  | .assign _ => true
  | .build .. => true
  | .load .. => true
  | .nilCheck _ => true
  | .binOp .. => true
  | .unOp .. => true
  | .convert .. => true
  | .slice .. => true
  | .fieldAddr .. => true
  | .field .. => true
  | .indexAddr .. => true
  | .index .. => true
  | .extract .. => true
  | .makeInterface .. => true
  | _ => false

/-- What an operation yields is a value, or it ends. -/
def ValOr (r : Result Next) : Prop := ∀ n w', r = .ok n w' → ∃ u, n = .value u
theorem valOr_of (s : Sem Value) (w : World) : ValOr ((do pure (.value (← s)) : Sem Next).run P w) := by
  intro n w' h
  rw [Sem.run_bind] at h
  generalize s.run P w = r at h
  cases r with
  | ok v w1 =>
    simp only [Result.andThen, Sem.run_pure] at h
    injection h with h1 h2
    exact ⟨v, h1.symm⟩
  | halt x w1 => simp [Result.andThen] at h
theorem plain_run {o : Oper} (h : plainOp o.op = true) (ρ : Operand → Value) (w : World) : ValOr ((execOp ρ o).run P w) := by
  obtain ⟨dst, op, type, pos, after, guard⟩ := o
  cases op
  case move x => intro n w' h'; simp only [execOp, Sem.run_pure] at h'; injection h' with h1 h2; exact ⟨_, h1.symm⟩
  case assign x => intro n w' h'; simp only [execOp, Sem.run_pure] at h'; injection h' with h1 h2; exact ⟨_, h1.symm⟩
  case nilCheck x =>
    intro n w' h'
    unfold execOp at h'
    simp only at h'
    split at h'
    · simp [runtimePanic, goPanic] at h'
    · simp [runtimePanic, goPanic] at h'
    · simp [runtimePanic, goPanic] at h'
    · split at h'
      · simp [runtimePanic, goPanic] at h'
      · simp [unsupported, Result.andThen] at h'
        split at h'
        · split at h'
          · injection h' with h1 h2
            exact ⟨_, h1.symm⟩
          · cases h'
        · cases h'
      · simp only [Sem.run_pure] at h'; injection h' with h1 h2; exact ⟨_, h1.symm⟩
    · simp only [Sem.run_pure] at h'; injection h' with h1 h2; exact ⟨_, h1.symm⟩
  all_goals first | exact valOr_of _ w | (simp [plainOp] at h; done)

/-- A quiet operation of such a kind yields one value in every world of the class, and leaves that world as it is. -/
theorem quiet_yields {o : Oper} {a : Act} {K : Act → Prop} (hp : plainOp o.op = true) (h : o.quiet P a S K) : ∃ v, (∀ w, S w → (execOp a.eval o).run P w = .ok (.value v) w) ∧ K (a.put o.dst v) := by
  obtain ⟨v, h1, h2⟩ := h
  refine ⟨v, fun w hw => ?_, h2⟩
  have h3 := h1 w hw
  have h4 := plain_run (P := P) hp a.eval w
  unfold Oper.quietAt at h3
  generalize (execOp a.eval o).run P w = r at *
  cases r with
  | ok n w' =>
    obtain ⟨u, rfl⟩ := h4 n w' rfl
    simp only [Oper.quietUpon] at h3
    rw [h3.1, h3.2]
  | halt x w' => simp only [Oper.quietUpon] at h3

/-- Whatever order is picked; S is kept behind every operation but the late ones. -/
def wpAnyK (P : Program) (md : Region.Mode) (ops : Array Oper) (Q : Exit → Act → World → Prop) (S : World → Prop) (T : Nat) : Nat → Array Bool → Act → World → Prop
  | 0, listed, a, w => Region.ready md ops listed = [] ∧ Q .normal a w
  | fuel + 1, listed, a, w =>
    (Region.ready md ops listed = [] → Q .normal a w) ∧
    ∀ i ∈ Region.ready md ops listed, wpOp P ops Q i (fun a' w' => (i < T → S w') ∧ wpAnyK P md ops Q S T fuel (listed.setIfInBounds i true) a' w') a w
theorem wpAny_of_K : ∀ (fuel : Nat) (listed : Array Bool) (a : Act) (w : World), wpAnyK P md ops Q S T fuel listed a w → wpAny P md ops Q fuel listed a w
  | 0, _, _, _, h => h
  | fuel + 1, _, _, _, h => ⟨h.1, fun i hi => wpOp_mono (fun a' w' h' => wpAny_of_K fuel _ a' w' h'.2) (h.2 i hi)⟩

/-- What has come up is closed: what it waited for came up before. -/
def Clo (md : Region.Mode) (ops : Array Oper) (listed : Array Bool) : Prop :=
  ∀ j oj, ops[j]? = some oj → listed.getD j false = true → ∀ e ∈ oj.after, Region.binds md e = true → listed.getD e.on false = true
theorem Clo.set {listed : Array Bool} {i : Nat} (hc : Clo md ops listed) (hi : i ∈ Region.ready md ops listed) : Clo md ops (listed.setIfInBounds i true) := by
  intro j oj hj hl e he hb
  by_cases hij : i = j
  · subst hij
    obtain ⟨_, oi, hoi, hall⟩ := mem_ready.1 hi
    have : oj = oi := Option.some.inj (hj.symm.trans hoi)
    subst this
    exact getD_set_true (hall e he hb)
  · rw [getD_set_ne false hij] at hl
    exact getD_set_true (hc j oj hj hl e he hb)
theorem clo_none (n : Nat) : Clo md ops (Array.replicate n false) := by
  intro j oj _ hl
  exfalso
  rcases Nat.lt_or_ge j n with h | h
  · simp [h] at hl
  · simp [h] at hl

/-- Late operations wait for operation i. -/
def Lates (md : Region.Mode) (ops : Array Oper) (T i : Nat) : Prop :=
  ∀ j, T ≤ j → ∀ listed, Clo md ops listed → j ∈ Region.ready md ops listed → listed.getD i false = true

theorem wpAnyK_first {i : Nat} {oi : Oper} {v : Value} (hi : ops[i]? = some oi) (hsel : ∀ (j : Nat) (o : Oper) cs b, ops[j]? = some o → o.op ≠ .select cs b)
    (hQ : ∀ c a d v w, Q (.panic c) (a.put d v) w → Q (.panic c) a w) (hlt : Lates md ops T i) :
    ∀ (fuel : Nat) (listed : Array Bool) (a : Act) (w : World),
      (∀ j oj, ops[j]? = some oj → j ≠ i → listed.getD j true = false → (∀ e ∈ oj.after, Region.binds md e = true → e.on ≠ i) → oi.apart ops oj = true) →
      Clo md ops listed → i ∈ Region.ready md ops listed → YieldsIf P ops S oi v a → S w →
      wpAnyK P md ops Q S T fuel (listed.setIfInBounds i true) (a.put oi.dst v) w → wpAnyK P md ops Q S T (fuel + 1) listed a w := by
  intro fuel
  induction fuel with
  | zero =>
    intro listed a w _ _ hr hy hS H
    refine ⟨fun h => (by rw [h] at hr; cases hr), fun j hj => ?_⟩
    by_cases hji : j = i
    · subst hji; exact hy.wpOp hi hS ⟨fun _ => hS, H⟩
    · have := ready_mono hj hji
      rw [H.1] at this
      cases this
  | succ fuel ih =>
    intro listed a w hfree hc hr hy hS H
    refine ⟨fun h => (by rw [h] at hr; cases hr), fun j hj => ?_⟩
    by_cases hji : j = i
    · subst hji; exact hy.wpOp hi hS ⟨fun _ => hS, H⟩
    · have h1 := H.2 j (ready_mono hj hji)
      have hiun := (mem_ready.1 hr).1
      have hjT : j < T := by
        rcases Nat.lt_or_ge j T with h | h
        · exact h
        · exfalso
          have h2 := hlt j h listed hc hj
          rcases Nat.lt_or_ge i listed.size with h' | h'
          · simp [h'] at h2 hiun; rw [h2] at hiun; cases hiun
          · simp [Array.getElem?_eq_none h'] at h2
      obtain ⟨hjun, oj, hoj, hall⟩ := mem_ready.1 hj
      have hnot : ∀ e ∈ oj.after, Region.binds md e = true → e.on ≠ i := fun e he hb heq => by
        have h1 := hall e he hb
        rw [heq] at h1
        rcases Nat.lt_or_ge i listed.size with h' | h'
        · simp [h'] at hiun h1; rw [hiun] at h1; cases h1
        · simp [Array.getElem?_eq_none h'] at h1
      have h2 := wpOp_putIf hoj (hfree j oj hoj hji hjun hnot) (fun cs b => hsel i oi cs b hi) (fun cs b => hsel j oj cs b hoj) (fun c a w => hQ c a _ _ w) hy h1
      have hfree' : ∀ k ok, ops[k]? = some ok → k ≠ i → (listed.setIfInBounds j true).getD k true = false →
          (∀ e ∈ ok.after, Region.binds md e = true → e.on ≠ i) → oi.apart ops ok = true := fun k ok hk hki hun hno => by
        refine hfree k ok hk hki ?_ hno
        by_cases hjk : j = k
        · subst hjk; exact hjun
        · rw [getD_set_ne true hjk] at hun; exact hun
      refine wpOp_mono (fun a' w' h3 => ⟨h3.2.1, ih (listed.setIfInBounds j true) a' w' hfree' (hc.set hj) (ready_mono hr (Ne.symm hji)) h3.1 (h3.2.1 hjT) ?_⟩) h2
      rw [Array.setIfInBounds_comm _ _ hji]
      exact h3.2.2

/-! ### The lists -/
/-- The operations that are marked. -/
def selQ : List Bool → List Oper → List Oper
  | true :: q, o :: l => o :: selQ q l
  | false :: q, _ :: l => selQ q l
  | _, _ => []
/-- The operations that are not. -/
def selN : List Bool → List Oper → List Oper
  | true :: q, _ :: l => selN q l
  | false :: q, o :: l => o :: selN q l
  | _, _ => []
def depsL (md : Region.Mode) (o : Oper) : List Nat := (o.after.toList.filter (Region.binds md)).map (·.on)
/-- All that number j waits for, at last. -/
def closeL (md : Region.Mode) (ops : Array Oper) : Nat → List Nat → List Nat
  | 0, s => s
  | k + 1, s => closeL md ops k (if s.contains k then (match ops[k]? with | some o => depsL md o ++ s | none => s) else s)
theorem closeL_spec {listed : Array Bool} (hc : Clo md ops listed) : ∀ (k : Nat) (s : List Nat), (∀ x ∈ s, listed.getD x false = true) → ∀ x ∈ closeL md ops k s, listed.getD x false = true
  | 0, _, h => h
  | k + 1, s, h => by
    refine closeL_spec hc k _ fun x hx => ?_
    split at hx
    · rename_i hk
      split at hx
      · rename_i o ho
        rcases List.mem_append.1 hx with hx | hx
        · unfold depsL at hx
          obtain ⟨e, he, rfl⟩ := List.mem_map.1 hx
          obtain ⟨he, hb⟩ := List.mem_filter.1 he
          exact hc k o ho (h k (by simpa using hk)) e (by simpa using he) hb
        · exact h x hx
      · exact h x hx
    · exact h x hx
def latesB (md : Region.Mode) (ops : Array Oper) (T : Nat) (s : List Nat) : Bool :=
  (List.range ops.size).all fun j => decide (j < T) || (match ops[j]? with | some o => let c := closeL md ops ops.size (depsL md o); s.all fun i => c.contains i | none => false)
theorem latesB_spec {s : List Nat} {i : Nat} (h : latesB md ops T s = true) (hi : i ∈ s) : Lates md ops T i := by
  intro j hT listed hc hj
  obtain ⟨_, o, ho, hall⟩ := mem_ready.1 hj
  have hlt : j < ops.size := (Array.getElem?_eq_some_iff.1 ho).1
  unfold latesB at h
  have h1 := List.all_eq_true.1 h j (List.mem_range.2 hlt)
  rw [ho] at h1
  simp only [Bool.or_eq_true, decide_eq_true_eq] at h1
  rcases h1 with h1 | h1
  · omega
  · have h2 := List.all_eq_true.1 h1 i hi
    refine closeL_spec hc _ _ (fun x hx => ?_) i (by simpa using h2)
    unfold depsL at hx
    obtain ⟨e, he, rfl⟩ := List.mem_map.1 hx
    obtain ⟨he, hb⟩ := List.mem_filter.1 he
    exact hall e (by simpa using he) hb
/-- The numbers that are marked. -/
def idxQ : List Bool → Nat → List Nat
  | true :: q, k => k :: idxQ q (k + 1)
  | false :: q, k => idxQ q (k + 1)
  | [], _ => []
def takeB (md : Region.Mode) (ops : Array Oper) (T : Nat) : List Bool → Nat → Array Bool → Bool
  | [], _, _ => true
  | true :: q, k, listed => decide (k < T) && (Region.ready md ops listed).contains k && Region.free md ops listed k && (match ops[k]? with | some o => plainOp o.op | none => false) && takeB md ops T q (k + 1) (listed.setIfInBounds k true)
  | false :: q, k, listed => takeB md ops T q (k + 1) listed
def endL : List Bool → Nat → Array Bool → Array Bool
  | [], _, listed => listed
  | true :: q, k, listed => endL q (k + 1) (listed.setIfInBounds k true)
  | false :: q, k, listed => endL q (k + 1) listed
def cntQ (q : List Bool) : Nat := (q.filter id).length
def cntN (q : List Bool) : Nat := (q.filter (!·)).length
def restB (md : Region.Mode) (ops : Array Oper) : List Bool → Nat → Array Bool → Bool
  | [], _, listed => (Region.ready md ops listed).isEmpty
  | true :: q, k, listed => restB md ops q (k + 1) listed
  | false :: q, k, listed => decide (Region.ready md ops listed = [k]) && restB md ops q (k + 1) (listed.setIfInBounds k true)
/-- How many operations that act come ahead of number T. -/
def earlyN (T : Nat) : List Bool → Nat → Nat
  | [], _ => 0
  | true :: q, k => earlyN T q (k + 1)
  | false :: q, k => if k < T then earlyN T q (k + 1) + 1 else 0

/-- The walk of what acts: S is shown behind each of the first m. -/
def wpN (P : Program) (ops : Array Oper) (Q : Exit → Act → World → Prop) (S : World → Prop) : Nat → List Oper → Act → World → Prop
  | 0, l, a, w => wpList P ops Q l a w
  | _ + 1, [], a, w => Q .normal a w
  | m + 1, o :: l, a, w => if Region.wanted o (yielded ops a.tmps) then o.wp P a w (fun a' w' => S w' ∧ wpN P ops Q S m l a' w') Q else S w ∧ wpN P ops Q S m l (a.put o.dst undef) w

theorem take_walk (hsel : ∀ (j : Nat) (o : Oper) cs b, ops[j]? = some o → o.op ≠ .select cs b) (hQ : ∀ c a d v w, Q (.panic c) (a.put d v) w → Q (.panic c) a w) {w : World} (hS : S w) (fN : Nat) {Φ : Act → Prop} (q : List Bool) :
    ∀ (l : List Oper) (k : Nat) (listed : Array Bool) (a : Act), (∀ j, l[j]? = ops[k + j]?) → q.length = l.length → Clo md ops listed → takeB md ops T q k listed = true → (∀ i ∈ idxQ q k, Lates md ops T i) →
    (∀ a', Φ a' → wpAnyK P md ops Q S T fN (endL q k listed) a' w) → wpQuiet P ops S Φ (selQ q l) a → wpAnyK P md ops Q S T (cntQ q + fN) listed a w := by
  induction q with
  | nil =>
    intro l k listed a _ hlen _ _ _ hΦ h
    have hl0 : l = [] := List.eq_nil_of_length_eq_zero hlen.symm
    subst hl0
    have := hΦ a h
    simpa [cntQ, endL] using this
  | cons b q ih =>
    intro l k listed a hl hlen hc hB hlt hΦ h
    cases l with
    | nil => simp at hlen
    | cons o l =>
      have h0 : ops[k]? = some o := by simpa using (hl 0).symm
      have hl' : ∀ j, l[j]? = ops[k + 1 + j]? := fun j => by have := hl (j + 1); simpa [Nat.add_assoc, Nat.add_comm 1 j] using this
      have hlen' : q.length = l.length := by simpa using hlen
      cases b with
      | false =>
        have e : cntQ (false :: q) = cntQ q := by simp [cntQ]
        rw [e]
        exact ih l (k + 1) listed a hl' hlen' hc hB hlt hΦ h
      | true =>
        simp only [takeB, Bool.and_eq_true, h0] at hB
        obtain ⟨⟨⟨⟨_, hr⟩, hf⟩, hp⟩, hB'⟩ := hB
        have hr' : k ∈ Region.ready md ops listed := by simpa using hr
        have hy : ∃ v, YieldsIf P ops S o v a ∧ wpQuiet P ops S Φ (selQ q l) (a.put o.dst v) := by
          have h' : if Region.wanted o (yielded ops a.tmps) then o.quiet P a S (wpQuiet P ops S Φ (selQ q l)) else wpQuiet P ops S Φ (selQ q l) (a.put o.dst undef) := h
          by_cases hw : Region.wanted o (yielded ops a.tmps) = true
          · rw [if_pos hw] at h'
            obtain ⟨v, h1, h2⟩ := quiet_yields hp h'
            exact ⟨v, .inl ⟨hw, h1⟩, h2⟩
          · rw [if_neg hw] at h'
            exact ⟨undef, .inr ⟨by simpa using hw, rfl⟩, h'⟩
        obtain ⟨v, hy, h'⟩ := hy
        have e : cntQ (true :: q) + fN = cntQ q + fN + 1 := by simp [cntQ]; omega
        rw [e]
        exact wpAnyK_first h0 hsel hQ (hlt k (by simp [idxQ])) (cntQ q + fN) listed a w (Region.free_spec h0 hf) hc hr' hy hS
          (ih l (k + 1) _ _ hl' hlen' (hc.set hr') hB' (fun i hi => hlt i (by simp [idxQ, hi])) hΦ h')
theorem early_zero (q : List Bool) : ∀ (k : Nat), T ≤ k → earlyN T q k = 0 := by
  induction q with
  | nil => intro k _; rfl
  | cons b q ih =>
    intro k hk
    cases b
    · simp only [earlyN]; rw [if_neg (by omega)]
    · simp only [earlyN]; exact ih (k + 1) (by omega)
theorem rest_walk (q : List Bool) : ∀ (l : List Oper) (k : Nat) (listed : Array Bool) (a : Act) (w : World), (∀ j, l[j]? = ops[k + j]?) → q.length = l.length → restB md ops q k listed = true → S w ∨ T ≤ k →
    wpN P ops Q S (earlyN T q k) (selN q l) a w → wpAnyK P md ops Q S T (cntN q) listed a w := by
  induction q with
  | nil =>
    intro l k listed a w _ hlen hB _ h
    have hl0 : l = [] := List.eq_nil_of_length_eq_zero hlen.symm
    subst hl0
    exact ⟨by simpa [restB] using hB, h⟩
  | cons b q ih =>
    intro l k listed a w hl hlen hB hS h
    cases l with
    | nil => simp at hlen
    | cons o l =>
      have h0 : ops[k]? = some o := by simpa using (hl 0).symm
      have hl' : ∀ j, l[j]? = ops[k + 1 + j]? := fun j => by have := hl (j + 1); simpa [Nat.add_assoc, Nat.add_comm 1 j] using this
      have hlen' : q.length = l.length := by simpa using hlen
      cases b with
      | true =>
        have e : cntN (true :: q) = cntN q := by simp [cntN]
        rw [e]
        exact ih l (k + 1) listed a w hl' hlen' hB (hS.imp id (fun h => by omega)) h
      | false =>
        simp only [restB, Bool.and_eq_true, decide_eq_true_eq] at hB
        have e : cntN (false :: q) = cntN q + 1 := by simp [cntN]
        rw [e]
        refine ⟨fun h1 => (by rw [hB.1] at h1; cases h1), fun i hi => ?_⟩
        rw [hB.1] at hi
        have hik : i = k := by simpa using hi
        subst hik
        by_cases hT : i < T
        · simp only [earlyN, if_pos hT] at h
          have h' : if Region.wanted o (yielded ops a.tmps) then o.wp P a w (fun a' w' => S w' ∧ wpN P ops Q S (earlyN T q (i + 1)) (selN q l) a' w') Q else S w ∧ wpN P ops Q S (earlyN T q (i + 1)) (selN q l) (a.put o.dst undef) w := h
          unfold wpOp
          simp only [h0]
          split
          · rename_i hw
            rw [if_pos hw] at h'
            exact .inl (Oper.wp_mono (fun a' w' h' => ⟨fun _ => h'.1, ih l (i + 1) _ a' w' hl' hlen' hB.2 (.inl h'.1) h'.2⟩) h')
          · rename_i hw
            rw [if_neg hw] at h'
            exact ⟨fun _ => h'.1, ih l (i + 1) _ _ w hl' hlen' hB.2 (.inl h'.1) h'.2⟩
        · have en : earlyN T q (i + 1) = 0 := early_zero q (i + 1) (by omega)
          simp only [earlyN, if_neg hT] at h
          have h' : if Region.wanted o (yielded ops a.tmps) then o.wp P a w (wpList P ops Q (selN q l)) Q ∨ (o.asks P a w ∧ LetsOut Q) else wpList P ops Q (selN q l) (a.put o.dst undef) w := h
          unfold wpOp
          simp only [h0]
          split
          · rename_i hw
            rw [if_pos hw] at h'
            exact h'.imp (Oper.wp_mono fun a' w' h' => ⟨fun h => absurd h hT, ih l (i + 1) _ a' w' hl' hlen' hB.2 (.inr (by omega)) (by rw [en]; exact h')⟩) id
          · rename_i hw
            rw [if_neg hw] at h'
            exact ⟨fun h => absurd h hT, ih l (i + 1) _ _ w hl' hlen' hB.2 (.inr (by omega)) (by rw [en]; exact h')⟩

def floatB (md : Region.Mode) (ops : Array Oper) (q : List Bool) (T : Nat) : Bool :=
  Region.noSelect ops && decide (q.length = ops.size) && takeB md ops T q 0 (Array.replicate ops.size false) && latesB md ops T (idxQ q 0) && restB md ops q 0 (endL q 0 (Array.replicate ops.size false))

theorem cnt_add (q : List Bool) : cntQ q + cntN q = q.length := by
  induction q with
  | nil => rfl
  | cons b q ih => cases b <;> simp [cntQ, cntN] at * <;> omega
theorem wp_region_float {id : Nat} {a : Act} {w : World} {l : List Oper} (q : List Bool) (T : Nat) (hm : P.follows .mixedOrders = true) (hB : floatB .any l.toArray q T = true) (hS : S w.drew)
    (h : wpQuiet P l.toArray S (fun a' => wpN P l.toArray (NoPanic Q) S (earlyN T q 0) (selN q l) a' w.drew) (selQ q l) a) : (Code.region id l.toArray true).wp P Q a w := by
  simp only [floatB, Bool.and_eq_true, decide_eq_true_eq] at hB
  obtain ⟨⟨⟨⟨hs, hlen⟩, ht⟩, hl⟩, hr⟩ := hB
  have hlen' : q.length = l.length := by simpa using hlen
  refine wp_region_noPanic (wp_region_any hm (wpAny_of_K (S := S) (T := T) _ _ _ _ ?_))
  have H := take_walk (P := P) (md := .any) (T := T) (Q := NoPanic Q) (Region.noSelect_spec hs) (fun _ _ _ _ _ h => h) hS (cntN q) q l 0 (Array.replicate l.toArray.size false) a (by simp) hlen' (clo_none _) ht (fun i hi => latesB_spec hl hi)
    (fun a' h' => rest_walk q l 0 _ a' w.drew (by simp) hlen' hr (.inl hS) h') h
  rw [cnt_add, hlen] at H
  exact H
theorem wpN_late {l : List Oper} {a : Act} {w : World} (h : wpList P ops Q l a w) : wpN P ops Q S 0 l a w := by unfold wpN; exact h
/-- One operation that acts, ahead of number T: S is to be shown behind it. -/
theorem wpN_want {m : Nat} {o : Oper} {l : List Oper} {a : Act} {w : World} (hw : Region.wanted o (yielded ops a.tmps) = true)
    (h : ∀ K : Act → World → Prop, (∀ a w, S w → wpN P ops Q S m l a w → K a w) → o.wp P a w K Q) : wpN P ops Q S (m + 1) (o :: l) a w := by
  have := h (fun a' w' => S w' ∧ wpN P ops Q S m l a' w') (fun _ _ h1 h2 => ⟨h1, h2⟩)
  unfold wpN
  rw [if_pos hw]
  exact this
/-- The same, in the shape of the laws on a step. -/
theorem wpN_if {m : Nat} {o : Oper} {l : List Oper} {a : Act} {w : World} (hw : Region.wanted o (yielded ops a.tmps) = true)
    (h : ∀ K : Act → World → Prop, (∀ a w, S w → wpN P ops Q S m l a w → K a w) → if Region.wanted o (yielded ops a.tmps) = true then o.wp P a w K Q else True) : wpN P ops Q S (m + 1) (o :: l) a w :=
  wpN_want hw fun K hK => by have := h K hK; rwa [if_pos hw] at this
end
/-- The class of worlds in which what was there is as it was. -/
abbrev Grw (W : World) : World → Prop := fun w' => ∃ p : Regrown, w' = Sort.grow (redrawn W p.d) p.os
theorem Grw.drew (W : World) : Grw W W.drew := ⟨⟨W.drawn + 1, #[]⟩, by rw [Sort.grow_empty]; rfl⟩
theorem Grw.of {W w' : World} (h : Below W.heap.size W w') : Grw W w' := regrown_of_below h
theorem Grw.bl {W w' : World} (h : Grw W w') : Below W.heap.size W w' := by
  obtain ⟨p, rfl⟩ := h
  exact below_regrown W p.d p.os
end Go.Proofs.Ytoljdgfbkebgcaa
