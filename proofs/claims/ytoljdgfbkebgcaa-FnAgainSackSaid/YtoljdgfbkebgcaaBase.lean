/- The words that all proofs of this seat use: what a slice that is read holds, what a call leaves of memory, numbers out of bytes. -/
import Derived.Test.YtoljdgfbkebgcaaProg
import Derived.WalkKit
import Derived.Handy
import Derived.Deep.QuietTactic
import Derived.BigQuiet
import Derived.BigRegion
import Derived.Lib.Hide
namespace Go.Proofs.Ytoljdgfbkebgcaa
open Go.RowKit

/-! ### lists -/
def sub (l : List Int) (lo hi : Nat) : List Int := (l.take hi).drop lo
theorem sub_length (l : List Int) (lo hi : Nat) (h : hi ≤ l.length) : (sub l lo hi).length = hi - lo := by
  simp [sub]; omega
theorem sub_getD (l : List Int) (lo hi i : Nat) (h : lo + i < hi) (d : Int) : (sub l lo hi).getD i d = l.getD (lo + i) d := by
  simp [sub, List.getD_eq_getElem?_getD, h]
theorem sub_all (l : List Int) : sub l 0 l.length = l := by simp [sub]
theorem sub_drop (l : List Int) (lo : Nat) : sub l lo l.length = l.drop lo := by simp [sub]
theorem sub_take (l : List Int) (hi : Nat) : sub l 0 hi = l.take hi := by simp [sub]

/-- Each is a byte. -/
def By (l : List Int) : Prop := ∀ x ∈ l, 0 ≤ x ∧ x ≤ 255
theorem By.sub {l : List Int} (h : By l) (lo hi : Nat) : By (Ytoljdgfbkebgcaa.sub l lo hi) :=
  fun x hx => h x (List.mem_of_mem_take (List.mem_of_mem_drop hx))
theorem By.getD {l : List Int} (h : By l) (i : Nat) : 0 ≤ l.getD i 0 ∧ l.getD i 0 ≤ 255 := by
  rw [List.getD_eq_getElem?_getD]
  by_cases hi : i < l.length
  · rw [List.getElem?_eq_getElem hi]; exact h _ (List.getElem_mem hi)
  · rw [List.getElem?_eq_none (by omega)]; simp

/-- The number in bytes, the highest first. -/
def be (l : List Int) : Int := l.foldl (fun n x => n * 256 + x) 0
theorem be2 (l : List Int) (h : l.length = 2) : be l = l.getD 0 0 * 256 + l.getD 1 0 := by
  match l, h with
  | [a, b], _ => simp [be]
theorem be4 (l : List Int) (h : l.length = 4) : be l = ((l.getD 0 0 * 256 + l.getD 1 0) * 256 + l.getD 2 0) * 256 + l.getD 3 0 := by
  match l, h with
  | [a, b, c, d], _ => simp [be]
theorem be_foldl (l : List Int) (hl : By l) : ∀ n : Int, 0 ≤ n → 0 ≤ l.foldl (fun n x => n * 256 + x) n ∧ l.foldl (fun n x => n * 256 + x) n < (n + 1) * 256 ^ l.length := by
  induction l with
  | nil => intro n hn; simp; omega
  | cons a l ih =>
    intro n hn
    have ha := hl a (by simp)
    have := ih (fun x hx => hl x (by simp [hx])) (n * 256 + a) (by omega)
    simp only [List.foldl_cons, List.length_cons]
    refine ⟨this.1, Int.lt_of_lt_of_le this.2 ?_⟩
    rw [Int.pow_succ, Int.mul_comm (256 ^ l.length) 256, ← Int.mul_assoc]
    exact Int.mul_le_mul_of_nonneg_right (by omega) (Int.le_of_lt (Int.pow_pos (by omega)))
theorem be_nonneg (l : List Int) (hl : By l) : 0 ≤ be l := (be_foldl l hl 0 (by omega)).1
theorem be_lt (l : List Int) (hl : By l) : be l < 256 ^ l.length := by
  have := (be_foldl l hl 0 (by omega)).2
  simpa [be] using this
theorem be_bd2 (l : List Int) (hl : By l) (h : l.length = 2) : 0 ≤ be l ∧ be l ≤ 65535 := by
  have h0 := be_nonneg l hl
  have h1 := be_lt l hl
  rw [h] at h1
  omega
theorem be_bd4 (l : List Int) (hl : By l) (h : l.length = 4) : 0 ≤ be l ∧ be l ≤ 4294967295 := by
  have h0 := be_nonneg l hl
  have h1 := be_lt l hl
  rw [h] at h1
  omega

/-! ### a slice that is read -/
/-- A slice (its address, length, capacity) whose cells are these numbers. -/
structure Rd (k : IntKind) (w : World) (A : Option Addr) (n c : Nat) (l : List Int) : Prop where
  len : l.length = n
  cap : n ≤ c
  cell : ∀ i, i < n → ∃ g o, A = some ⟨g, o, none⟩ ∧ w.cell? ⟨g, o + i, none⟩ = some (.int k (l.getD i 0))
theorem Rd.below {k : IntKind} {w w' : World} {A : Option Addr} {n c : Nat} {l : List Int} (h : Rd k w A n c l) (hb : Below w.heap.size w w') : Rd k w' A n c l :=
  ⟨h.len, h.cap, fun i hi => by
    obtain ⟨g, o, e, hc⟩ := h.cell i hi
    exact ⟨g, o, e, (hb.cell (World.block_lt_of_cell? w _ hc)).trans hc⟩⟩
/-- Where there is an element: the address, and all cells. -/
theorem Rd.at {k : IntKind} {w : World} {A : Option Addr} {n c : Nat} {l : List Int} (h : Rd k w A n c l) (hn : 0 < n) :
    ∃ g o, A = some ⟨g, o, none⟩ ∧ g < w.heap.size ∧ ∀ i, i < n → w.cell? ⟨g, o + i, none⟩ = some (.int k (l.getD i 0)) := by
  obtain ⟨g, o, rfl, hc⟩ := h.cell 0 hn
  refine ⟨g, o, rfl, World.block_lt_of_cell? w _ hc, fun i hi => ?_⟩
  obtain ⟨g', o', e, hc'⟩ := h.cell i hi
  simp at e
  obtain ⟨rfl, rfl⟩ := e
  exact hc'
/-- The address of a part. -/
def cutA (A : Option Addr) (c lo : Nat) : Option Addr := if c = lo then A else A.map (·.add lo)
theorem add_add (g o m : Nat) : (⟨g, o, none⟩ : Addr).add m = ⟨g, o + m, none⟩ := by
  unfold Addr.add; split <;> simp_all
theorem Rd.cut {k : IntKind} {w : World} {A : Option Addr} {n c : Nat} {l : List Int} (h : Rd k w A n c l) (lo hi : Nat) (h1 : lo ≤ hi) (h2 : hi ≤ n) :
    Rd k w (cutA A c lo) (hi - lo) (c - lo) (sub l lo hi) := by
  have hl := h.len
  have hc := h.cap
  refine ⟨by rw [sub_length _ _ _ (by omega)], by omega, fun i hi' => ?_⟩
  obtain ⟨g, o, rfl, hcell⟩ := h.cell (lo + i) (by omega)
  refine ⟨g, o + lo, ?_, ?_⟩
  · unfold cutA; rw [if_neg (by omega)]; simp [add_add]
  · rw [sub_getD _ _ _ _ (by omega), Nat.add_assoc]; exact hcell
/-- The same, the part's length under a name of its own. -/
theorem Rd.cutm {k : IntKind} {w : World} {A : Option Addr} {n c : Nat} {l : List Int} (h : Rd k w A n c l) (lo hi m : Nat) (h1 : lo + m = hi) (h2 : hi ≤ n) :
    Rd k w (cutA A c lo) m (c - lo) (sub l lo hi) := by
  have := h.cut lo hi (by omega) h2
  rwa [show hi - lo = m from by omega] at this
theorem Rd.cut0 {k : IntKind} {w : World} {A : Option Addr} {n c : Nat} {l : List Int} (h : Rd k w A n c l) (hi : Nat) (h2 : hi ≤ n) : Rd k w A hi c (sub l 0 hi) := by
  have h3 := h.cut 0 hi (by omega) h2
  have ha : cutA A c 0 = A := by unfold cutA; cases A <;> simp [Addr.add]
  rw [ha] at h3
  exact h3
theorem run_cut {e : TypeId} (A : Option Addr) (n c lo hi : Nat) (ilo ihi : Int) (e1 : ilo = lo) (e2 : ihi = hi) (h1 : lo ≤ hi) (h2 : hi ≤ c)
    (t : TypeId) (ht : Try.prog.underlying t = some (.slice e)) (hs : ∀ W, (sizeOf e).run Try.prog W = .ok 1 W) (W : World) :
    (Instr.slice t (.slice A n c) (some (.int .i64 ilo)) (some (.int .i64 ihi)) none).run Try.prog W = .ok (.slice (cutA A c lo) (hi - lo) (c - lo)) W := by
  subst e1 e2
  have hel : Try.prog.elem t = e := by simp [Program.elem, ht]
  have hu : Try.prog.underlying t = some (.slice (Try.prog.elem t)) := by rw [hel]; exact ht
  rw [run_slice_lh W t A n c hu .i64 .i64 lo hi (by omega) (by omega) (by omega), hel, hs]
  simp [sliced, Result.andThen, cutA]
theorem run_cut_h {e : TypeId} (A : Option Addr) (n c hi : Nat) (ihi : Int) (e2 : ihi = hi) (h2 : hi ≤ c)
    (t : TypeId) (ht : Try.prog.underlying t = some (.slice e)) (hs : ∀ W, (sizeOf e).run Try.prog W = .ok 1 W) (W : World) :
    (Instr.slice t (.slice A n c) none (some (.int .i64 ihi)) none).run Try.prog W = .ok (.slice A hi c) W := by
  subst e2
  have ha : (A.map fun x => x.add 0) = A := by cases A <;> simp [Addr.add]
  have hel : Try.prog.elem t = e := by simp [Program.elem, ht]
  have hu : Try.prog.underlying t = some (.slice (Try.prog.elem t)) := by rw [hel]; exact ht
  rw [run_slice_h W t A n c hu .i64 hi (by omega) (by omega), hel, hs]
  simp [sliced, Result.andThen, ha]
theorem run_cut_l {e : TypeId} (A : Option Addr) (n c lo : Nat) (ilo : Int) (e1 : ilo = lo) (h1 : lo ≤ n)
    (t : TypeId) (ht : Try.prog.underlying t = some (.slice e)) (hs : ∀ W, (sizeOf e).run Try.prog W = .ok 1 W) (W : World) :
    (Instr.slice t (.slice A n c) (some (.int .i64 ilo)) none none).run Try.prog W = .ok (.slice (cutA A c lo) (n - lo) (c - lo)) W := by
  subst e1
  have hel : Try.prog.elem t = e := by simp [Program.elem, ht]
  have hu : Try.prog.underlying t = some (.slice (Try.prog.elem t)) := by rw [hel]; exact ht
  rw [run_slice_l W t A n c hu .i64 lo (by omega) (by omega), hel, hs]
  simp [sliced, Result.andThen, cutA]
theorem size5 (W : World) : (sizeOf 5).run Try.prog W = .ok 1 W := by kernel_rfl
theorem size26 (W : World) : (sizeOf 26).run Try.prog W = .ok 1 W := by kernel_rfl

/-! ### memory -/
/-- What was there is as it was. -/
abbrev Bl (w w' : World) : Prop := Below w.heap.size w w'
theorem Bl.refl (w : World) : Bl w w := Below.refl _ _
theorem Bl.trans {a b c : World} (h : Bl a b) (k : Bl b c) : Bl a c := Below.trans h (k.mono h.size)
theorem Bl.drewN {a b : World} (h : Bl a b) (n : Nat) : Bl a (b.drewN n) := ⟨h.os, h.tape, h.output, h.size, h.block⟩
theorem Bl.of_same {a b : World} (h : a = b) : Bl a b := h ▸ Bl.refl a
theorem Bl.cells {W w1 : World} (hb : Bl W w1) : ∀ b o, b < W.heap.size → w1.cell? ⟨b, o, none⟩ = W.cell? ⟨b, o, none⟩ := fun b o h => hb.cell (p := ⟨b, o, none⟩) h
theorem Bl.frozens {W w1 : World} (hb : Bl W w1) : ∀ b o, b < W.heap.size → w1.frozen? ⟨b, o, none⟩ = W.frozen? ⟨b, o, none⟩ := fun b o h => hb.frozen (p := ⟨b, o, none⟩) h

/-- A block of one's own: its cells. -/
structure Blk (w : World) (g : Nat) (cs : Array Value) (T : TypeId) : Prop where
  heap : w.heap[g]? = some (.cells cs T (0, 0))
theorem Blk.lt {w : World} {g : Nat} {cs : Array Value} {T : TypeId} (h : Blk w g cs T) : g < w.heap.size := (Array.getElem?_eq_some_iff.1 h.heap).1
theorem Blk.below {w w' : World} {g : Nat} {cs : Array Value} {T : TypeId} (h : Blk w g cs T) (hb : Bl w w') : Blk w' g cs T := ⟨(hb.block g h.lt).trans h.heap⟩
theorem Blk.cell {w : World} {g : Nat} {cs : Array Value} {T : TypeId} (h : Blk w g cs T) (i : Nat) : w.cell? ⟨g, i, none⟩ = cs[i]? := cell_of_row w g i cs T (0, 0) h.heap
theorem Blk.frozen {w : World} {g : Nat} {cs : Array Value} {T : TypeId} (h : Blk w g cs T) (i : Nat) : w.frozen? ⟨g, i, none⟩ = false := by simp [World.frozen?, h.heap]
theorem Blk.set {w : World} {g : Nat} {cs : Array Value} {T : TypeId} (h : Blk w g cs T) (i : Nat) (u : Value) : Blk (w.setCell ⟨g, i, none⟩ u) g (cs.setIfInBounds i u) T :=
  ⟨by
    have hlt := h.lt
    have h' : w.heap[g] = .cells cs T (0, 0) := by simpa [Array.getElem?_eq_getElem hlt] using h.heap
    show (w.heap.modify g _)[g]? = _
    rw [Array.getElem?_eq_getElem (by simpa using hlt), Array.getElem_modify_self, h']
    rfl⟩
theorem Blk.far {w : World} {g : Nat} {cs : Array Value} {T : TypeId} (h : Blk w g cs T) {p : Addr} (hp : g ≠ p.block) (u : Value) : Blk (w.setCell p u) g cs T :=
  ⟨(Below.heap_setCell w p u g hp).trans h.heap⟩
theorem Blk.alloc {w : World} {g : Nat} {cs : Array Value} {T : TypeId} (h : Blk w g cs T) (o : Obj) : Blk (w.alloc o) g cs T := ⟨(Below.heap_alloc w o g h.lt).trans h.heap⟩
theorem Blk.new (w : World) (cs : Array Value) (T : TypeId) : Blk (w.alloc (.cells cs T)) w.heap.size cs T := ⟨heap_alloc_new w _⟩
theorem Blk.newAt (w : World) (cs : Array Value) (T : TypeId) (g : Nat) (hg : g = w.heap.size) : Blk (w.alloc (.cells cs T)) g cs T := by rw [hg]; exact Blk.new w cs T
theorem Blk.same {w w' : World} {g : Nat} {cs : Array Value} {T : TypeId} (h : Blk w g cs T) (he : w'.heap = w.heap) : Blk w' g cs T := ⟨by rw [he]; exact h.heap⟩
theorem Blk.keep {w w' : World} {g : Nat} {cs : Array Value} {T : TypeId} (hb : Bl w w') (h : Blk w g cs T) : Blk w' g cs T := h.below hb
theorem Blk.facts {w : World} {g : Nat} {cs : Array Value} {T : TypeId} (h : Blk w g cs T) : (∀ i, w.cell? ⟨g, i, none⟩ = cs[i]?) ∧ (∀ i, w.frozen? ⟨g, i, none⟩ = false) ∧ g < w.heap.size := ⟨h.cell, h.frozen, h.lt⟩

/-- What lies below a block's number, and what is read there. -/
theorem Rd.belowB {k : IntKind} {w w' : World} {A : Option Addr} {n c B : Nat} {l : List Int} (h : Rd k w A n c l) (hA : ∀ x, A = some x → x.block < B) (hb : Below B w w') : Rd k w' A n c l :=
  ⟨h.len, h.cap, fun i hi => by
    obtain ⟨g, o, e, hc⟩ := h.cell i hi
    have hlt : g < B := hA _ e
    exact ⟨g, o, e, (hb.cell (p := ⟨g, o + i, none⟩) hlt).trans hc⟩⟩
theorem cutA_block {A : Option Addr} {c lo B : Nat} (hA : ∀ x, A = some x → x.block < B) : ∀ x, cutA A c lo = some x → x.block < B := by
  intro x hx
  unfold cutA at hx
  split at hx
  · exact hA x hx
  · cases A with
    | none => simp at hx
    | some a =>
      simp at hx
      have := hA a rfl
      rw [← hx]
      unfold Addr.add
      split <;> simpa using this
theorem Below.ofBl {B : Nat} {a b : World} (h : Bl a b) (hB : B ≤ a.heap.size) : Below B a b := Below.mono h hB
theorem Below.drewN {B : Nat} {a b : World} (h : Below B a b) (n : Nat) : Below B a (b.drewN n) := ⟨h.os, h.tape, h.output, h.size, h.block⟩

/-! ### endings -/
theorem ret_int {k : IntKind} {a b : Int} (h : a = b) : Ending.returned (.int k a) = .returned (.int k b) := by rw [h]
theorem ret_bool {a b : Bool} (h : a = b) : Ending.returned (.bool a) = .returned (.bool b) := by rw [h]
end Go.Proofs.Ytoljdgfbkebgcaa
