/- The words that all proofs of this seat use: what a slice that is read holds, what a call leaves of memory, numbers out of bytes. The smallest functions: numbers out of bytes, lengths filled up, copies. The header's decoder. Layers as data: what a value of the type Layer holds in memory. -/
import Derived.Test.YtoljdgfbkebgcaaProg
import Derived.WalkKit
import Derived.Handy
import Derived.Deep.QuietTactic
import Derived.BigQuiet
import Derived.BigRegion
import Derived.Lib.Hide
import Derived.Lib.EndianBits
import Derived.Deep.RegionWith
namespace Go.Proofs.Ytoljdgfbkebgcaa
open Go.RowKit
set_option linter.unusedVariables false

/-! ### lists -/
def sub (l : List Int) (lo hi : Nat) : List Int := (l.take hi).drop lo
theorem sub_length (l : List Int) (lo hi : Nat) (h : hi ≤ l.length) : (sub l lo hi).length = hi - lo := by
  simp [sub]; omega
theorem sub_getD (l : List Int) (lo hi i : Nat) (h : lo + i < hi) (d : Int) : (sub l lo hi).getD i d = l.getD (lo + i) d := by
  simp [sub, List.getD_eq_getElem?_getD, h]
theorem sub_all (l : List Int) : sub l 0 l.length = l := by simp [sub]
theorem sub_drop (l : List Int) (lo : Nat) : sub l lo l.length = l.drop lo := by simp [sub]
theorem sub_take (l : List Int) (hi : Nat) : sub l 0 hi = l.take hi := by simp [sub]

/-- Each is a byte. -/
def By (l : List Int) : Prop := ∀ x ∈ l, 0 ≤ x ∧ x ≤ 255
theorem By.sub {l : List Int} (h : By l) (lo hi : Nat) : By (Ytoljdgfbkebgcaa.sub l lo hi) :=
  fun x hx => h x (List.mem_of_mem_take (List.mem_of_mem_drop hx))
theorem By.getD {l : List Int} (h : By l) (i : Nat) : 0 ≤ l.getD i 0 ∧ l.getD i 0 ≤ 255 := by
  rw [List.getD_eq_getElem?_getD]
  by_cases hi : i < l.length
  · rw [List.getElem?_eq_getElem hi]; exact h _ (List.getElem_mem hi)
  · rw [List.getElem?_eq_none (by omega)]; simp

/-- The number in bytes, the highest first. -/
def be (l : List Int) : Int := l.foldl (fun n x => n * 256 + x) 0
theorem be2 (l : List Int) (h : l.length = 2) : be l = l.getD 0 0 * 256 + l.getD 1 0 := by
  match l, h with
  | [a, b], _ => simp [be]
theorem be4 (l : List Int) (h : l.length = 4) : be l = ((l.getD 0 0 * 256 + l.getD 1 0) * 256 + l.getD 2 0) * 256 + l.getD 3 0 := by
  match l, h with
  | [a, b, c, d], _ => simp [be]
theorem be_foldl (l : List Int) (hl : By l) : ∀ n : Int, 0 ≤ n → 0 ≤ l.foldl (fun n x => n * 256 + x) n ∧ l.foldl (fun n x => n * 256 + x) n < (n + 1) * 256 ^ l.length := by
  induction l with
  | nil => intro n hn; simp; omega
  | cons a l ih =>
    intro n hn
    have ha := hl a (by simp)
    have := ih (fun x hx => hl x (by simp [hx])) (n * 256 + a) (by omega)
    simp only [List.foldl_cons, List.length_cons]
    refine ⟨this.1, Int.lt_of_lt_of_le this.2 ?_⟩
    rw [Int.pow_succ, Int.mul_comm (256 ^ l.length) 256, ← Int.mul_assoc]
    exact Int.mul_le_mul_of_nonneg_right (by omega) (Int.le_of_lt (Int.pow_pos (by omega)))
theorem be_nonneg (l : List Int) (hl : By l) : 0 ≤ be l := (be_foldl l hl 0 (by omega)).1
theorem be_lt (l : List Int) (hl : By l) : be l < 256 ^ l.length := by
  have := (be_foldl l hl 0 (by omega)).2
  simpa [be] using this
theorem be_bd2 (l : List Int) (hl : By l) (h : l.length = 2) : 0 ≤ be l ∧ be l ≤ 65535 := by
  have h0 := be_nonneg l hl
  have h1 := be_lt l hl
  rw [h] at h1
  omega
theorem be_bd4 (l : List Int) (hl : By l) (h : l.length = 4) : 0 ≤ be l ∧ be l ≤ 4294967295 := by
  have h0 := be_nonneg l hl
  have h1 := be_lt l hl
  rw [h] at h1
  omega

/-! ### a slice that is read -/
/-- A slice (its address, length, capacity) whose cells are these numbers. -/
structure Rd (k : IntKind) (w : World) (A : Option Addr) (n c : Nat) (l : List Int) : Prop where
  len : l.length = n
  cap : n ≤ c
  cell : ∀ i, i < n → ∃ g o, A = some ⟨g, o, none⟩ ∧ w.cell? ⟨g, o + i, none⟩ = some (.int k (l.getD i 0))
theorem Rd.below {k : IntKind} {w w' : World} {A : Option Addr} {n c : Nat} {l : List Int} (h : Rd k w A n c l) (hb : Below w.heap.size w w') : Rd k w' A n c l :=
  ⟨h.len, h.cap, fun i hi => by
    obtain ⟨g, o, e, hc⟩ := h.cell i hi
    exact ⟨g, o, e, (hb.cell (World.block_lt_of_cell? w _ hc)).trans hc⟩⟩
/-- Where there is an element: the address, and all cells. -/
theorem Rd.at {k : IntKind} {w : World} {A : Option Addr} {n c : Nat} {l : List Int} (h : Rd k w A n c l) (hn : 0 < n) :
    ∃ g o, A = some ⟨g, o, none⟩ ∧ g < w.heap.size ∧ ∀ i, i < n → w.cell? ⟨g, o + i, none⟩ = some (.int k (l.getD i 0)) := by
  obtain ⟨g, o, rfl, hc⟩ := h.cell 0 hn
  refine ⟨g, o, rfl, World.block_lt_of_cell? w _ hc, fun i hi => ?_⟩
  obtain ⟨g', o', e, hc'⟩ := h.cell i hi
  simp at e
  obtain ⟨rfl, rfl⟩ := e
  exact hc'
/-- The address of a part. -/
def cutA (A : Option Addr) (c lo : Nat) : Option Addr := if c = lo then A else A.map (·.add lo)
theorem add_add (g o m : Nat) : (⟨g, o, none⟩ : Addr).add m = ⟨g, o + m, none⟩ := by
  unfold Addr.add; split <;> simp_all
theorem Rd.cut {k : IntKind} {w : World} {A : Option Addr} {n c : Nat} {l : List Int} (h : Rd k w A n c l) (lo hi : Nat) (h1 : lo ≤ hi) (h2 : hi ≤ n) :
    Rd k w (cutA A c lo) (hi - lo) (c - lo) (sub l lo hi) := by
  have hl := h.len
  have hc := h.cap
  refine ⟨by rw [sub_length _ _ _ (by omega)], by omega, fun i hi' => ?_⟩
  obtain ⟨g, o, rfl, hcell⟩ := h.cell (lo + i) (by omega)
  refine ⟨g, o + lo, ?_, ?_⟩
  · unfold cutA; rw [if_neg (by omega)]; simp [add_add]
  · rw [sub_getD _ _ _ _ (by omega), Nat.add_assoc]; exact hcell
/-- The same, the part's length under a name of its own. -/
theorem Rd.cutm {k : IntKind} {w : World} {A : Option Addr} {n c : Nat} {l : List Int} (h : Rd k w A n c l) (lo hi m : Nat) (h1 : lo + m = hi) (h2 : hi ≤ n) :
    Rd k w (cutA A c lo) m (c - lo) (sub l lo hi) := by
  have := h.cut lo hi (by omega) h2
  rwa [show hi - lo = m from by omega] at this
theorem Rd.cut0 {k : IntKind} {w : World} {A : Option Addr} {n c : Nat} {l : List Int} (h : Rd k w A n c l) (hi : Nat) (h2 : hi ≤ n) : Rd k w A hi c (sub l 0 hi) := by
  have h3 := h.cut 0 hi (by omega) h2
  have ha : cutA A c 0 = A := by unfold cutA; cases A <;> simp [Addr.add]
  rw [ha] at h3
  exact h3
theorem run_cut {e : TypeId} (A : Option Addr) (n c lo hi : Nat) (ilo ihi : Int) (e1 : ilo = lo) (e2 : ihi = hi) (h1 : lo ≤ hi) (h2 : hi ≤ c)
    (t : TypeId) (ht : Try.prog.underlying t = some (.slice e)) (hs : ∀ W, (sizeOf e).run Try.prog W = .ok 1 W) (W : World) :
    (Instr.slice t (.slice A n c) (some (.int .i64 ilo)) (some (.int .i64 ihi)) none).run Try.prog W = .ok (.slice (cutA A c lo) (hi - lo) (c - lo)) W := by
  subst e1 e2
  have hel : Try.prog.elem t = e := by simp [Program.elem, ht]
  have hu : Try.prog.underlying t = some (.slice (Try.prog.elem t)) := by rw [hel]; exact ht
  rw [run_slice_lh W t A n c hu .i64 .i64 lo hi (by omega) (by omega) (by omega), hel, hs]
  simp [sliced, Result.andThen, cutA]
theorem run_cut_h {e : TypeId} (A : Option Addr) (n c hi : Nat) (ihi : Int) (e2 : ihi = hi) (h2 : hi ≤ c)
    (t : TypeId) (ht : Try.prog.underlying t = some (.slice e)) (hs : ∀ W, (sizeOf e).run Try.prog W = .ok 1 W) (W : World) :
    (Instr.slice t (.slice A n c) none (some (.int .i64 ihi)) none).run Try.prog W = .ok (.slice A hi c) W := by
  subst e2
  have ha : (A.map fun x => x.add 0) = A := by cases A <;> simp [Addr.add]
  have hel : Try.prog.elem t = e := by simp [Program.elem, ht]
  have hu : Try.prog.underlying t = some (.slice (Try.prog.elem t)) := by rw [hel]; exact ht
  rw [run_slice_h W t A n c hu .i64 hi (by omega) (by omega), hel, hs]
  simp [sliced, Result.andThen, ha]
theorem run_cut_l {e : TypeId} (A : Option Addr) (n c lo : Nat) (ilo : Int) (e1 : ilo = lo) (h1 : lo ≤ n)
    (t : TypeId) (ht : Try.prog.underlying t = some (.slice e)) (hs : ∀ W, (sizeOf e).run Try.prog W = .ok 1 W) (W : World) :
    (Instr.slice t (.slice A n c) (some (.int .i64 ilo)) none none).run Try.prog W = .ok (.slice (cutA A c lo) (n - lo) (c - lo)) W := by
  subst e1
  have hel : Try.prog.elem t = e := by simp [Program.elem, ht]
  have hu : Try.prog.underlying t = some (.slice (Try.prog.elem t)) := by rw [hel]; exact ht
  rw [run_slice_l W t A n c hu .i64 lo (by omega) (by omega), hel, hs]
  simp [sliced, Result.andThen, cutA]
theorem size5 (W : World) : (sizeOf 5).run Try.prog W = .ok 1 W := by kernel_rfl
theorem size26 (W : World) : (sizeOf 26).run Try.prog W = .ok 1 W := by kernel_rfl

/-! ### memory -/
/-- What was there is as it was. -/
abbrev Bl (w w' : World) : Prop := Below w.heap.size w w'
theorem Bl.refl (w : World) : Bl w w := Below.refl _ _
theorem Bl.trans {a b c : World} (h : Bl a b) (k : Bl b c) : Bl a c := Below.trans h (k.mono h.size)
theorem Bl.drewN {a b : World} (h : Bl a b) (n : Nat) : Bl a (b.drewN n) := ⟨h.os, h.tape, h.output, h.size, h.block⟩
theorem Bl.of_same {a b : World} (h : a = b) : Bl a b := h ▸ Bl.refl a
theorem Bl.cells {W w1 : World} (hb : Bl W w1) : ∀ b o, b < W.heap.size → w1.cell? ⟨b, o, none⟩ = W.cell? ⟨b, o, none⟩ := fun b o h => hb.cell (p := ⟨b, o, none⟩) h
theorem Bl.frozens {W w1 : World} (hb : Bl W w1) : ∀ b o, b < W.heap.size → w1.frozen? ⟨b, o, none⟩ = W.frozen? ⟨b, o, none⟩ := fun b o h => hb.frozen (p := ⟨b, o, none⟩) h

/-- A block of one's own: its cells. -/
structure Blk (w : World) (g : Nat) (cs : Array Value) (T : TypeId) : Prop where
  heap : w.heap[g]? = some (.cells cs T (0, 0))
theorem Blk.lt {w : World} {g : Nat} {cs : Array Value} {T : TypeId} (h : Blk w g cs T) : g < w.heap.size := (Array.getElem?_eq_some_iff.1 h.heap).1
theorem Blk.below {w w' : World} {g : Nat} {cs : Array Value} {T : TypeId} (h : Blk w g cs T) (hb : Bl w w') : Blk w' g cs T := ⟨(hb.block g h.lt).trans h.heap⟩
theorem Blk.cell {w : World} {g : Nat} {cs : Array Value} {T : TypeId} (h : Blk w g cs T) (i : Nat) : w.cell? ⟨g, i, none⟩ = cs[i]? := cell_of_row w g i cs T (0, 0) h.heap
theorem Blk.frozen {w : World} {g : Nat} {cs : Array Value} {T : TypeId} (h : Blk w g cs T) (i : Nat) : w.frozen? ⟨g, i, none⟩ = false := by simp [World.frozen?, h.heap]
theorem Blk.set {w : World} {g : Nat} {cs : Array Value} {T : TypeId} (h : Blk w g cs T) (i : Nat) (u : Value) : Blk (w.setCell ⟨g, i, none⟩ u) g (cs.setIfInBounds i u) T :=
  ⟨by
    have hlt := h.lt
    have h' : w.heap[g] = .cells cs T (0, 0) := by simpa [Array.getElem?_eq_getElem hlt] using h.heap
    show (w.heap.modify g _)[g]? = _
    rw [Array.getElem?_eq_getElem (by simpa using hlt), Array.getElem_modify_self, h']
    rfl⟩
theorem Blk.far {w : World} {g : Nat} {cs : Array Value} {T : TypeId} (h : Blk w g cs T) {p : Addr} (hp : g ≠ p.block) (u : Value) : Blk (w.setCell p u) g cs T :=
  ⟨(Below.heap_setCell w p u g hp).trans h.heap⟩
theorem Blk.alloc {w : World} {g : Nat} {cs : Array Value} {T : TypeId} (h : Blk w g cs T) (o : Obj) : Blk (w.alloc o) g cs T := ⟨(Below.heap_alloc w o g h.lt).trans h.heap⟩
theorem Blk.new (w : World) (cs : Array Value) (T : TypeId) : Blk (w.alloc (.cells cs T)) w.heap.size cs T := ⟨heap_alloc_new w _⟩
theorem Blk.newAt (w : World) (cs : Array Value) (T : TypeId) (g : Nat) (hg : g = w.heap.size) : Blk (w.alloc (.cells cs T)) g cs T := by rw [hg]; exact Blk.new w cs T
theorem Blk.same {w w' : World} {g : Nat} {cs : Array Value} {T : TypeId} (h : Blk w g cs T) (he : w'.heap = w.heap) : Blk w' g cs T := ⟨by rw [he]; exact h.heap⟩
theorem Blk.keep {w w' : World} {g : Nat} {cs : Array Value} {T : TypeId} (hb : Bl w w') (h : Blk w g cs T) : Blk w' g cs T := h.below hb
theorem Blk.facts {w : World} {g : Nat} {cs : Array Value} {T : TypeId} (h : Blk w g cs T) : (∀ i, w.cell? ⟨g, i, none⟩ = cs[i]?) ∧ (∀ i, w.frozen? ⟨g, i, none⟩ = false) ∧ g < w.heap.size := ⟨h.cell, h.frozen, h.lt⟩

/-- What lies below a block's number, and what is read there. -/
theorem Rd.belowB {k : IntKind} {w w' : World} {A : Option Addr} {n c B : Nat} {l : List Int} (h : Rd k w A n c l) (hA : ∀ x, A = some x → x.block < B) (hb : Below B w w') : Rd k w' A n c l :=
  ⟨h.len, h.cap, fun i hi => by
    obtain ⟨g, o, e, hc⟩ := h.cell i hi
    have hlt : g < B := hA _ e
    exact ⟨g, o, e, (hb.cell (p := ⟨g, o + i, none⟩) hlt).trans hc⟩⟩
theorem cutA_block {A : Option Addr} {c lo B : Nat} (hA : ∀ x, A = some x → x.block < B) : ∀ x, cutA A c lo = some x → x.block < B := by
  intro x hx
  unfold cutA at hx
  split at hx
  · exact hA x hx
  · cases A with
    | none => simp at hx
    | some a =>
      simp at hx
      have := hA a rfl
      rw [← hx]
      unfold Addr.add
      split <;> simpa using this
theorem Below.ofBl {B : Nat} {a b : World} (h : Bl a b) (hB : B ≤ a.heap.size) : Below B a b := Below.mono h hB
theorem Below.drewN {B : Nat} {a b : World} (h : Below B a b) (n : Nat) : Below B a (b.drewN n) := ⟨h.os, h.tape, h.output, h.size, h.block⟩

/-! ### endings -/
theorem ret_int {k : IntKind} {a b : Int} (h : a = b) : Ending.returned (.int k a) = .returned (.int k b) := by rw [h]
theorem ret_bool {a b : Bool} (h : a = b) : Ending.returned (.bool a) = .returned (.bool b) := by rw [h]
end Go.Proofs.Ytoljdgfbkebgcaa
namespace Go.Proofs.Ytoljdgfbkebgcaa
open Go.RowKit
set_option linter.unusedVariables false

/-- encoding/binary: two bytes. -/
theorem be16_any (A : Option Addr) (c : Nat) (l : List Int) (w : World) (h : Rd .u8 w A 2 c l) (hl : By l) :
    Calls Try.prog 91 #[.agg #[], .slice A 2 c] w fun e w' => e = .returned (.int .u16 (be l)) ∧ Bl w w' := by
  obtain ⟨g, o, rfl, hg, hc⟩ := h.at (by omega)
  have c0 := hc 0 (by omega)
  have c1 := hc 1 (by omega)
  have b0 := hl.getD 0
  have b1 := hl.getD 1
  have e := be2 l h.len
  generalize l.getD 0 0 = x at *
  generalize l.getD 1 0 = y at *
  have hv : bits .or .u16 y (x * 256) = be l := by rw [e, u16_or8 y (x * 256) (by omega) (by omega) (by omega) (by omega) (by omega)]; omega
  have HV := Lib.hid hv
  clear hv e hc h
  simp only [Nat.add_zero] at c0
  go_enter Try.func91, Try.ntmps91
  go_wp2
  go_quiet (fail)
  go_wp2
  go_ret
  exact ⟨ret_int HV.out, Bl.drewN ((Below.refl _ _).alloc (Nat.le_refl _) _) _⟩

/-- encoding/binary: four bytes. -/
theorem be32_any (A : Option Addr) (c : Nat) (l : List Int) (w : World) (h : Rd .u8 w A 4 c l) (hl : By l) :
    Calls Try.prog 90 #[.agg #[], .slice A 4 c] w fun e w' => e = .returned (.int .u32 (be l)) ∧ Bl w w' := by
  obtain ⟨g, o, rfl, hg, hc⟩ := h.at (by omega)
  have c0 := hc 0 (by omega)
  have c1 := hc 1 (by omega)
  have c2 := hc 2 (by omega)
  have c3 := hc 3 (by omega)
  have b0 := hl.getD 0
  have b1 := hl.getD 1
  have b2 := hl.getD 2
  have b3 := hl.getD 3
  have e := be4 l h.len
  generalize l.getD 0 0 = x at *
  generalize l.getD 1 0 = y at *
  generalize l.getD 2 0 = z at *
  generalize l.getD 3 0 = u at *
  have hv : bits .or .u32 (bits .or .u32 (bits .or .u32 u (z * 256)) (y * 65536)) (x * 16777216) = be l := by
    rw [u32_or8 u (z * 256) (by omega) (by omega) (by omega) (by omega) (by omega), u32_or16 _ (y * 65536) (by omega) (by omega) (by omega) (by omega) (by omega), u32_or24 _ (x * 16777216) (by omega) (by omega) (by omega) (by omega) (by omega), e]; omega
  have HV := Lib.hid hv
  clear hv e hc h
  simp only [Nat.add_zero] at c0
  go_enter Try.func90, Try.ntmps90
  go_wp2
  go_quiet (fail)
  go_wp2
  go_ret
  exact ⟨ret_int HV.out, Bl.drewN ((Below.refl _ _).alloc (Nat.le_refl _) _) _⟩

theorem i64_or8 (x y : Int) (hy₀ : 0 ≤ y) (hy : y < 256) (hx₀ : 0 ≤ x) (hx : x % 256 = 0) (hx₁ : x < 65536) : bits .or .i64 x y = x + y :=
  bits_join .i64 16 (by decide) (fun n h0 h1 => by rw [IntKind.wrap_i64]; omega) 8 x y hx₀ hx hx₁ hy₀ hy (by omega)

/-- impl.number -/
theorem number_any (A : Option Addr) (n c : Nat) (i : Nat) (l : List Int) (w : World) (h : Rd .u8 w A n c l) (hl : By l) (hi : i + 1 < n) (hn : n ≤ 2147483647) (ii : Int) (hii : ii = i) :
    Calls Try.prog 66 #[.slice A n c, .int .i64 ii] w fun e w' => e = .returned (.int .i64 (be (sub l i (i + 2)))) ∧ ∃ q, w' = w.drewN q := by
  subst hii
  obtain ⟨g, o, rfl, hg, hc⟩ := h.at (by omega)
  have c0 := hc i (by omega)
  have c1 := hc (i + 1) (by omega)
  have b0 := hl.getD i
  have b1 := hl.getD (i + 1)
  have e := be2 (sub l i (i + 2)) (by rw [sub_length]; omega; have := h.len; omega)
  rw [sub_getD _ _ _ _ (by omega), sub_getD _ _ _ _ (by omega)] at e
  simp only [Nat.add_zero] at e
  generalize l.getD i 0 = x at *
  generalize l.getD (i + 1) 0 = y at *
  have hv : bits .or .i64 (x * 256) y = be (sub l i (i + 2)) := by rw [e, i64_or8 (x * 256) y (by omega) (by omega) (by omega) (by omega) (by omega)]
  have HV := Lib.hid hv
  clear hv e hc h
  go_enter Try.func66, Try.ntmps66
  go_wp2
  go_quiet (fail)
  go_wp2
  go_ret
  exact ⟨ret_int HV.out, _, rfl⟩

theorem iup_any (n : Int) (h0 : 0 ≤ n) (h1 : n ≤ 65535) (w : World) :
    Calls Try.prog 74 #[.int .i64 n] w fun e w' => e = .returned (.int .i64 ((n + 3) / 4 * 4)) ∧ w = w' := by
  go_enter Try.func74, Try.ntmps74
  go_wp2
  go_ret
  exact ⟨rfl, rfl⟩
theorem sup_any (n : Int) (h0 : 0 ≤ n) (h1 : n ≤ 65535) (w : World) :
    Calls Try.prog 46 #[.int .i64 n] w fun e w' => e = .returned (.int .i64 ((n + 3) / 4 * 4)) ∧ w = w' := by
  go_enter Try.func46, Try.ntmps46
  go_wp2
  go_ret
  exact ⟨rfl, rfl⟩
theorem round_any (n : Int) (h0 : 0 ≤ n) (h1 : n ≤ 65535) (w : World) :
    Calls Try.prog 93 #[.int .i64 n] w fun e w' => e = .returned (.int .i64 ((n + 3) / 4 * 4)) ∧ w = w' := by
  by_cases h : n % 4 = 0
  · go_enter Try.func93, Try.ntmps93
    go_wp2
    go_ret
    exact ⟨ret_int (by omega), rfl⟩
  · go_enter Try.func93, Try.ntmps93
    go_wp2
    go_ret
    exact ⟨ret_int (by omega), rfl⟩
theorem bit_any (b : Bool) (w : World) :
    Calls Try.prog 71 #[.bool b] w fun e w' => e = .returned (.int .u64 (if b then 1 else 0)) ∧ w = w' := by
  cases b
  · go_enter Try.func71, Try.ntmps71
    go_wp2
    go_ret
    exact ⟨rfl, rfl⟩
  · go_enter Try.func71, Try.ntmps71
    go_wp2
    go_ret
    exact ⟨rfl, rfl⟩
/-- errors.New: some error, not nil. -/
theorem errNew_any (s : ByteArray) (w : World) :
    Calls Try.prog 76 #[.string s] w fun e w' => e = .returned (.iface 167 (.pointer (some ⟨w.heap.size, 0, none⟩))) ∧ Bl w w' := by
  go_enter Try.func76, Try.ntmps76
  go_wp2
  go_ret
  exact ⟨rfl, (Below.refl _ _).alloc (Nat.le_refl _) _⟩
end Go.Proofs.Ytoljdgfbkebgcaa
namespace Go.Proofs.Ytoljdgfbkebgcaa
open Go.RowKit
set_option linter.unusedVariables false
set_option maxHeartbeats 2000000 in
theorem sctp_bytes (A : Option Addr) (n c g : Nat) (l : List Int) (df : Value) (w : World) (h : Rd .u8 w A n c l) (hl : By l) (hn : 12 ≤ n) (hA : ∀ x, A = some x → x.block < g)
    (k0 : Blk w g #[.slice none 0 0, .slice none 0 0, .int .u16 0, .int .u16 0, .int .u32 0, .int .u32 0] 95) :
    Calls Try.prog 88 #[.pointer (some ⟨g, 0, none⟩), .slice A n c, df] w fun e w' => e = .returned .nilIface ∧
      Blk w' g #[.slice A 12 c, .slice (cutA A c 12) (n - 12) (c - 12), .int .u16 (be (sub l 0 2)), .int .u16 (be (sub l 2 4)), .int .u32 (be (sub l 4 8)), .int .u32 (be (sub l 8 12))] 95 ∧ Below g w w' := by
  have hcap := h.cap
  have s1 := run_cut_h A n c 2 2 rfl (by omega) 24 Try.underlying24 size5
  have s2 := run_cut A n c 2 4 2 4 rfl rfl (by omega) (by omega) 24 Try.underlying24 size5
  have s3 := run_cut A n c 4 8 4 8 rfl rfl (by omega) (by omega) 24 Try.underlying24 size5
  have s4 := run_cut A n c 8 12 8 12 rfl rfl (by omega) (by omega) 24 Try.underlying24 size5
  have s5 := run_cut_h A n c 12 12 rfl (by omega) 24 Try.underlying24 size5
  have s6 := run_cut_l A n c 12 12 rfl (by omega) 24 Try.underlying24 size5
  have R1 := Lib.hid (h.cut0 2 (by omega))
  have R2 := Lib.hid (h.cutm 2 4 2 (by omega) (by omega))
  have R3 := Lib.hid (h.cutm 4 8 4 (by omega) (by omega))
  have R4 := Lib.hid (h.cutm 8 12 4 (by omega) (by omega))
  have HA := Lib.hid hA
  have HB := Lib.hid hl
  have hg := k0.lt
  clear h hl hA
  go_enter Try.func88, Try.ntmps88
  go_wp2
  go_region_with (go_at_call 91; (with_reducible refine (be16_any _ _ _ _ (R1.out.belowB HA.out (Below.drew (Below.refl g w))) (HB.out.sub 0 2)).mono ?_); rintro e w1 ⟨rfl, hb1⟩; have k1 := Blk.keep hb1 (Blk.same k0 rfl); have c1 := k1.cell; have f1 := k1.frozen)
  have B1 : Below g w (w1.setCell ⟨g, 2, none⟩ (.int .u16 (be (sub l 0 2)))) := ((Below.drew (Below.refl g w)).trans (Below.ofBl hb1 (Nat.le_of_lt k0.lt))).setCell (Nat.le_refl _) _
  have K1 := k1.set 2 (.int .u16 (be (sub l 0 2)))
  clear k1 c1 f1 hb1
  generalize w1.setCell ⟨g, 2, none⟩ (.int .u16 (be (sub l 0 2))) = W1 at *
  go_wp2
  go_region_with (go_at_call 91; (with_reducible refine (be16_any _ _ _ _ (R2.out.belowB (cutA_block HA.out) (Below.drew B1)) (HB.out.sub 2 4)).mono ?_); rintro e w2 ⟨rfl, hb2⟩; have k2 := Blk.keep hb2 (Blk.same K1 rfl); have c2 := k2.cell; have f2 := k2.frozen)
  have B2 : Below g w (w2.setCell ⟨g, 3, none⟩ (.int .u16 (be (sub l 2 4)))) := ((Below.drew B1).trans (Below.ofBl hb2 (Nat.le_of_lt K1.lt))).setCell (Nat.le_refl _) _
  have K2 := k2.set 3 (.int .u16 (be (sub l 2 4)))
  clear k2 c2 f2 hb2
  generalize w2.setCell ⟨g, 3, none⟩ (.int .u16 (be (sub l 2 4))) = W2 at *
  go_wp2
  go_region_with (go_at_call 90; (with_reducible refine (be32_any _ _ _ _ (R3.out.belowB (cutA_block HA.out) (Below.drew B2)) (HB.out.sub 4 8)).mono ?_); rintro e w3 ⟨rfl, hb3⟩; have k3 := Blk.keep hb3 (Blk.same K2 rfl); have c3 := k3.cell; have f3 := k3.frozen)
  have B3 : Below g w (w3.setCell ⟨g, 4, none⟩ (.int .u32 (be (sub l 4 8)))) := ((Below.drew B2).trans (Below.ofBl hb3 (Nat.le_of_lt K2.lt))).setCell (Nat.le_refl _) _
  have K3 := k3.set 4 (.int .u32 (be (sub l 4 8)))
  clear k3 c3 f3 hb3
  generalize w3.setCell ⟨g, 4, none⟩ (.int .u32 (be (sub l 4 8))) = W3 at *
  go_wp2
  go_region_with (go_at_call 90; (with_reducible refine (be32_any _ _ _ _ (R4.out.belowB (cutA_block HA.out) (Below.drew B3)) (HB.out.sub 8 12)).mono ?_); rintro e w4 ⟨rfl, hb4⟩; have k4 := Blk.keep hb4 (Blk.same K3 rfl); have c4 := k4.cell; have f4 := k4.frozen)
  have B4 : Below g w (w4.setCell ⟨g, 5, none⟩ (.int .u32 (be (sub l 8 12)))) := ((Below.drew B3).trans (Below.ofBl hb4 (Nat.le_of_lt K3.lt))).setCell (Nat.le_refl _) _
  have K4 := k4.set 5 (.int .u32 (be (sub l 8 12)))
  clear k4 c4 f4 hb4
  generalize w4.setCell ⟨g, 5, none⟩ (.int .u32 (be (sub l 8 12))) = W4 at *
  go_wp2
  have c5 := K4.cell
  have f5 := K4.frozen
  go_region
  go_wp2
  go_ret
  refine ⟨rfl, ?_, ?_⟩
  · exact ((K4.same (w' := W4.drew) rfl).set 0 _).set 1 _
  · exact ((B4.drew).setCell (Nat.le_refl _) _).setCell (Nat.le_refl _) _

theorem addLayer_any (g : Nat) (x : Value) (T : TypeId) (u : Value) (w : World) (k : Blk w g #[x] 164) :
    Calls Try.prog 144 #[.pointer (some ⟨g, 0, none⟩), .iface T u] w fun e w' => e = .returned (.tuple #[]) ∧ w.setCell ⟨g, 0, none⟩ (.iface T u) = w' := by
  have c1 := k.cell
  have f1 := k.frozen
  go_enter Try.func144, Try.ntmps144
  go_wp2
  go_end0
  exact ⟨rfl, rfl⟩

/-- The memory behind a decoder: below the keeper's block as it was, the keeper holds the layer, the layer lies in a block of its own. -/
structure Kept (w w' : World) (gk : Nat) (T : TypeId) (E : TypeId) (gl : Nat) (cs : Array Value) : Prop where
  low : Below gk w w'
  keeper : Blk w' gk #[.iface T (.pointer (some ⟨gl, 0, none⟩))] 164
  layer : Blk w' gl cs E

set_option maxHeartbeats 1000000 in
theorem decSctp_any (A : Option Addr) (n c gk : Nat) (l : List Int) (w : World) (h : Rd .u8 w A n c l) (hl : By l) (hn : 12 ≤ n) (hA : ∀ x, A = some x → x.block < gk) (x : Value) (k : Blk w gk #[x] 164) :
    Calls Try.prog 77 #[.slice A n c, .iface 162 (.pointer (some ⟨gk, 0, none⟩))] w fun e w' => e = .returned .nilIface ∧
      ∃ gl, Kept w w' gk 90 95 gl #[.slice A 12 c, .slice (cutA A c 12) (n - 12) (c - 12), .int .u16 (be (sub l 0 2)), .int .u16 (be (sub l 2 4)), .int .u32 (be (sub l 4 8)), .int .u32 (be (sub l 8 12))] := by
  have hk := k.lt
  have H := Lib.hid h
  have HB := Lib.hid hl
  have HA := Lib.hid hA
  clear h hl hA
  go_enter Try.func77, Try.ntmps77
  go_wp2_with fail
  (with_reducible refine (sctp_bytes _ _ _ _ _ _ _ (H.out.below (by go_grown)) HB.out hn (fun x hx => Nat.lt_trans (HA.out x hx) hk) (Blk.new w _ _)).mono ?_)
  rintro e w1 ⟨rfl, kl, bl⟩
  have k1 : Blk w1 gk #[x] 164 := ⟨(bl.block gk hk).trans (k.alloc _).heap⟩
  have c1 := k1.cell
  have f1 := k1.frozen
  go_wp2_with fail
  (with_reducible refine (addLayer_any _ _ _ _ _ k1).mono ?_)
  rintro e w2 ⟨rfl, rfl⟩
  go_wp2_with fail
  go_ret
  exact ⟨rfl, w.heap.size, (((Below.refl gk w).alloc (Nat.le_of_lt hk) _).trans (bl.mono (Nat.le_of_lt hk))).setCell (Nat.le_refl _) _, k1.set 0 _, kl.far (Nat.ne_of_gt hk) _⟩

/-- Fewer than twelve bytes: an error (the layer is kept all the same). -/
theorem sctp_short (A : Option Addr) (n c g : Nat) (df : Value) (w : World) (hn : n < 12) :
    Calls Try.prog 88 #[.pointer (some ⟨g, 0, none⟩), .slice A n c, df] w fun e w' => (∃ u, e = .returned (.iface 167 u)) ∧ Bl w w' := by
  go_enter Try.func88, Try.ntmps88
  go_wp2_with (go_at_call 76; (with_reducible refine (errNew_any _ _).mono ?_); rintro e w1 ⟨rfl, hb1⟩)
  go_ret
  exact ⟨⟨_, rfl⟩, by assumption⟩
theorem decSctp_short (A : Option Addr) (n c gk : Nat) (w : World) (hn : n < 12) (x : Value) (k : Blk w gk #[x] 164) :
    Calls Try.prog 77 #[.slice A n c, .iface 162 (.pointer (some ⟨gk, 0, none⟩))] w fun e w' => (∃ u, e = .returned (.iface 167 u)) ∧ Below gk w w' := by
  have hk := k.lt
  go_enter Try.func77, Try.ntmps77
  go_wp2_with fail
  (with_reducible refine (sctp_short _ _ _ _ _ _ hn).mono ?_)
  rintro e w1 ⟨⟨u, rfl⟩, bl⟩
  have k1 := Blk.keep bl (k.alloc _)
  have c1 := k1.cell
  have f1 := k1.frozen
  go_wp2_with fail
  (with_reducible refine (addLayer_any _ _ _ _ _ k1).mono ?_)
  rintro e w2 ⟨rfl, rfl⟩
  go_wp2_with fail
  go_ret
  exact ⟨⟨_, rfl⟩, (((Below.refl gk w).alloc (Nat.le_of_lt hk) _).trans (Below.ofBl bl (by simp; omega))).setCell (Nat.le_refl _) _⟩
end Go.Proofs.Ytoljdgfbkebgcaa
namespace Go.Proofs.Ytoljdgfbkebgcaa
open Go.RowKit
set_option linter.unusedVariables false

structure Prt where
  nums : List Int
  data : List Int
structure Lyr where
  nums : List Int
  data : List (List Int)
  parts : List Prt
  payload : List Int
def Prt.nil : Prt := ⟨[], []⟩

/-- Blocks that are read: below B, or not yet there when the call began. -/
def Fr (B : Nat) (w : World) (k : Nat) : Prop := k < B ∨ w.heap.size ≤ k
/-- A slice's block is one of F (where there is an element). -/
def InF (F : Nat → Prop) (A : Option Addr) (n : Nat) : Prop := 0 < n → ∀ x, A = some x → F x.block
def NumV (F : Nat → Prop) (w : World) (v : Value) (l : List Int) : Prop := ∃ A c, v = .slice A l.length c ∧ InF F A l.length ∧ Rd .u64 w A l.length c l
def BytV (F : Nat → Prop) (w : World) (v : Value) (l : List Int) : Prop := (∃ A c, v = .slice A l.length c ∧ InF F A l.length ∧ Rd .u8 w A l.length c l) ∧ By l
def DataV (F : Nat → Prop) (w : World) (v : Value) (d : List (List Int)) : Prop :=
  ∃ A c, v = .slice A d.length c ∧ d.length ≤ c ∧ InF F A d.length ∧ ∀ i, i < d.length → ∃ g o u, A = some ⟨g, o, none⟩ ∧ w.cell? ⟨g, o + i, none⟩ = some u ∧ BytV F w u (d.getD i [])
def PartsV (F : Nat → Prop) (w : World) (v : Value) (ps : List Prt) : Prop :=
  ∃ A c, v = .slice A ps.length c ∧ ps.length ≤ c ∧ InF F A ps.length ∧ ∀ i, i < ps.length → ∃ g o u0 u1, A = some ⟨g, o, none⟩ ∧ w.cell? ⟨g, o + i * 2, none⟩ = some u0 ∧ w.cell? ⟨g, o + i * 2 + 1, none⟩ = some u1 ∧
    NumV F w u0 (ps.getD i Prt.nil).nums ∧ BytV F w u1 (ps.getD i Prt.nil).data
def LyrV (F : Nat → Prop) (w : World) (v : Value) (L : Lyr) : Prop :=
  ∃ v0 v1 v2 v3, v = .agg #[v0, v1, v2, v3] ∧ NumV F w v0 L.nums ∧ DataV F w v1 L.data ∧ PartsV F w v2 L.parts ∧ BytV F w v3 L.payload

/-- F's blocks are as they were. -/
def KeepF (F : Nat → Prop) (w w' : World) : Prop := ∀ k, F k → k < w.heap.size → w'.heap[k]? = w.heap[k]?
theorem KeepF.bl {F : Nat → Prop} {w w' : World} (hb : Bl w w') : KeepF F w w' := fun k _ hk => hb.block k hk
theorem KeepF.refl (F : Nat → Prop) (w : World) : KeepF F w w := fun _ _ _ => rfl
theorem KeepF.trans {F : Nat → Prop} {a b c : World} (h : KeepF F a b) (k : KeepF F b c) (hs : a.heap.size ≤ b.heap.size) : KeepF F a c :=
  fun i hi hlt => (k i hi (Nat.lt_of_lt_of_le hlt hs)).trans (h i hi hlt)
theorem KeepF.setCell {F : Nat → Prop} {a b : World} (h : KeepF F a b) {p : Addr} (hp : ¬ F p.block) (u : Value) : KeepF F a (b.setCell p u) :=
  fun i hi hlt => (Below.heap_setCell b p u i (fun e => hp (e ▸ hi))).trans (h i hi hlt)
theorem KeepF.cell {F : Nat → Prop} {w w' : World} (h : KeepF F w w') {a : Addr} {v : Value} (hF : F a.block) (hc : w.cell? a = some v) : w'.cell? a = some v :=
  (World.cell?_of_block (h a.block hF (World.block_lt_of_cell? w a hc))).trans hc
theorem Rd.keepF {F : Nat → Prop} {k : IntKind} {w w' : World} {A : Option Addr} {n c : Nat} {l : List Int} (h : Rd k w A n c l) (hA : InF F A n) (hk : KeepF F w w') : Rd k w' A n c l :=
  ⟨h.len, h.cap, fun i hi => by
    obtain ⟨g, o, e, hc⟩ := h.cell i hi
    have hF : F g := hA (by omega) _ e
    exact ⟨g, o, e, hk.cell (a := ⟨g, o + i, none⟩) hF hc⟩⟩
theorem NumV.keepF {F : Nat → Prop} {w w' : World} {v : Value} {l : List Int} (h : NumV F w v l) (hk : KeepF F w w') : NumV F w' v l := by
  obtain ⟨A, c, e, hA, h⟩ := h
  exact ⟨A, c, e, hA, h.keepF hA hk⟩
theorem BytV.keepF {F : Nat → Prop} {w w' : World} {v : Value} {l : List Int} (h : BytV F w v l) (hk : KeepF F w w') : BytV F w' v l := by
  obtain ⟨⟨A, c, e, hA, h⟩, hB⟩ := h
  exact ⟨⟨A, c, e, hA, h.keepF hA hk⟩, hB⟩
theorem DataV.keepF {F : Nat → Prop} {w w' : World} {v : Value} {d : List (List Int)} (h : DataV F w v d) (hk : KeepF F w w') : DataV F w' v d := by
  obtain ⟨A, c, e, hc, hA, h⟩ := h
  refine ⟨A, c, e, hc, hA, fun i hi => ?_⟩
  obtain ⟨g, o, u, e, h1, h2⟩ := h i hi
  have hF : F g := hA (by omega) _ e
  exact ⟨g, o, u, e, hk.cell (a := ⟨g, o + i, none⟩) hF h1, h2.keepF hk⟩
theorem PartsV.keepF {F : Nat → Prop} {w w' : World} {v : Value} {ps : List Prt} (h : PartsV F w v ps) (hk : KeepF F w w') : PartsV F w' v ps := by
  obtain ⟨A, c, e, hc, hA, h⟩ := h
  refine ⟨A, c, e, hc, hA, fun i hi => ?_⟩
  obtain ⟨g, o, u0, u1, e, h1, h2, h3, h4⟩ := h i hi
  have hF : F g := hA (by omega) _ e
  exact ⟨g, o, u0, u1, e, hk.cell (a := ⟨g, o + i * 2, none⟩) hF h1, hk.cell (a := ⟨g, o + i * 2 + 1, none⟩) hF h2, h3.keepF hk, h4.keepF hk⟩
theorem LyrV.keepF {F : Nat → Prop} {w w' : World} {v : Value} {L : Lyr} (h : LyrV F w v L) (hk : KeepF F w w') : LyrV F w' v L := by
  obtain ⟨v0, v1, v2, v3, e, h0, h1, h2, h3⟩ := h
  exact ⟨v0, v1, v2, v3, e, h0.keepF hk, h1.keepF hk, h2.keepF hk, h3.keepF hk⟩
theorem InF.mono {F G : Nat → Prop} {A : Option Addr} {n : Nat} (h : InF F A n) (hFG : ∀ k, F k → G k) : InF G A n := fun hn x hx => hFG _ (h hn x hx)
theorem NumV.mono {F G : Nat → Prop} {w : World} {v : Value} {l : List Int} (h : NumV F w v l) (hFG : ∀ k, F k → G k) : NumV G w v l := by
  obtain ⟨A, c, e, hA, h⟩ := h
  exact ⟨A, c, e, hA.mono hFG, h⟩
theorem BytV.mono {F G : Nat → Prop} {w : World} {v : Value} {l : List Int} (h : BytV F w v l) (hFG : ∀ k, F k → G k) : BytV G w v l := by
  obtain ⟨⟨A, c, e, hA, h⟩, hB⟩ := h
  exact ⟨⟨A, c, e, hA.mono hFG, h⟩, hB⟩
theorem DataV.mono {F G : Nat → Prop} {w : World} {v : Value} {d : List (List Int)} (h : DataV F w v d) (hFG : ∀ k, F k → G k) : DataV G w v d := by
  obtain ⟨A, c, e, hc, hA, h⟩ := h
  refine ⟨A, c, e, hc, hA.mono hFG, fun i hi => ?_⟩
  obtain ⟨g, o, u, e, h1, h2⟩ := h i hi
  exact ⟨g, o, u, e, h1, h2.mono hFG⟩
theorem PartsV.mono {F G : Nat → Prop} {w : World} {v : Value} {ps : List Prt} (h : PartsV F w v ps) (hFG : ∀ k, F k → G k) : PartsV G w v ps := by
  obtain ⟨A, c, e, hc, hA, h⟩ := h
  refine ⟨A, c, e, hc, hA.mono hFG, fun i hi => ?_⟩
  obtain ⟨g, o, u0, u1, e, h1, h2, h3, h4⟩ := h i hi
  exact ⟨g, o, u0, u1, e, h1, h2, h3.mono hFG, h4.mono hFG⟩
theorem LyrV.mono {F G : Nat → Prop} {w : World} {v : Value} {L : Lyr} (h : LyrV F w v L) (hFG : ∀ k, F k → G k) : LyrV G w v L := by
  obtain ⟨v0, v1, v2, v3, e, h0, h1, h2, h3⟩ := h
  exact ⟨v0, v1, v2, v3, e, h0.mono hFG, h1.mono hFG, h2.mono hFG, h3.mono hFG⟩
theorem NumV.below {F : Nat → Prop} {w w' : World} {v : Value} {l : List Int} (h : NumV F w v l) (hb : Bl w w') : NumV F w' v l := h.keepF (KeepF.bl hb)
theorem BytV.below {F : Nat → Prop} {w w' : World} {v : Value} {l : List Int} (h : BytV F w v l) (hb : Bl w w') : BytV F w' v l := h.keepF (KeepF.bl hb)
theorem DataV.below {F : Nat → Prop} {w w' : World} {v : Value} {d : List (List Int)} (h : DataV F w v d) (hb : Bl w w') : DataV F w' v d := h.keepF (KeepF.bl hb)
theorem PartsV.below {F : Nat → Prop} {w w' : World} {v : Value} {ps : List Prt} (h : PartsV F w v ps) (hb : Bl w w') : PartsV F w' v ps := h.keepF (KeepF.bl hb)
theorem LyrV.below {F : Nat → Prop} {w w' : World} {v : Value} {L : Lyr} (h : LyrV F w v L) (hb : Bl w w') : LyrV F w' v L := h.keepF (KeepF.bl hb)
theorem Bl.keeps {w w' : World} (hb : Bl w w') {a : Addr} {v : Value} (h : w.cell? a = some v) : w'.cell? a = some v := (hb.cell (World.block_lt_of_cell? w a h)).trans h
theorem Fr.mono {B : Nat} {w w' : World} (h : w.heap.size ≤ w'.heap.size) : ∀ k, Fr B w' k → Fr B w k := fun _ hk => hk.elim .inl (fun h' => .inr (Nat.le_trans h h'))
theorem Fr.not {B g : Nat} {w : World} (h1 : B ≤ g) (h2 : g < w.heap.size) : ¬ Fr B w g := fun h => h.elim (fun h => by omega) (fun h => by omega)

theorem InF.zero (F : Nat → Prop) (A : Option Addr) : InF F A 0 := fun h => absurd h (by omega)
theorem Rd.nil (k : IntKind) (w : World) (A : Option Addr) (c : Nat) : Rd k w A 0 c [] := ⟨rfl, Nat.zero_le _, fun i hi => absurd hi (by omega)⟩
theorem NumV.nil (F : Nat → Prop) (w : World) : NumV F w (.slice none 0 0) [] := ⟨none, 0, rfl, InF.zero _ _, Rd.nil _ _ _ _⟩
theorem By.nil : By [] := fun x hx => by simp at hx
theorem BytV.nil (F : Nat → Prop) (w : World) : BytV F w (.slice none 0 0) [] := ⟨⟨none, 0, rfl, InF.zero _ _, Rd.nil _ _ _ _⟩, By.nil⟩
theorem DataV.nil (F : Nat → Prop) (w : World) : DataV F w (.slice none 0 0) [] := ⟨none, 0, rfl, Nat.le_refl _, InF.zero _ _, fun i hi => by simp at hi⟩
theorem PartsV.nil (F : Nat → Prop) (w : World) : PartsV F w (.slice none 0 0) [] := ⟨none, 0, rfl, Nat.le_refl _, InF.zero _ _, fun i hi => by simp at hi⟩
theorem LyrV.zero (F : Nat → Prop) (w : World) : LyrV F w (.agg #[.slice none 0 0, .slice none 0 0, .slice none 0 0, .slice none 0 0]) ⟨[], [], [], []⟩ :=
  ⟨_, _, _, _, rfl, NumV.nil _ _, DataV.nil _ _, PartsV.nil _ _, BytV.nil _ _⟩
theorem Rd.bytV {F : Nat → Prop} {w : World} {A : Option Addr} {n c : Nat} {l : List Int} (h : Rd .u8 w A n c l) (hA : InF F A n) (hl : By l) : BytV F w (.slice A n c) l := by
  have := h.len
  subst this
  exact ⟨⟨A, c, rfl, hA, h⟩, hl⟩
theorem cutA_inF {F : Nat → Prop} {A : Option Addr} {c lo m n : Nat} (hA : InF F A n) (hm : 0 < m → 0 < n) : InF F (cutA A c lo) m := by
  intro h0 x hx
  have hA' := hA (hm h0)
  unfold cutA at hx
  split at hx
  · exact hA' x hx
  · cases A with
    | none => simp at hx
    | some a =>
      simp at hx
      have := hA' a rfl
      rw [← hx]
      unfold Addr.add
      split <;> simpa using this
/-- The block of an argument that is read lies below the heap's end. -/
theorem Rd.inF {k : IntKind} {w : World} {A : Option Addr} {n c : Nat} {l : List Int} (h : Rd k w A n c l) : InF (· < w.heap.size) A n := by
  intro h0 x hx
  obtain ⟨g, o, e, hc⟩ := h.cell 0 h0
  rw [hx] at e
  simp at e
  subst e
  exact World.block_lt_of_cell? w _ hc

theorem LyrV.form {F : Nat → Prop} {w : World} {v : Value} {L : Lyr} (h : LyrV F w v L) :
    ∃ A0 c0 A1 c1 A2 c2 A3 c3, v = .agg #[.slice A0 L.nums.length c0, .slice A1 L.data.length c1, .slice A2 L.parts.length c2, .slice A3 L.payload.length c3] := by
  obtain ⟨v0, v1, v2, v3, rfl, ⟨A0, c0, rfl, _⟩, ⟨A1, c1, rfl, _⟩, ⟨A2, c2, rfl, _⟩, ⟨⟨A3, c3, rfl, _⟩, _⟩⟩ := h
  exact ⟨_, _, _, _, _, _, _, _, rfl⟩
/-- A layer stays where a box of another block is filled. -/
theorem LyrV.boxed {F : Nat → Prop} {w : World} {v : Value} {L : Lyr} {g : Nat} (h : LyrV F w v L) (hF : ¬ F g) (u0 u1 u2 u3 : Value) :
    LyrV F ((((w.setCell ⟨g, 0, none⟩ u0).setCell ⟨g, 1, none⟩ u1).setCell ⟨g, 2, none⟩ u2).setCell ⟨g, 3, none⟩ u3) v L :=
  h.keepF (((((KeepF.refl F w).setCell (p := ⟨g, 0, none⟩) hF u0).setCell (p := ⟨g, 1, none⟩) hF u1).setCell (p := ⟨g, 2, none⟩) hF u2).setCell (p := ⟨g, 3, none⟩) hF u3)
theorem Bl.boxed {w w1 : World} {g : Nat} (hb : Bl w w1) (hg : w.heap.size ≤ g) (u0 u1 u2 u3 : Value) :
    Bl w ((((w1.setCell ⟨g, 0, none⟩ u0).setCell ⟨g, 1, none⟩ u1).setCell ⟨g, 2, none⟩ u2).setCell ⟨g, 3, none⟩ u3) :=
  (((Below.setCell hb hg _).setCell hg _).setCell hg _).setCell hg _
/-- A block's cells as a row of numbers. -/
theorem Blk.rd {w : World} {g c : Nat} {cs : Array Value} {T : TypeId} (k : IntKind) (h : Blk w g cs T) (l : List Int) (hc : l.length ≤ c) (hcs : ∀ i, i < l.length → cs[i]? = some (.int k (l.getD i 0))) :
    Rd k w (some ⟨g, 0, none⟩) l.length c l :=
  ⟨rfl, hc, fun i hi => ⟨g, 0, rfl, by rw [Nat.zero_add, h.cell]; exact hcs i hi⟩⟩
theorem cells_getD (k : IntKind) (l : List Int) (i : Nat) (hi : i < l.length) : (l.map (Value.int k)).toArray[i]? = some (.int k (l.getD i 0)) := by
  simp [List.getElem?_eq_getElem hi, List.getD_eq_getElem?_getD]
theorem Blk.numV {F : Nat → Prop} {w : World} {g : Nat} {cs : Array Value} {T : TypeId} (h : Blk w g cs T) (hF : F g) (l : List Int) (hcs : cs = (l.map (Value.int .u64)).toArray) : NumV F w (.slice (some ⟨g, 0, none⟩) l.length l.length) l :=
  ⟨_, _, rfl, fun _ x hx => by simp at hx; subst hx; exact hF, h.rd .u64 l (Nat.le_refl _) (fun i hi => by rw [hcs]; exact cells_getD _ _ _ hi)⟩

theorem NumV.of_block {F : Nat → Prop} {w : World} {g n : Nat} {cs : Array Value} {T : TypeId} (l : List Int) (hF : F g) (h : w.heap[g]? = some (.cells cs T (0, 0))) (hcs : cs = (l.map (Value.int .u64)).toArray) (hn : n = l.length) :
    NumV F w (.slice (some ⟨g, 0, none⟩) n n) l := by
  subst hn
  exact Blk.numV ⟨h⟩ hF l hcs
/-- A row of one's own as a row that is read. -/
theorem own_rd {w : World} {base n : Nat} {e : TypeId} {k : IntKind} {v : Value} {l : List Int} (h : w.ownsRow base e 1 v n (l.map (Value.int k))) : ∃ A c, v = .slice A n c ∧ Rd k w A n c l := by
  have hl : l.length = n := by have := h.1; simpa using this
  rcases h.2 with ⟨rfl, rfl⟩ | ⟨g, cap, cur, rfl, hg, hh, hn, hm, hs, ht⟩
  · exact ⟨none, 0, rfl, ⟨hl, Nat.le_refl _, fun i hi => absurd hi (by omega)⟩⟩
  · refine ⟨_, _, rfl, ⟨hl, hn, fun i hi => ⟨g, 0, rfl, ?_⟩⟩⟩
    have hc := h.cells (g := g) rfl i (.int k (l.getD i 0)) (by simp [List.getElem?_eq_getElem (show i < l.length by omega), List.getD_eq_getElem?_getD])
    rw [add_add] at hc
    exact hc
end Go.Proofs.Ytoljdgfbkebgcaa
