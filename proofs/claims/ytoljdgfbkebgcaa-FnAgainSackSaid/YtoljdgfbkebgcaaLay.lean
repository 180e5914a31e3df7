/- Layers as data: what a value of the type Layer holds in memory. -/
import Derived.Test.YtoljdgfbkebgcaaBase
namespace Go.Proofs.Ytoljdgfbkebgcaa
open Go.RowKit

structure Prt where
  nums : List Int
  data : List Int
structure Lyr where
  nums : List Int
  data : List (List Int)
  parts : List Prt
  payload : List Int
def Prt.nil : Prt := ⟨[], []⟩

/-- Blocks that are read: below B, or not yet there when the call began. -/
def Fr (B : Nat) (w : World) (k : Nat) : Prop := k < B ∨ w.heap.size ≤ k
/-- A slice's block is one of F (where there is an element). -/
def InF (F : Nat → Prop) (A : Option Addr) (n : Nat) : Prop := 0 < n → ∀ x, A = some x → F x.block
def NumV (F : Nat → Prop) (w : World) (v : Value) (l : List Int) : Prop := ∃ A c, v = .slice A l.length c ∧ InF F A l.length ∧ Rd .u64 w A l.length c l
def BytV (F : Nat → Prop) (w : World) (v : Value) (l : List Int) : Prop := (∃ A c, v = .slice A l.length c ∧ InF F A l.length ∧ Rd .u8 w A l.length c l) ∧ By l
def DataV (F : Nat → Prop) (w : World) (v : Value) (d : List (List Int)) : Prop :=
  ∃ A c, v = .slice A d.length c ∧ d.length ≤ c ∧ InF F A d.length ∧ ∀ i, i < d.length → ∃ g o u, A = some ⟨g, o, none⟩ ∧ w.cell? ⟨g, o + i, none⟩ = some u ∧ BytV F w u (d.getD i [])
def PartsV (F : Nat → Prop) (w : World) (v : Value) (ps : List Prt) : Prop :=
  ∃ A c, v = .slice A ps.length c ∧ ps.length ≤ c ∧ InF F A ps.length ∧ ∀ i, i < ps.length → ∃ g o u0 u1, A = some ⟨g, o, none⟩ ∧ w.cell? ⟨g, o + i * 2, none⟩ = some u0 ∧ w.cell? ⟨g, o + i * 2 + 1, none⟩ = some u1 ∧
    NumV F w u0 (ps.getD i Prt.nil).nums ∧ BytV F w u1 (ps.getD i Prt.nil).data
def LyrV (F : Nat → Prop) (w : World) (v : Value) (L : Lyr) : Prop :=
  ∃ v0 v1 v2 v3, v = .agg #[v0, v1, v2, v3] ∧ NumV F w v0 L.nums ∧ DataV F w v1 L.data ∧ PartsV F w v2 L.parts ∧ BytV F w v3 L.payload

/-- F's blocks are as they were. -/
def KeepF (F : Nat → Prop) (w w' : World) : Prop := ∀ k, F k → k < w.heap.size → w'.heap[k]? = w.heap[k]?
theorem KeepF.bl {F : Nat → Prop} {w w' : World} (hb : Bl w w') : KeepF F w w' := fun k _ hk => hb.block k hk
theorem KeepF.refl (F : Nat → Prop) (w : World) : KeepF F w w := fun _ _ _ => rfl
theorem KeepF.trans {F : Nat → Prop} {a b c : World} (h : KeepF F a b) (k : KeepF F b c) (hs : a.heap.size ≤ b.heap.size) : KeepF F a c :=
  fun i hi hlt => (k i hi (Nat.lt_of_lt_of_le hlt hs)).trans (h i hi hlt)
theorem KeepF.setCell {F : Nat → Prop} {a b : World} (h : KeepF F a b) {p : Addr} (hp : ¬ F p.block) (u : Value) : KeepF F a (b.setCell p u) :=
  fun i hi hlt => (Below.heap_setCell b p u i (fun e => hp (e ▸ hi))).trans (h i hi hlt)
theorem KeepF.cell {F : Nat → Prop} {w w' : World} (h : KeepF F w w') {a : Addr} {v : Value} (hF : F a.block) (hc : w.cell? a = some v) : w'.cell? a = some v :=
  (World.cell?_of_block (h a.block hF (World.block_lt_of_cell? w a hc))).trans hc
theorem Rd.keepF {F : Nat → Prop} {k : IntKind} {w w' : World} {A : Option Addr} {n c : Nat} {l : List Int} (h : Rd k w A n c l) (hA : InF F A n) (hk : KeepF F w w') : Rd k w' A n c l :=
  ⟨h.len, h.cap, fun i hi => by
    obtain ⟨g, o, e, hc⟩ := h.cell i hi
    have hF : F g := hA (by omega) _ e
    exact ⟨g, o, e, hk.cell (a := ⟨g, o + i, none⟩) hF hc⟩⟩
theorem NumV.keepF {F : Nat → Prop} {w w' : World} {v : Value} {l : List Int} (h : NumV F w v l) (hk : KeepF F w w') : NumV F w' v l := by
  obtain ⟨A, c, e, hA, h⟩ := h
  exact ⟨A, c, e, hA, h.keepF hA hk⟩
theorem BytV.keepF {F : Nat → Prop} {w w' : World} {v : Value} {l : List Int} (h : BytV F w v l) (hk : KeepF F w w') : BytV F w' v l := by
  obtain ⟨⟨A, c, e, hA, h⟩, hB⟩ := h
  exact ⟨⟨A, c, e, hA, h.keepF hA hk⟩, hB⟩
theorem DataV.keepF {F : Nat → Prop} {w w' : World} {v : Value} {d : List (List Int)} (h : DataV F w v d) (hk : KeepF F w w') : DataV F w' v d := by
  obtain ⟨A, c, e, hc, hA, h⟩ := h
  refine ⟨A, c, e, hc, hA, fun i hi => ?_⟩
  obtain ⟨g, o, u, e, h1, h2⟩ := h i hi
  have hF : F g := hA (by omega) _ e
  exact ⟨g, o, u, e, hk.cell (a := ⟨g, o + i, none⟩) hF h1, h2.keepF hk⟩
theorem PartsV.keepF {F : Nat → Prop} {w w' : World} {v : Value} {ps : List Prt} (h : PartsV F w v ps) (hk : KeepF F w w') : PartsV F w' v ps := by
  obtain ⟨A, c, e, hc, hA, h⟩ := h
  refine ⟨A, c, e, hc, hA, fun i hi => ?_⟩
  obtain ⟨g, o, u0, u1, e, h1, h2, h3, h4⟩ := h i hi
  have hF : F g := hA (by omega) _ e
  exact ⟨g, o, u0, u1, e, hk.cell (a := ⟨g, o + i * 2, none⟩) hF h1, hk.cell (a := ⟨g, o + i * 2 + 1, none⟩) hF h2, h3.keepF hk, h4.keepF hk⟩
theorem LyrV.keepF {F : Nat → Prop} {w w' : World} {v : Value} {L : Lyr} (h : LyrV F w v L) (hk : KeepF F w w') : LyrV F w' v L := by
  obtain ⟨v0, v1, v2, v3, e, h0, h1, h2, h3⟩ := h
  exact ⟨v0, v1, v2, v3, e, h0.keepF hk, h1.keepF hk, h2.keepF hk, h3.keepF hk⟩
theorem InF.mono {F G : Nat → Prop} {A : Option Addr} {n : Nat} (h : InF F A n) (hFG : ∀ k, F k → G k) : InF G A n := fun hn x hx => hFG _ (h hn x hx)
theorem NumV.mono {F G : Nat → Prop} {w : World} {v : Value} {l : List Int} (h : NumV F w v l) (hFG : ∀ k, F k → G k) : NumV G w v l := by
  obtain ⟨A, c, e, hA, h⟩ := h
  exact ⟨A, c, e, hA.mono hFG, h⟩
theorem BytV.mono {F G : Nat → Prop} {w : World} {v : Value} {l : List Int} (h : BytV F w v l) (hFG : ∀ k, F k → G k) : BytV G w v l := by
  obtain ⟨⟨A, c, e, hA, h⟩, hB⟩ := h
  exact ⟨⟨A, c, e, hA.mono hFG, h⟩, hB⟩
theorem DataV.mono {F G : Nat → Prop} {w : World} {v : Value} {d : List (List Int)} (h : DataV F w v d) (hFG : ∀ k, F k → G k) : DataV G w v d := by
  obtain ⟨A, c, e, hc, hA, h⟩ := h
  refine ⟨A, c, e, hc, hA.mono hFG, fun i hi => ?_⟩
  obtain ⟨g, o, u, e, h1, h2⟩ := h i hi
  exact ⟨g, o, u, e, h1, h2.mono hFG⟩
theorem PartsV.mono {F G : Nat → Prop} {w : World} {v : Value} {ps : List Prt} (h : PartsV F w v ps) (hFG : ∀ k, F k → G k) : PartsV G w v ps := by
  obtain ⟨A, c, e, hc, hA, h⟩ := h
  refine ⟨A, c, e, hc, hA.mono hFG, fun i hi => ?_⟩
  obtain ⟨g, o, u0, u1, e, h1, h2, h3, h4⟩ := h i hi
  exact ⟨g, o, u0, u1, e, h1, h2, h3.mono hFG, h4.mono hFG⟩
theorem LyrV.mono {F G : Nat → Prop} {w : World} {v : Value} {L : Lyr} (h : LyrV F w v L) (hFG : ∀ k, F k → G k) : LyrV G w v L := by
  obtain ⟨v0, v1, v2, v3, e, h0, h1, h2, h3⟩ := h
  exact ⟨v0, v1, v2, v3, e, h0.mono hFG, h1.mono hFG, h2.mono hFG, h3.mono hFG⟩
theorem NumV.below {F : Nat → Prop} {w w' : World} {v : Value} {l : List Int} (h : NumV F w v l) (hb : Bl w w') : NumV F w' v l := h.keepF (KeepF.bl hb)
theorem BytV.below {F : Nat → Prop} {w w' : World} {v : Value} {l : List Int} (h : BytV F w v l) (hb : Bl w w') : BytV F w' v l := h.keepF (KeepF.bl hb)
theorem DataV.below {F : Nat → Prop} {w w' : World} {v : Value} {d : List (List Int)} (h : DataV F w v d) (hb : Bl w w') : DataV F w' v d := h.keepF (KeepF.bl hb)
theorem PartsV.below {F : Nat → Prop} {w w' : World} {v : Value} {ps : List Prt} (h : PartsV F w v ps) (hb : Bl w w') : PartsV F w' v ps := h.keepF (KeepF.bl hb)
theorem LyrV.below {F : Nat → Prop} {w w' : World} {v : Value} {L : Lyr} (h : LyrV F w v L) (hb : Bl w w') : LyrV F w' v L := h.keepF (KeepF.bl hb)
theorem Bl.keeps {w w' : World} (hb : Bl w w') {a : Addr} {v : Value} (h : w.cell? a = some v) : w'.cell? a = some v := (hb.cell (World.block_lt_of_cell? w a h)).trans h
theorem Fr.mono {B : Nat} {w w' : World} (h : w.heap.size ≤ w'.heap.size) : ∀ k, Fr B w' k → Fr B w k := fun _ hk => hk.elim .inl (fun h' => .inr (Nat.le_trans h h'))
theorem Fr.not {B g : Nat} {w : World} (h1 : B ≤ g) (h2 : g < w.heap.size) : ¬ Fr B w g := fun h => h.elim (fun h => by omega) (fun h => by omega)

theorem InF.zero (F : Nat → Prop) (A : Option Addr) : InF F A 0 := fun h => absurd h (by omega)
theorem Rd.nil (k : IntKind) (w : World) (A : Option Addr) (c : Nat) : Rd k w A 0 c [] := ⟨rfl, Nat.zero_le _, fun i hi => absurd hi (by omega)⟩
theorem NumV.nil (F : Nat → Prop) (w : World) : NumV F w (.slice none 0 0) [] := ⟨none, 0, rfl, InF.zero _ _, Rd.nil _ _ _ _⟩
theorem By.nil : By [] := fun x hx => by simp at hx
theorem BytV.nil (F : Nat → Prop) (w : World) : BytV F w (.slice none 0 0) [] := ⟨⟨none, 0, rfl, InF.zero _ _, Rd.nil _ _ _ _⟩, By.nil⟩
theorem DataV.nil (F : Nat → Prop) (w : World) : DataV F w (.slice none 0 0) [] := ⟨none, 0, rfl, Nat.le_refl _, InF.zero _ _, fun i hi => by simp at hi⟩
theorem PartsV.nil (F : Nat → Prop) (w : World) : PartsV F w (.slice none 0 0) [] := ⟨none, 0, rfl, Nat.le_refl _, InF.zero _ _, fun i hi => by simp at hi⟩
theorem LyrV.zero (F : Nat → Prop) (w : World) : LyrV F w (.agg #[.slice none 0 0, .slice none 0 0, .slice none 0 0, .slice none 0 0]) ⟨[], [], [], []⟩ :=
  ⟨_, _, _, _, rfl, NumV.nil _ _, DataV.nil _ _, PartsV.nil _ _, BytV.nil _ _⟩
theorem Rd.bytV {F : Nat → Prop} {w : World} {A : Option Addr} {n c : Nat} {l : List Int} (h : Rd .u8 w A n c l) (hA : InF F A n) (hl : By l) : BytV F w (.slice A n c) l := by
  have := h.len
  subst this
  exact ⟨⟨A, c, rfl, hA, h⟩, hl⟩
theorem cutA_inF {F : Nat → Prop} {A : Option Addr} {c lo m n : Nat} (hA : InF F A n) (hm : 0 < m → 0 < n) : InF F (cutA A c lo) m := by
  intro h0 x hx
  have hA' := hA (hm h0)
  unfold cutA at hx
  split at hx
  · exact hA' x hx
  · cases A with
    | none => simp at hx
    | some a =>
      simp at hx
      have := hA' a rfl
      rw [← hx]
      unfold Addr.add
      split <;> simpa using this
/-- The block of an argument that is read lies below the heap's end. -/
theorem Rd.inF {k : IntKind} {w : World} {A : Option Addr} {n c : Nat} {l : List Int} (h : Rd k w A n c l) : InF (· < w.heap.size) A n := by
  intro h0 x hx
  obtain ⟨g, o, e, hc⟩ := h.cell 0 h0
  rw [hx] at e
  simp at e
  subst e
  exact World.block_lt_of_cell? w _ hc

theorem LyrV.form {F : Nat → Prop} {w : World} {v : Value} {L : Lyr} (h : LyrV F w v L) :
    ∃ A0 c0 A1 c1 A2 c2 A3 c3, v = .agg #[.slice A0 L.nums.length c0, .slice A1 L.data.length c1, .slice A2 L.parts.length c2, .slice A3 L.payload.length c3] := by
  obtain ⟨v0, v1, v2, v3, rfl, ⟨A0, c0, rfl, _⟩, ⟨A1, c1, rfl, _⟩, ⟨A2, c2, rfl, _⟩, ⟨⟨A3, c3, rfl, _⟩, _⟩⟩ := h
  exact ⟨_, _, _, _, _, _, _, _, rfl⟩
/-- A layer stays where a box of another block is filled. -/
theorem LyrV.boxed {F : Nat → Prop} {w : World} {v : Value} {L : Lyr} {g : Nat} (h : LyrV F w v L) (hF : ¬ F g) (u0 u1 u2 u3 : Value) :
    LyrV F ((((w.setCell ⟨g, 0, none⟩ u0).setCell ⟨g, 1, none⟩ u1).setCell ⟨g, 2, none⟩ u2).setCell ⟨g, 3, none⟩ u3) v L :=
  h.keepF (((((KeepF.refl F w).setCell (p := ⟨g, 0, none⟩) hF u0).setCell (p := ⟨g, 1, none⟩) hF u1).setCell (p := ⟨g, 2, none⟩) hF u2).setCell (p := ⟨g, 3, none⟩) hF u3)
theorem Bl.boxed {w w1 : World} {g : Nat} (hb : Bl w w1) (hg : w.heap.size ≤ g) (u0 u1 u2 u3 : Value) :
    Bl w ((((w1.setCell ⟨g, 0, none⟩ u0).setCell ⟨g, 1, none⟩ u1).setCell ⟨g, 2, none⟩ u2).setCell ⟨g, 3, none⟩ u3) :=
  (((Below.setCell hb hg _).setCell hg _).setCell hg _).setCell hg _
/-- A block's cells as a row of numbers. -/
theorem Blk.rd {w : World} {g c : Nat} {cs : Array Value} {T : TypeId} (k : IntKind) (h : Blk w g cs T) (l : List Int) (hc : l.length ≤ c) (hcs : ∀ i, i < l.length → cs[i]? = some (.int k (l.getD i 0))) :
    Rd k w (some ⟨g, 0, none⟩) l.length c l :=
  ⟨rfl, hc, fun i hi => ⟨g, 0, rfl, by rw [Nat.zero_add, h.cell]; exact hcs i hi⟩⟩
theorem cells_getD (k : IntKind) (l : List Int) (i : Nat) (hi : i < l.length) : (l.map (Value.int k)).toArray[i]? = some (.int k (l.getD i 0)) := by
  simp [List.getElem?_eq_getElem hi, List.getD_eq_getElem?_getD]
theorem Blk.numV {F : Nat → Prop} {w : World} {g : Nat} {cs : Array Value} {T : TypeId} (h : Blk w g cs T) (hF : F g) (l : List Int) (hcs : cs = (l.map (Value.int .u64)).toArray) : NumV F w (.slice (some ⟨g, 0, none⟩) l.length l.length) l :=
  ⟨_, _, rfl, fun _ x hx => by simp at hx; subst hx; exact hF, h.rd .u64 l (Nat.le_refl _) (fun i hi => by rw [hcs]; exact cells_getD _ _ _ hi)⟩

theorem NumV.of_block {F : Nat → Prop} {w : World} {g n : Nat} {cs : Array Value} {T : TypeId} (l : List Int) (hF : F g) (h : w.heap[g]? = some (.cells cs T (0, 0))) (hcs : cs = (l.map (Value.int .u64)).toArray) (hn : n = l.length) :
    NumV F w (.slice (some ⟨g, 0, none⟩) n n) l := by
  subst hn
  exact Blk.numV ⟨h⟩ hF l hcs
/-- A row of one's own as a row that is read. -/
theorem own_rd {w : World} {base n : Nat} {e : TypeId} {k : IntKind} {v : Value} {l : List Int} (h : w.ownsRow base e 1 v n (l.map (Value.int k))) : ∃ A c, v = .slice A n c ∧ Rd k w A n c l := by
  have hl : l.length = n := by have := h.1; simpa using this
  rcases h.2 with ⟨rfl, rfl⟩ | ⟨g, cap, cur, rfl, hg, hh, hn, hm, hs, ht⟩
  · exact ⟨none, 0, rfl, ⟨hl, Nat.le_refl _, fun i hi => absurd hi (by omega)⟩⟩
  · refine ⟨_, _, rfl, ⟨hl, hn, fun i hi => ⟨g, 0, rfl, ?_⟩⟩⟩
    have hc := h.cells (g := g) rfl i (.int k (l.getD i 0)) (by simp [List.getElem?_eq_getElem (show i < l.length by omega), List.getD_eq_getElem?_getD])
    rw [add_add] at hc
    exact hc
end Go.Proofs.Ytoljdgfbkebgcaa
