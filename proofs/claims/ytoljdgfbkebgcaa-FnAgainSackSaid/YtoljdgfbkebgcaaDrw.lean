/- Rows of decoded parameters under construction. -/
import Derived.Test.YtoljdgfbkebgcaaPrb
namespace Go.Proofs.Ytoljdgfbkebgcaa
open Go.RowKit
/-- What a parameter's cells are, at their place in a row. -/
structure PrmCell (F : Nat → Prop) (w : World) (vs : List Value) (i : Nat) (P : Prt) (T L U : Int) (A : Option Addr) (n c : Nat) : Prop where
  c0 : vs[i * 4]? = some (.int .u16 T)
  c1 : vs[i * 4 + 1]? = some (.int .u16 L)
  c2 : vs[i * 4 + 2]? = some (.int .i64 U)
  c3 : vs[i * 4 + 3]? = some (.slice A n c)
  nums : P.nums = [T, L, U]
  bT : 0 ≤ T ∧ T ≤ 65535
  rd : Rd .u8 w A n c P.data
  foot : InF F A n
  small : n ≤ 1000
def DRow (E : TypeId) (F : Nat → Prop) (B : Nat) (w : World) (v : Value) (ps : List Prt) : Prop :=
  ∃ vs : List Value, w.ownsRow B E 4 v ps.length vs ∧ ∀ i, i < ps.length → ∃ T L U A n c, PrmCell (Off F v w) w vs i (ps.getD i Prt.nil) T L U A n c
theorem PrmCell.keep {F G : Nat → Prop} {w w' : World} {vs : List Value} {i : Nat} {P : Prt} {T L U : Int} {A : Option Addr} {n c : Nat} (h : PrmCell F w vs i P T L U A n c) (hk : KeepF F w w') (hm : ∀ k, F k → G k) : PrmCell G w' vs i P T L U A n c :=
  ⟨h.c0, h.c1, h.c2, h.c3, h.nums, h.bT, h.rd.keepF h.foot hk, h.foot.mono hm, h.small⟩
theorem DRow.nil (E : TypeId) (F : Nat → Prop) (B : Nat) (w : World) : DRow E F B w (.slice none 0 0) [] := ⟨[], World.ownsRow_nil _ _ _ _, fun i hi => by simp at hi⟩
theorem DRow.form {E : TypeId} {F : Nat → Prop} {B : Nat} {w : World} {v : Value} {ps : List Prt} (h : DRow E F B w v ps) : ∃ A c, v = .slice A ps.length c := by
  obtain ⟨vs, ho, _⟩ := h
  exact ownsRow_form ho
theorem DRow.below {E : TypeId} {F : Nat → Prop} {B : Nat} {w w' : World} {v : Value} {ps : List Prt} (h : DRow E F B w v ps) (hb : Bl w w') : DRow E F B w' v ps := by
  obtain ⟨vs, ho, he⟩ := h
  refine ⟨vs, own_bl ho hb, fun i hi => ?_⟩
  obtain ⟨T, L, U, A, n, c, hc⟩ := he i hi
  exact ⟨T, L, U, A, n, c, hc.keep (KeepF.bl hb) (fun k hk => ⟨hk.1, Nat.lt_of_lt_of_le hk.2 hb.size⟩)⟩
theorem DRow.set {E : TypeId} {F : Nat → Prop} {B g : Nat} {w : World} {v : Value} {ps : List Prt} {cs : Array Value} {T : TypeId} (h : DRow E F B w v ps) (k : Blk w g cs T) (hT : E ≠ T) (hF : ¬ F g) (i : Nat) (u : Value) : DRow E F B (w.setCell ⟨g, i, none⟩ u) v ps := by
  obtain ⟨vs, ho, he⟩ := h
  refine ⟨vs, own_set ho k hT i u, fun j hj => ?_⟩
  obtain ⟨T, L, U, A, n, c, hc⟩ := he j hj
  exact ⟨T, L, U, A, n, c, hc.keep ((KeepF.refl _ w).setCell (p := ⟨g, i, none⟩) (fun h => hF h.1.1) u) (fun k hk => ⟨hk.1, by simpa using hk.2⟩)⟩
theorem DRow.app {E : TypeId} {F : Nat → Prop} {B : Nat} {W w1 : World} {v : Value} {ps : List Prt} {P : Prt} {A : Option Addr} {c : Nat} {vs : List Value} {T L U : Int} {Ax : Option Addr} {nx cx : Nat}
    (he : ∀ i, i < ps.length → ∃ T L U A n c, PrmCell (Off F v W) W vs i (ps.getD i Prt.nil) T L U A n c)
    (ho : W.ownsRow B E 4 v ps.length vs)
    (hp : Appd W B E 4 v (ps.length + 1) (vs ++ [.int .u16 T, .int .u16 L, .int .i64 U, .slice Ax nx cx]) A c w1)
    (hN : P.nums = [T, L, U]) (hT : 0 ≤ T ∧ T ≤ 65535) (r : Rd .u8 W Ax nx cx P.data) (hI : InF (fun k => F k ∧ v.ownBlock ≠ some k) Ax nx) (hn : nx ≤ 1000) :
    DRow E F B w1 (.slice A (ps.length + 1) c) (ps ++ [P]) := by
  have hl : vs.length = ps.length * 4 := ho.1
  have hk : KeepF (Off F v W) W w1 := fun k hF hlt => hp.grown.block k hlt (fun e => hF.1.2 e.symm)
  have hm : ∀ k, Off F v W k → Off F (.slice A (ps.length + 1) c) w1 k := fun k hk => by
    refine ⟨⟨hk.1.1, fun e => ?_⟩, Nat.lt_of_lt_of_le hk.2 hp.grown.size⟩
    rcases hp.at_ with h | h
    · exact hk.1.2 (h.symm.trans e)
    · rw [h] at e
      have := hk.2
      simp at e
      omega
  refine ⟨_, by simpa using hp.own, fun i hi => ?_⟩
  by_cases hlt : i < ps.length
  · obtain ⟨T', L', U', A', n', c', hc⟩ := he i hlt
    refine ⟨T', L', U', A', n', c', ?_⟩
    rw [List.getD_eq_getElem?_getD, List.getElem?_append_left hlt, ← List.getD_eq_getElem?_getD]
    have hc' := hc.keep hk hm
    exact ⟨by rw [List.getElem?_append_left (by omega)]; exact hc'.c0, by rw [List.getElem?_append_left (by omega)]; exact hc'.c1, by rw [List.getElem?_append_left (by omega)]; exact hc'.c2, by rw [List.getElem?_append_left (by omega)]; exact hc'.c3, hc'.nums, hc'.bT, hc'.rd, hc'.foot, hc'.small⟩
  · obtain rfl : i = ps.length := by simp at hi; omega
    refine ⟨T, L, U, Ax, nx, cx, ?_⟩
    have eP : (ps ++ [P]).getD ps.length Prt.nil = P := by rw [List.getD_eq_getElem?_getD, List.getElem?_append_right (Nat.le_refl _), Nat.sub_self]; rfl
    rw [eP]
    have hI' : InF (Off F v W) Ax nx := fun hn x hx => by
      obtain ⟨g, o, e, hg, _⟩ := r.at hn
      subst hx
      simp at e
      subst e
      exact ⟨hI hn _ rfl, hg⟩
    exact ⟨by rw [List.getElem?_append_right (by omega), hl, Nat.sub_self]; rfl, by rw [List.getElem?_append_right (by omega), hl, Nat.add_sub_cancel_left]; rfl, by rw [List.getElem?_append_right (by omega), hl, Nat.add_sub_cancel_left]; rfl, by rw [List.getElem?_append_right (by omega), hl, Nat.add_sub_cancel_left]; rfl, hN, hT, r.keepF hI' hk, hI'.mono hm, hn⟩
end Go.Proofs.Ytoljdgfbkebgcaa
