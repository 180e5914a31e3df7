/- Rows of parts under construction: where another block is written. -/
import Derived.Test.YtoljdgfbkebgcaaPrm
namespace Go.Proofs.Ytoljdgfbkebgcaa
open Go.RowKit
theorem PRow.set {F : Nat → Prop} {B g : Nat} {w : World} {v : Value} {ps : List Prt} {cs : Array Value} {T : TypeId} (h : PRow F B w v ps) (k : Blk w g cs T) (hT : 57 ≠ T) (hF : ¬ F g) (i : Nat) (u : Value) : PRow F B (w.setCell ⟨g, i, none⟩ u) v ps := by
  obtain ⟨vs, ho, he⟩ := h
  refine ⟨vs, own_set ho k hT i u, fun j hj => ?_⟩
  obtain ⟨u0, u1, e0, e1, h0, h1⟩ := he j hj
  have hm : ∀ k, Off F v w k → Off F v (w.setCell ⟨g, i, none⟩ u) k := fun k hk => ⟨hk.1, by simpa using hk.2⟩
  have hk : KeepF (Off F v w) w (w.setCell ⟨g, i, none⟩ u) := (KeepF.refl _ w).setCell (p := ⟨g, i, none⟩) (fun h => hF h.1.1) u
  exact ⟨u0, u1, e0, e1, (h0.keepF hk).mono hm, (h1.keepF hk).mono hm⟩
theorem PRow.mono {F G : Nat → Prop} {B : Nat} {w : World} {v : Value} {ps : List Prt} (h : PRow F B w v ps) (hFG : ∀ k, F k → G k) : PRow G B w v ps := by
  obtain ⟨vs, ho, he⟩ := h
  refine ⟨vs, ho, fun j hj => ?_⟩
  obtain ⟨u0, u1, e0, e1, h0, h1⟩ := he j hj
  exact ⟨u0, u1, e0, e1, h0.mono fun k hk => ⟨⟨hFG k hk.1.1, hk.1.2⟩, hk.2⟩, h1.mono fun k hk => ⟨⟨hFG k hk.1.1, hk.1.2⟩, hk.2⟩⟩
theorem PRow.form {F : Nat → Prop} {B : Nat} {w : World} {v : Value} {ps : List Prt} (h : PRow F B w v ps) : ∃ A c, v = .slice A ps.length c := by
  obtain ⟨vs, ho, _⟩ := h
  exact ownsRow_form ho
/-- The cells of a row of one's own, of elements of four cells. -/
theorem own_cell4 {w : World} {B e q : Nat} {A : Option Addr} {n c : Nat} {vs : List Value} (h : w.ownsRow B e 4 (.slice A n c) q vs) (hq : 0 < q) : ∃ g cs, A = some ⟨g, 0, none⟩ ∧ n = q ∧ B ≤ g ∧ Blk w g cs e ∧ ∀ i, i < q * 4 → cs[i]? = vs[i]? := by
  rcases h.2 with ⟨h1, h2⟩ | ⟨g, cap, cur, h1, hg, hh, hc, _, hs, ht⟩
  · simp at h1; omega
  · simp at h1
    obtain ⟨rfl, rfl, rfl⟩ := h1
    refine ⟨g, cur, rfl, rfl, hg, ⟨hh⟩, fun i hi => ?_⟩
    rw [← ht, List.getElem?_take_of_lt hi, Array.getElem?_toList]
end Go.Proofs.Ytoljdgfbkebgcaa
