/- Appends in regions that draw their order: what they leave of other blocks. -/
import Derived.Test.YtoljdgfbkebgcaaApp
import Derived.Deep.RegionLaw
namespace Go.Proofs.Ytoljdgfbkebgcaa
open Go.RowKit
theorem Appd.blk {W w1 : World} {B e sz n g : Nat} {v : Value} {ys : List Value} {A : Option Addr} {c : Nat} {cs : Array Value} {T : TypeId} (hp : Appd W B e sz v n ys A c w1) (k : Blk W g cs T) (hne : v.ownBlock ≠ some g) : Blk w1 g cs T :=
  ⟨(hp.grown.block g k.lt (fun h => hne h.symm)).trans k.heap⟩
/-- A block of one's own as a row. -/
theorem Blk.own {w : World} {g B n : Nat} {e : TypeId} {cs : Array Value} (k : Blk w g cs e) (hB : B ≤ g) (hn : cs.size = n) (hm : n ≤ maxLen) : w.ownsRow B e 1 (.slice (some ⟨g, 0, none⟩) n n) n cs.toList := by
  subst hn
  exact ⟨by simp, .inr ⟨g, _, cs, rfl, hB, k.heap, Nat.le_refl _, hm, by simp, List.take_of_length_le (by simp)⟩⟩
theorem own_mono {w : World} {base base' : Nat} {e : TypeId} {size n : Nat} {v : Value} {xs : List Value} (h : w.ownsRow base e size v n xs) (hb : base' ≤ base) : w.ownsRow base' e size v n xs :=
  ⟨h.1, h.2.elim .inl fun ⟨g, cap, cur, h1, h2, h3⟩ => .inr ⟨g, cap, cur, h1, Nat.le_trans hb h2, h3⟩⟩
end Go.Proofs.Ytoljdgfbkebgcaa
