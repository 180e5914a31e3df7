/- One row of bytes. -/
import Derived.Test.YtoljdgfbkebgcaaLay
namespace Go.Proofs.Ytoljdgfbkebgcaa
open Go.RowKit
theorem DataV.one {F : Nat → Prop} {w : World} {g : Nat} {v : Value} {T : TypeId} {d : List Int} (k : Blk w g #[v] T) (hF : F g) (hv : BytV F w v d) : DataV F w (.slice (some ⟨g, 0, none⟩) 1 1) [d] := by
  refine ⟨_, _, rfl, Nat.le_refl _, fun _ x hx => by simp at hx; subst hx; exact hF, fun i hi => ?_⟩
  have h0 : i = 0 := by simpa using hi
  subst h0
  exact ⟨g, 0, v, rfl, by simpa using k.cell 0, hv⟩
end Go.Proofs.Ytoljdgfbkebgcaa
