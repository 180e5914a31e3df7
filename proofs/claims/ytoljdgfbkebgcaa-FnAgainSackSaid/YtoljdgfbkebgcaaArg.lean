/- What is known of a slice of bytes that came in, as a slice that is read. -/
import Derived.Test.YtoljdgfbkebgcaaLay
namespace Go.Proofs.Ytoljdgfbkebgcaa
open Go.RowKit
/-- A slice of integers that came in: nil, or a row of 'cap' cells, the first 'len' its elements, each fitting its kind. -/
def IsRow (k : IntKind) (w : World) (a : Option Addr) (len cap : Nat) (zs : List Int) : Prop :=
  (a = none ∧ len = 0 ∧ cap = 0 ∧ zs = []) ∨
  ∃ x, a = some x ∧ len ≤ cap ∧ cap ≤ maxLen ∧ zs.length = cap ∧ (∀ i, i < zs.length → w.cell? (x.add i) = some (.int k (zs.getD i 0))) ∧ ∀ n ∈ zs, (Lit.int k n).wf = true
theorem IsRow.rd {w : World} {a : Option Addr} {len cap : Nat} {zs : List Int} (h : IsRow .u8 w a len cap zs) : Rd .u8 w a len cap (zs.take len) ∧ By (zs.take len) := by
  rcases h with ⟨rfl, rfl, rfl, rfl⟩ | ⟨x, rfl, hl, hm, hz, hc, hw⟩
  · exact ⟨Rd.nil _ _ _ _, By.nil⟩
  · refine ⟨⟨by simp; omega, hl, fun i hi => ?_⟩, fun y hy => ?_⟩
    · obtain ⟨b, off, spot⟩ := x
      have h0 := hc i (by omega)
      have hspot : spot = none := by
        simpa [Addr.add] using World.cell?_spot (hc 0 (by omega))
      subst hspot
      refine ⟨b, off, rfl, ?_⟩
      rw [add_add] at h0
      rw [h0]
      simp [List.getD_eq_getElem?_getD, hi]
    · have := hw y (List.mem_of_mem_take hy)
      simp [Lit.wf, IntKind.min, IntKind.max, IntKind.signed, IntKind.bits] at this
      omega
end Go.Proofs.Ytoljdgfbkebgcaa
