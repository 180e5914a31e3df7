/- What lies where, behind a copy. -/
import Derived.Test.YtoljdgfbkebgcaaPut
namespace Go.Proofs.Ytoljdgfbkebgcaa
open Go.RowKit
theorem splice_lo {α : Type} (L cs : List α) (off i : Nat) (h : off ≤ L.length) (hi : i < off) : (splice L off cs)[i]? = L[i]? := by
  unfold splice
  rw [List.getElem?_append_left (by simp; omega), List.getElem?_take_of_lt hi]
theorem splice_mid {α : Type} (L cs : List α) (off i : Nat) (h : off ≤ L.length) (hi : i < cs.length) : (splice L off cs)[off + i]? = cs[i]? := by
  unfold splice
  have h1 : (L.take off).length = off := by simp; omega
  rw [List.getElem?_append_right (by omega), h1, Nat.add_sub_cancel_left, List.getElem?_append_left hi]
theorem splice_hi {α : Type} (L cs : List α) (off i : Nat) (h : off ≤ L.length) : (splice L off cs)[off + cs.length + i]? = L[off + cs.length + i]? := by
  unfold splice
  have h1 : (L.take off).length = off := by simp; omega
  rw [List.getElem?_append_right (by omega), h1, show off + cs.length + i - off = cs.length + i by omega, List.getElem?_append_right (by omega), Nat.add_sub_cancel_left, List.getElem?_drop]
end Go.Proofs.Ytoljdgfbkebgcaa
