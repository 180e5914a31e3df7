/- Kinds that differ, by their bytes. -/
import Derived.Test.YtoljdgfbkebgcaaKind
namespace Go.Proofs.Ytoljdgfbkebgcaa
open Go.RowKit
def IsKind (s : ByteArray) : Prop := s = kDat ∨ s = kIni ∨ s = kSac ∨ s = kHea ∨ s = kErr ∨ s = kShu ∨ s = kAck ∨ s = kCoo ∨ s = kEmp ∨ s = kUnk
theorem kindOf_is (x : Int) : IsKind (kindOf x) := by
  by_cases h : Known x
  · rcases h with rfl | rfl | rfl | rfl | rfl | rfl | rfl | rfl | rfl | rfl | rfl | rfl | rfl <;> simp [IsKind, kindOf]
  · rw [(kindRow_else x h).2]; simp [IsKind]
theorem kind_ne (x : Int) (s : ByteArray) (h : kindOf x ≠ s) (hs : IsKind s) : ((kindOf x).toList == s.toList) = false := by
  have hm := kindOf_is x
  rcases hm with hm | hm | hm | hm | hm | hm | hm | hm | hm | hm <;> rw [hm] at h ⊢ <;>
  rcases hs with hs | hs | hs | hs | hs | hs | hs | hs | hs | hs <;> subst hs <;> first | exact absurd rfl h | (simp [go_sem, kDat, kIni, kSac, kHea, kErr, kShu, kAck, kCoo, kEmp, kUnk])
end Go.Proofs.Ytoljdgfbkebgcaa
