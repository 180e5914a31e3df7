/- Rows of one's own, taken apart: the block, its cells. -/
import Derived.Test.YtoljdgfbkebgcaaApp
namespace Go.Proofs.Ytoljdgfbkebgcaa
open Go.RowKit
theorem own_split {w : World} {base e n c : Nat} {A : Option Addr} {xs : List Value} (h : w.ownsRow base e 1 (.slice A n c) n xs) (hn : 0 < n) :
    ∃ g cs, A = some ⟨g, 0, none⟩ ∧ base ≤ g ∧ Blk w g cs e ∧ n ≤ cs.size ∧ cs.size = c ∧ ∀ i, i < n → cs[i]? = xs[i]? := by
  rcases h.2 with ⟨h1, _⟩ | ⟨g, cap, cur, h1, hg, hh, hc, _, hs, ht⟩
  · simp at h1; omega
  · simp at h1
    obtain ⟨rfl, rfl⟩ := h1
    have hs' : cur.size = c := by simpa using hs
    refine ⟨g, cur, rfl, hg, ⟨hh⟩, by omega, hs', fun i hi => ?_⟩
    rw [← ht]
    simp
    rw [List.getElem?_take_of_lt (by omega)]
    simp
theorem Blk.ne {w : World} {g g' : Nat} {cs cs' : Array Value} {T T' : TypeId} (h : Blk w g cs T) (h' : Blk w g' cs' T') (hT : T ≠ T') : g ≠ g' := by
  rintro rfl
  have := h.heap.symm.trans h'.heap
  simp at this
  exact hT this.2
theorem Blk.numsV {F : Nat → Prop} {w : World} {g n c : Nat} {cs : Array Value} {T : TypeId} (h : Blk w g cs T) (hF : F g) (l : List Int) (hn : n = l.length) (hc : n ≤ c) (hcs : ∀ i, i < l.length → cs[i]? = some (.int .u64 (l.getD i 0))) : NumV F w (.slice (some ⟨g, 0, none⟩) n c) l := by
  subst hn
  exact ⟨_, _, rfl, fun _ x hx => by simp at hx; subst hx; exact hF, h.rd .u64 l hc hcs⟩
/-! ### single bits of a byte -/
theorem and_fin : ∀ k : Fin 256, bits .and .u8 (k.val : Int) 1 = (k.val : Int) % 2 := by decide +kernel
theorem and1 (y : Int) (h0 : 0 ≤ y) (h1 : y ≤ 255) : bits .and .u8 y 1 = y % 2 := by
  have := and_fin ⟨y.toNat, by omega⟩
  simp only at this
  rwa [show ((y.toNat : Nat) : Int) = y by omega] at this
theorem and_fin4 : ∀ k : Fin 256, (if (bits .and .u8 (k.val : Int) 4 != 0) = true then (1 : Int) else 0) = (k.val : Int) / 4 % 2 := by decide +kernel
theorem and_fin2 : ∀ k : Fin 256, (if (bits .and .u8 (k.val : Int) 2 != 0) = true then (1 : Int) else 0) = (k.val : Int) / 2 % 2 := by decide +kernel
theorem and_fin1 : ∀ k : Fin 256, (if (bits .and .u8 (k.val : Int) 1 != 0) = true then (1 : Int) else 0) = (k.val : Int) % 2 := by decide +kernel
theorem bit4 (y : Int) (h0 : 0 ≤ y) (h1 : y ≤ 255) : (if (bits .and .u8 y 4 != 0) = true then (1 : Int) else 0) = y / 4 % 2 := by
  have := and_fin4 ⟨y.toNat, by omega⟩
  simp only at this
  rwa [show ((y.toNat : Nat) : Int) = y by omega] at this
theorem bit2 (y : Int) (h0 : 0 ≤ y) (h1 : y ≤ 255) : (if (bits .and .u8 y 2 != 0) = true then (1 : Int) else 0) = y / 2 % 2 := by
  have := and_fin2 ⟨y.toNat, by omega⟩
  simp only at this
  rwa [show ((y.toNat : Nat) : Int) = y by omega] at this
theorem bit1 (y : Int) (h0 : 0 ≤ y) (h1 : y ≤ 255) : (if (bits .and .u8 y 1 != 0) = true then (1 : Int) else 0) = y % 2 := by
  have := and_fin1 ⟨y.toNat, by omega⟩
  simp only at this
  rwa [show ((y.toNat : Nat) : Int) = y by omega] at this
end Go.Proofs.Ytoljdgfbkebgcaa
