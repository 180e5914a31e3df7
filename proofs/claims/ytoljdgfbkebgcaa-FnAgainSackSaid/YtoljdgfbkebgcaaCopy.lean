/- bytes.Clone, bytes.Equal. -/
import Derived.Test.YtoljdgfbkebgcaaApp
import Derived.WalkSpells
import Derived.Laws.BytesArg
namespace Go.Proofs.Ytoljdgfbkebgcaa
open Go.RowKit

theorem bclone_nil (c : Nat) (w : World) :
    Calls Try.prog 42 #[.slice none 0 c] w fun e w' => e = .returned (.slice none 0 0) ∧ w = w' := by
  have hq := fun W : World => Lib.run_eql_slice_nil (P := Try.prog) W 24 5 none 0 c 0 0 Try.underlying24
  go_enter Try.func42, Try.ntmps42
  go_wp2
  go_ret
  exact ⟨rfl, rfl⟩
theorem bclone_some (ad : Addr) (n c : Nat) (l : List Int) (w : World) (h : Rd .u8 w (some ad) n c l) (hn : n ≤ 2147483647) :
    Calls Try.prog 42 #[.slice (some ad) n c] w fun e w' => (∃ A1 c1, e = .returned (.slice A1 n c1) ∧ Rd .u8 w' A1 n c1 l) ∧ Bl w w' := by
  have hq := fun W : World => Lib.run_eql_slice_nil (P := Try.prog) W 24 5 (some ad) n c 0 0 Try.underlying24
  have hs := h.src
  have HS := Lib.hid hs
  clear hs h
  go_enter Try.func42, Try.ntmps42
  go_wp2_with (at_builtin; refine wpList_app rfl _ _ 24 5 (.int .u8 0) 1 1 w.heap.size rfl Try.underlying24 info5 rfl (by decide) (by decide) (.slice (some ⟨w.heap.size, 0, none⟩) 0 0) 0 [] _ _ _ _ rfl rfl ?_ (Src.alloc HS.out _) (by omega) ?_ ?_; exact World.ownsRow_lit w #[] 0 (Nat.le_refl _) (by decide) rfl; simp; intro A1 c1 w1 hp)
  go_ret
  have ho : w1.ownsRow w.heap.size 5 1 (.slice A1 n c1) n (l.map (Value.int .u8)) := by simpa using hp.own
  obtain ⟨A2, c2, e, hr⟩ := own_rd ho
  simp only [Value.slice.injEq] at e
  obtain ⟨rfl, -, rfl⟩ := e
  exact ⟨⟨_, _, rfl, hr⟩, hp.bl (World.ownsRow_lit w #[] 0 (Nat.le_refl _) (by decide) rfl) (by go_grown)⟩
theorem bclone_any (A : Option Addr) (n c : Nat) (l : List Int) (w : World) (h : Rd .u8 w A n c l) (hn : n ≤ 2147483647) :
    Calls Try.prog 42 #[.slice A n c] w fun e w' => (∃ A1 c1, e = .returned (.slice A1 n c1) ∧ Rd .u8 w' A1 n c1 l) ∧ Bl w w' := by
  cases A with
  | none =>
    have h0 : n = 0 := by
      rcases Nat.eq_zero_or_pos n with h0 | h0
      · exact h0
      · obtain ⟨g, o, e, _⟩ := h.cell 0 h0
        simp at e
    subst h0
    have hl : l = [] := List.eq_nil_of_length_eq_zero h.len
    subst hl
    exact (bclone_nil c w).mono fun e w' ⟨he, hw⟩ => ⟨⟨none, 0, he, Rd.nil _ _ _ _⟩, Bl.of_same hw⟩
  | some ad => exact bclone_some ad n c l w h hn

/-- bytes.Equal of the same bytes. -/
theorem run_conv (w : World) (A : Option Addr) (n c : Nat) (l : List Int) (h : Rd .u8 w A n c l) : (convert 24 9 (.slice A n c)).run Try.prog w = .ok (.string (strOfNums l)) w := by
  by_cases hn : 0 < n
  · obtain ⟨g, o, rfl, _, hc⟩ := h.at hn
    exact run_convert_bytes_arg w 24 5 Try.underlying24 Try.underlying5 g o n c l h.len hc 9 Try.underlying9
  · obtain rfl : n = 0 := by omega
    have hl : l = [] := List.eq_nil_of_length_eq_zero h.len
    subst hl
    cases A with
    | none => 
      rw [run_convert_bytes_nil w 24 5 Try.underlying24 Try.underlying5 0 c 9 Try.underlying9]
      rfl
    | some ad =>
      rw [run_convert_bytes_string w 24 9 5 _ 0 c Try.underlying24 Try.underlying5 Try.underlying9, run_bytesToString w ad 0 c [] (by simp [loadCells, loadCellsFrom])]
      rfl
theorem bequal_any (A1 A2 : Option Addr) (n1 c1 n2 c2 : Nat) (l : List Int) (w : World) (h1 : Rd .u8 w A1 n1 c1 l) (h2 : Rd .u8 w A2 n2 c2 l) :
    Calls Try.prog 29 #[.slice A1 n1 c1, .slice A2 n2 c2] w fun e w' => e = .returned (.bool true) ∧ w = w' := by
  have e1 := run_conv w A1 n1 c1 l h1
  have e2 := run_conv w A2 n2 c2 l h2
  clear h1 h2
  go_enter Try.func29, Try.ntmps29
  go_wp2
  go_ret
  exact ⟨by simp, rfl⟩
end Go.Proofs.Ytoljdgfbkebgcaa
