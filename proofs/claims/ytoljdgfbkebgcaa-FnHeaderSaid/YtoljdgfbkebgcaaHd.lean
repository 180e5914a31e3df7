/- laws.FnHeader is true. -/
import Derived.Test.YtoljdgfbkebgcaaRead
namespace Go.Proofs.Ytoljdgfbkebgcaa
open Go.RowKit
def sSctp : ByteArray := ⟨#[115, 99, 116, 112]⟩
theorem sub_by_bd (l : List Int) (hl : By l) (lo hi : Nat) (n : Nat) (h : hi ≤ l.length) (hn : hi - lo = n) : (sub l lo hi).length = n := by rw [sub_length _ _ _ h, hn]
theorem header_read (A : Option Addr) (n c : Nat) (l : List Int) (w : World) (h : Rd .u8 w A n c l) (hl : By l) (hn : n ≤ 2147483647) :
    Calls Try.prog 30 #[.string sSctp, .slice A n c] w fun e w' => e = .returned (.bool true) ∧ Bl w w' := by
  have hlen := h.len
  by_cases h12 : n < 12
  · refine read_any sSctp l ⟨[], [], [], []⟩ false true ?_ (fun _ h => by simp at h) ?_ A n c w h
    · intro A' n' c' B' w' h' _ _
      have := h'.len
      exact (specRead_sctp_short A' n' c' w' (by omega)).mono fun e w2 ⟨he, hb⟩ => ⟨_, he, LyrV.zero _ _, hb⟩
    · intro _ _ _ A' n' c' w' h'
      have := h'.len
      exact readSctp_short A' n' c' l w' h' (by omega)
  · refine read_any sSctp l (specSctp l) true true ?_ ?_ (fun _ h => by simp at h) A n c w h
    · intro A' n' c' B' w' h' hA' hB'
      have := h'.len
      exact specRead_sctp A' n' c' B' l w' hA' h' hl (by omega) (by omega)
    · intro _ _ h200
      refine ⟨fun A' n' c' w' h' => ?_, ⟨?_, ?_, ?_, ?_⟩⟩
      · have := h'.len
        exact readSctp_any A' n' c' l w' h' hl (by omega) (by omega)
      · show (4 : Nat) ≤ 2147483647
        decide
      · exact Nat.zero_le _
      · exact Nat.zero_le _
      · intro p hp
        exact absurd hp (by simp [specSctp])
set_option maxHeartbeats 1000000 in
theorem header_any (A : Option Addr) (n c : Nat) (l : List Int) (w : World) (h : Rd .u8 w A n c l) (hl : By l) :
    Calls Try.prog 4 #[.slice A n c] w fun e w' => e = .returned (.bool true) ∧ Bl w w' := by
  by_cases hz : (2147483647 : Int) < (n : Int)
  · go_enter Try.func4, Try.ntmps4
    go_wp2
    go_ret
    exact ⟨rfl, Bl.refl _⟩
  · have H := Lib.hid (header_read A n c l w h hl (by omega))
    clear h
    unfold sSctp at H
    go_enter Try.func4, Try.ntmps4
    go_wp2_with fail
    (with_reducible refine H.out.mono ?_)
    rintro e w1 ⟨rfl, hb⟩
    go_wp2_with fail
    go_ret
    exact ⟨rfl, hb⟩
end Go.Proofs.Ytoljdgfbkebgcaa
