/- sctpinit, sctpsack: fewer than four bytes told. -/
import Derived.Test.YtoljdgfbkebgcaaChk
import Derived.Test.YtoljdgfbkebgcaaDecSctp
namespace Go.Proofs.Ytoljdgfbkebgcaa
open Go.RowKit
set_option maxHeartbeats 1000000 in
theorem decIni_short (A : Option Addr) (n c : Nat) (l : List Int) (w : World) (h : Rd .u8 w A n c l) (hl : By l) (h4 : 4 ≤ n) (hL : chL l < 4) (v : Value) :
    Calls Try.prog 79 #[.slice A n c, v] w fun e w' => (∃ u, e = .returned (.iface 167 u)) ∧ Bl w w' := by
  have H := Lib.hid h
  have HB := Lib.hid hl
  clear h hl
  go_enter Try.func79, Try.ntmps79
  go_wp2_with fail
  (with_reducible refine (chunk_short _ _ _ _ _ H.out HB.out h4 hL).mono ?_)
  rintro e w1 ⟨⟨u, rfl⟩, hb1⟩
  go_wp2_with fail
  go_ret
  exact ⟨⟨_, rfl⟩, Bl.trans hb1 (by go_grown)⟩
set_option maxHeartbeats 1000000 in
theorem decSac_short (A : Option Addr) (n c : Nat) (l : List Int) (w : World) (h : Rd .u8 w A n c l) (hl : By l) (h4 : 4 ≤ n) (hL : chL l < 4) (v : Value) :
    Calls Try.prog 80 #[.slice A n c, v] w fun e w' => (∃ u, e = .returned (.iface 167 u)) ∧ Bl w w' := by
  have H := Lib.hid h
  have HB := Lib.hid hl
  clear h hl
  go_enter Try.func80, Try.ntmps80
  go_wp2_with fail
  (with_reducible refine (chunk_short _ _ _ _ _ H.out HB.out h4 hL).mono ?_)
  rintro e w1 ⟨⟨u, rfl⟩, hb1⟩
  go_wp2_with fail
  go_ret
  exact ⟨⟨_, rfl⟩, Bl.trans hb1 (by go_grown)⟩
end Go.Proofs.Ytoljdgfbkebgcaa
