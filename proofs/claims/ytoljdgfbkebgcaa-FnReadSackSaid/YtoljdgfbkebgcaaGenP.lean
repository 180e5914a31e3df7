/- decoded, for the kinds that hold a row. -/
import Derived.Test.YtoljdgfbkebgcaaGen
namespace Go.Proofs.Ytoljdgfbkebgcaa
open Go.RowKit
abbrev ZzOkP (s : ByteArray) (l : List Int) (T : TypeId) (Φ : Option Addr → Nat → Nat → World → Nat → Prop) : Prop :=
  ∀ (A : Option Addr) (n c : Nat) (w : World), Rd .u8 w A n c l → Calls Try.prog 69 #[.string s, .slice A n c] w fun e w' => ∃ gl, e = .returned (.tuple #[.iface T (.pointer (some ⟨gl, 0, none⟩)), .nilIface]) ∧ Bl w w' ∧ Φ A n c w' gl
theorem decodedP_ok (s : ByteArray) (l : List Int) (T : TypeId) (Φ : Option Addr → Nat → Nat → World → Nat → Prop) (hΦ : ∀ A n c w w' gl, Φ A n c w gl → Bl w w' → Φ A n c w' gl) (hn : l.length ≤ 2000) (hc : CallAt s l true) (hz : ZzOkP s l T Φ) (A : Option Addr) (n c : Nat) (w : World) (h : Rd .u8 w A n c l) :
    Calls Try.prog 48 #[.string s, .slice A n c] w fun e w' =>
      ∃ A1 c1 gl, e = .returned (.tuple #[.iface T (.pointer (some ⟨gl, 0, none⟩)), .bool true]) ∧ Bl w w' ∧ Φ A1 n c1 w' gl ∧ Rd .u8 w' A1 n c1 l := by
  have hlen := h.len
  have h5 : n ≤ 2000 := by omega
  have H := Lib.hid h
  have HC := Lib.hid hc
  have HZ := Lib.hid hz
  have HF := Lib.hid hΦ
  clear h hlen hn hc hz hΦ
  go_enter Try.func48, Try.ntmps48
  go_wp2_with fail
  (with_reducible refine (HC.out _ _ _ _ H.out).mono ?_)
  rintro e w1 ⟨rfl, hb0⟩
  go_wp2_with fail
  (with_reducible refine (bclone_any _ _ _ _ _ (H.out.below hb0) (by omega)).mono ?_)
  rintro e w2 ⟨⟨A1, c1, rfl, r1⟩, hb1⟩
  have R1 := Lib.hid r1
  clear r1
  go_wp2_with fail
  (with_reducible refine (HZ.out _ _ _ _ R1.out).mono ?_)
  rintro e w3 ⟨gl, rfl, hb3, ho⟩
  have O := Lib.hid ho
  clear ho
  go_wp2_with fail
  go_quiet (fail)
  go_wp2_with fail
  go_ret2
  exact ⟨A1, c1, gl, rfl, ((hb0.trans hb1).trans hb3).drewN _, HF.out _ _ _ _ _ _ O.out ((Bl.refl _).drewN _), (R1.out.below hb3).below ((Bl.refl _).drewN _)⟩
end Go.Proofs.Ytoljdgfbkebgcaa
