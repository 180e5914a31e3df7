/- called and decoded, for any kind of chunk. -/
import Derived.Test.YtoljdgfbkebgcaaChk
import Derived.Test.YtoljdgfbkebgcaaZzSctp
namespace Go.Proofs.Ytoljdgfbkebgcaa
open Go.RowKit
abbrev CallAt (s : ByteArray) (l : List Int) (b : Bool) : Prop :=
  ∀ (A : Option Addr) (n c : Nat) (w : World), Rd .u8 w A n c l → Calls Try.prog 68 #[.string s, .slice A n c] w fun e w' => e = .returned (.bool b) ∧ Bl w w'
abbrev ZzErr (s : ByteArray) (l : List Int) : Prop :=
  ∀ (A : Option Addr) (n c : Nat) (w : World), Rd .u8 w A n c l → Calls Try.prog 69 #[.string s, .slice A n c] w fun e w' => (∃ u, e = .returned (.tuple #[.nilIface, .iface 167 u])) ∧ Bl w w'
abbrev ZzOk (s : ByteArray) (l : List Int) (T E : TypeId) (cells : Option Addr → Nat → Nat → Array Value) : Prop :=
  ∀ (A : Option Addr) (n c : Nat) (w : World), Rd .u8 w A n c l → Calls Try.prog 69 #[.string s, .slice A n c] w fun e w' => ∃ gl, e = .returned (.tuple #[.iface T (.pointer (some ⟨gl, 0, none⟩)), .nilIface]) ∧ Obj1 w w' gl E (cells A n c)

theorem called_short (s : ByteArray) (l : List Int) (hs : (s.toList == [115, 99, 116, 112]) = false) (hn : l.length < 4) : CallAt s l false := by
  intro A n c w h
  have hlen := h.len
  have h4 : n < 4 := by omega
  clear h hlen hn
  go_enter Try.func68, Try.ntmps68
  go_wp2_with fail
  go_ret
  exact ⟨rfl, Bl.refl _⟩
theorem called_err (s : ByteArray) (l : List Int) (hs : (s.toList == [115, 99, 116, 112]) = false) (hl : By l) (hn : 4 ≤ l.length) (hn2 : l.length ≤ 2000) (hL : chL l < 4) : CallAt s l true := by
  intro A n c w h
  have hlen := h.len
  have HH := Lib.hid h
  have HB := Lib.hid hl
  have h4 : 4 ≤ n := by omega
  have h5 : n ≤ 2000 := by omega
  have e1 := chL_int l hl
  have b1 : be (sub l 2 (2 + 2)) < 4 := by show be (sub l 2 4) < 4; omega
  clear h hlen hn hl e1
  go_enter Try.func68, Try.ntmps68
  go_wp2_with fail
  (with_reducible refine (number_any _ _ _ 2 _ _ HH.out HB.out (by omega) (by omega) 2 rfl).mono ?_)
  rintro e w1 ⟨rfl, q, rfl⟩
  generalize be (sub l 2 (2 + 2)) = L at *
  go_wp2_with fail
  go_ret
  exact ⟨rfl, (Bl.refl _).drewN _⟩
theorem called_no (s : ByteArray) (l : List Int) (hs : (s.toList == [115, 99, 116, 112]) = false) (hl : By l) (hn : 4 ≤ l.length) (hn2 : l.length ≤ 2000) (h0 : l.getD 0 0 ≠ 0) (h4' : 4 ≤ chL l) (hL : l.length < up4 (chL l)) : CallAt s l false := by
  intro A n c w h
  have hlen := h.len
  have HH := Lib.hid h
  have HB := Lib.hid hl
  obtain ⟨g, o, rfl, hg, hc⟩ := h.at (by omega)
  have d0 := hc 0 (by omega)
  simp only [Nat.add_zero] at d0
  have h4 : 4 ≤ n := by omega
  have h5 : n ≤ 2000 := by omega
  have e1 : be (sub l 2 (2 + 2)) = (chL l : Int) := chL_int l hl
  have b1 : 4 ≤ be (sub l 2 (2 + 2)) := by omega
  have b2 : be (sub l 2 (2 + 2)) ≤ 65535 := by have := chL_le l hl (by omega); omega
  have b3 : (n : Int) < (be (sub l 2 (2 + 2)) + 3) / 4 * 4 := by rw [e1]; unfold up4 at hL; omega
  generalize l.getD 0 0 = x0 at *
  have H0 := Lib.hid h0
  have d0' : ∀ q, (w.drewN q).cell? ⟨g, o, none⟩ = some (.int .u8 x0) := fun q => d0
  clear h hlen hn hl e1 hc h4' hL h0 d0
  go_enter Try.func68, Try.ntmps68
  go_wp2_with fail
  (with_reducible refine (number_any _ _ _ 2 _ _ HH.out HB.out (by omega) (by omega) 2 rfl).mono ?_)
  rintro e w1 ⟨rfl, q, rfl⟩
  generalize be (sub l 2 (2 + 2)) = L at *
  go_wp2_with fail
  (with_reducible refine (iup_any _ (by omega) (by omega) _).mono ?_)
  rintro e w1 ⟨rfl, rfl⟩
  generalize (L + 3) / 4 * 4 = U at *
  have h0 := H0.out
  go_wp2_with fail
  go_ret
  exact ⟨rfl, (Bl.refl _).drewN _⟩
theorem decoded_ok (s : ByteArray) (l : List Int) (T E : TypeId) (cells : Option Addr → Nat → Nat → Array Value) (hn : l.length ≤ 2000) (hc : CallAt s l true) (hz : ZzOk s l T E cells) (A : Option Addr) (n c : Nat) (w : World) (h : Rd .u8 w A n c l) :
    Calls Try.prog 48 #[.string s, .slice A n c] w fun e w' =>
      ∃ A1 c1 gl, e = .returned (.tuple #[.iface T (.pointer (some ⟨gl, 0, none⟩)), .bool true]) ∧ Obj1 w w' gl E (cells A1 n c1) ∧ Rd .u8 w' A1 n c1 l := by
  have hlen := h.len
  have h5 : n ≤ 2000 := by omega
  have H := Lib.hid h
  have HC := Lib.hid hc
  have HZ := Lib.hid hz
  clear h hlen hn hc hz
  go_enter Try.func48, Try.ntmps48
  go_wp2_with fail
  (with_reducible refine (HC.out _ _ _ _ H.out).mono ?_)
  rintro e w1 ⟨rfl, hb0⟩
  go_wp2_with fail
  (with_reducible refine (bclone_any _ _ _ _ _ (H.out.below hb0) (by omega)).mono ?_)
  rintro e w2 ⟨⟨A1, c1, rfl, r1⟩, hb1⟩
  have R1 := Lib.hid r1
  clear r1
  go_wp2_with fail
  (with_reducible refine (HZ.out _ _ _ _ R1.out).mono ?_)
  rintro e w3 ⟨gl, rfl, ho⟩
  have O := Lib.hid ho
  clear ho
  go_wp2_with fail
  go_quiet (fail)
  go_wp2_with fail
  go_ret2
  exact ⟨A1, c1, gl, rfl, ⟨((hb0.trans hb1).trans O.out.bl).drewN _, O.out.layer.same rfl⟩, (R1.out.below O.out.bl).below ((Bl.refl _).drewN _)⟩
theorem decoded_err (s : ByteArray) (l : List Int) (hn : l.length ≤ 2000) (hc : CallAt s l true) (hz : ZzErr s l) (A : Option Addr) (n c : Nat) (w : World) (h : Rd .u8 w A n c l) :
    Calls Try.prog 48 #[.string s, .slice A n c] w fun e w' => e = .returned (.tuple #[.nilIface, .bool false]) ∧ Bl w w' := by
  have hlen := h.len
  have h5 : n ≤ 2000 := by omega
  have H := Lib.hid h
  have HC := Lib.hid hc
  have HZ := Lib.hid hz
  clear h hlen hn hc hz
  go_enter Try.func48, Try.ntmps48
  go_wp2_with fail
  (with_reducible refine (HC.out _ _ _ _ H.out).mono ?_)
  rintro e w1 ⟨rfl, hb0⟩
  go_wp2_with fail
  (with_reducible refine (bclone_any _ _ _ _ _ (H.out.below hb0) (by omega)).mono ?_)
  rintro e w2 ⟨⟨A1, c1, rfl, r1⟩, hb1⟩
  have R1 := Lib.hid r1
  clear r1
  go_wp2_with fail
  (with_reducible refine (HZ.out _ _ _ _ R1.out).mono ?_)
  rintro e w3 ⟨⟨u, rfl⟩, hb2⟩
  go_wp2_with fail
  go_quiet (fail)
  go_wp2_with fail
  go_ret2
  exact ⟨rfl, ((hb0.trans hb1).trans hb2).drewN _⟩
theorem decoded_no (s : ByteArray) (l : List Int) (hn : l.length ≤ 2000) (hc : CallAt s l false) (A : Option Addr) (n c : Nat) (w : World) (h : Rd .u8 w A n c l) :
    Calls Try.prog 48 #[.string s, .slice A n c] w fun e w' => e = .returned (.tuple #[.nilIface, .bool false]) ∧ Bl w w' := by
  have hlen := h.len
  have h5 : n ≤ 2000 := by omega
  have H := Lib.hid h
  have HC := Lib.hid hc
  clear h hlen hn hc
  go_enter Try.func48, Try.ntmps48
  go_wp2_with fail
  (with_reducible refine (HC.out _ _ _ _ H.out).mono ?_)
  rintro e w1 ⟨rfl, hb0⟩
  go_wp2_with fail
  go_ret2
  exact ⟨rfl, hb0⟩
end Go.Proofs.Ytoljdgfbkebgcaa
