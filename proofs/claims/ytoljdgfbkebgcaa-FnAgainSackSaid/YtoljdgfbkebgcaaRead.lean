/- laws.read, for any kind: out of what the reference says and what the package reads. -/
import Derived.Test.YtoljdgfbkebgcaaAlive
import Derived.Test.YtoljdgfbkebgcaaSame
namespace Go.Proofs.Ytoljdgfbkebgcaa
open Go.RowKit
/-- What impl.Read gives where there is no layer. -/
def NotGot (w w' : World) (e : Ending) : Prop := e = .returned (.tuple #[zeroLyr, .bool false]) ∧ Bl w w'
/-- The reference at a kind and bytes: the layer, whether there is one, whether it is told. -/
abbrev SpecAt (s : ByteArray) (l : List Int) (L : Lyr) (ok told : Bool) : Prop :=
  ∀ (A : Option Addr) (n c B : Nat) (w : World), Rd .u8 w A n c l → InF (· < B) A n → B ≤ w.heap.size → Calls Try.prog 43 #[.string s, .slice A n c] w fun e w' => Told B w w' e L ok told
abbrev ReadAt (s : ByteArray) (l : List Int) (L : Lyr) : Prop :=
  ∀ (A : Option Addr) (n c : Nat) (w : World), Rd .u8 w A n c l → Calls Try.prog 33 #[.string s, .slice A n c] w fun e w' => Got w w' e L
abbrev NoReadAt (s : ByteArray) (l : List Int) : Prop :=
  ∀ (A : Option Addr) (n c : Nat) (w : World), Rd .u8 w A n c l → Calls Try.prog 33 #[.string s, .slice A n c] w fun e w' => NotGot w w' e

set_option maxHeartbeats 1000000 in
theorem read_open (s : ByteArray) (l : List Int) (L : Lyr) (ok : Bool) (hs : SpecAt s l L ok false) (A : Option Addr) (n c : Nat) (w : World) (h : Rd .u8 w A n c l) :
    Calls Try.prog 30 #[.string s, .slice A n c] w fun e w' => e = .returned (.bool true) ∧ Bl w w' := by
  have H := Lib.hid (hs A n c w.heap.size w h h.inF (Nat.le_refl _))
  clear hs h
  by_cases h2 : (200 : Int) < (n : Int)
  · go_enter Try.func30, Try.ntmps30
    go_wp2_with fail
    (with_reducible refine H.out.mono ?_)
    rintro e w1 ⟨v, rfl, hL, hb⟩
    obtain ⟨A0, c0, A1, c1, A2, c2, A3, c3, rfl⟩ := hL.form
    clear hL
    go_wp2_with fail
    go_ret
    exact ⟨rfl, hb.trans (by go_grown)⟩
  · go_enter Try.func30, Try.ntmps30
    go_wp2_with fail
    (with_reducible refine H.out.mono ?_)
    rintro e w1 ⟨v, rfl, hL, hb⟩
    obtain ⟨A0, c0, A1, c1, A2, c2, A3, c3, rfl⟩ := hL.form
    clear hL
    go_wp2_with fail
    go_ret
    exact ⟨rfl, hb.trans (by go_grown)⟩
set_option maxHeartbeats 1000000 in
theorem read_long (s : ByteArray) (l : List Int) (L : Lyr) (ok told : Bool) (hs : SpecAt s l L ok told) (A : Option Addr) (n c : Nat) (w : World) (h : Rd .u8 w A n c l) (h2 : 200 < n) :
    Calls Try.prog 30 #[.string s, .slice A n c] w fun e w' => e = .returned (.bool true) ∧ Bl w w' := by
  have H := Lib.hid (hs A n c w.heap.size w h h.inF (Nat.le_refl _))
  clear hs h
  go_enter Try.func30, Try.ntmps30
  go_wp2_with fail
  (with_reducible refine H.out.mono ?_)
  rintro e w1 ⟨v, rfl, hL, hb⟩
  obtain ⟨A0, c0, A1, c1, A2, c2, A3, c3, rfl⟩ := hL.form
  clear hL
  go_wp2_with fail
  go_ret
  exact ⟨rfl, hb.trans (by go_grown)⟩
set_option maxHeartbeats 1000000 in
theorem read_none (s : ByteArray) (l : List Int) (L : Lyr) (hs : SpecAt s l L false true) (hr : NoReadAt s l) (A : Option Addr) (n c : Nat) (w : World) (h : Rd .u8 w A n c l) (hn : n ≤ 200) :
    Calls Try.prog 30 #[.string s, .slice A n c] w fun e w' => e = .returned (.bool true) ∧ Bl w w' := by
  have H := Lib.hid (hs A n c w.heap.size w h h.inF (Nat.le_refl _))
  have R := Lib.hid h
  have HR := Lib.hid hr
  clear hs h hr
  go_enter Try.func30, Try.ntmps30
  go_wp2_with fail
  (with_reducible refine H.out.mono ?_)
  rintro e w1 ⟨v, rfl, hL, hb⟩
  obtain ⟨A0, c0, A1, c1, A2, c2, A3, c3, rfl⟩ := hL.form
  clear hL
  go_wp2_with fail
  (with_reducible refine (HR.out _ _ _ _ (R.out.below (hb.trans (by go_grown)))).mono ?_)
  rintro e w2 ⟨rfl, hb2⟩
  unfold zeroLyr
  go_wp2_with fail
  (with_reducible refine (alive_any _).mono ?_)
  rintro e w3 ⟨rfl, hb3⟩
  go_wp2_with fail
  go_ret
  exact ⟨rfl, (hb.trans (Bl.trans (by go_grown) hb2)).trans (Bl.trans (by go_grown) hb3)⟩
set_option maxHeartbeats 1000000 in
theorem read_some (s : ByteArray) (l : List Int) (L : Lyr) (hs : SpecAt s l L true true) (hr : ReadAt s l L) (hsm : Small L) (A : Option Addr) (n c : Nat) (w : World) (h : Rd .u8 w A n c l) (hn : n ≤ 200) :
    Calls Try.prog 30 #[.string s, .slice A n c] w fun e w' => e = .returned (.bool true) ∧ Bl w w' := by
  have H := Lib.hid (hs A n c w.heap.size w h h.inF (Nat.le_refl _))
  have R := Lib.hid h
  have HR := Lib.hid hr
  have HS := Lib.hid hsm
  clear hs h hr hsm
  go_enter Try.func30, Try.ntmps30
  go_wp2_with fail
  (with_reducible refine H.out.mono ?_)
  rintro e w1 ⟨v, rfl, hL, hb⟩
  obtain ⟨A0, c0, A1, c1, A2, c2, A3, c3, rfl⟩ := hL.form
  have HL := Lib.hid hL
  clear hL
  go_wp2_with fail
  (with_reducible refine (HR.out _ _ _ _ (R.out.below (hb.trans (by go_grown)))).mono ?_)
  rintro e w2 ⟨v, rfl, hL2, hb2⟩
  obtain ⟨A4, c4, A5, c5, A6, c6, A7, c7, rfl⟩ := hL2.form
  have HL2 := Lib.hid hL2
  clear hL2
  have k1 := Blk.keep hb2 (Blk.new w1 _ _)
  have d1 := k1.cell
  have z1 := k1.lt
  go_wp2_with fail
  (with_reducible refine (same_any _ _ L _ (LyrV.below HL2.out (by go_grown)) (LyrV.below HL.out ((Bl.trans (by go_grown) hb2).trans (by go_grown))) HS.out).mono ?_)
  rintro e w3 ⟨rfl, hb3⟩
  go_wp2_with fail
  (with_reducible refine (alive_any _).mono ?_)
  rintro e w4 ⟨rfl, hb4⟩
  go_wp2_with fail
  go_ret
  exact ⟨rfl, ((hb.trans (Bl.trans (by go_grown) hb2)).trans (Bl.trans (by go_grown) hb3)).trans hb4⟩
/-- The law for any kind. -/
theorem read_any (s : ByteArray) (l : List Int) (L : Lyr) (ok told : Bool) (hs : SpecAt s l L ok told) (hr : told = true → ok = true → l.length ≤ 200 → ReadAt s l L ∧ Small L) (hnr : told = true → ok = false → l.length ≤ 200 → NoReadAt s l)
    (A : Option Addr) (n c : Nat) (w : World) (h : Rd .u8 w A n c l) :
    Calls Try.prog 30 #[.string s, .slice A n c] w fun e w' => e = .returned (.bool true) ∧ Bl w w' := by
  have hl := h.len
  by_cases h2 : 200 < n
  · exact read_long s l L ok told hs A n c w h h2
  · cases told with
    | false => exact read_open s l L ok hs A n c w h
    | true =>
      cases ok with
      | false => exact read_none s l L hs (hnr rfl rfl (by omega)) A n c w h (by omega)
      | true =>
        obtain ⟨h3, h4⟩ := hr rfl rfl (by omega)
        exact read_some s l L hs h3 h4 A n c w h (by omega)
end Go.Proofs.Ytoljdgfbkebgcaa
