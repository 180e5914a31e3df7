/- laws.again, for any kind: out of what the reference says, what is filled up, and what the package writes. -/
import Derived.Test.YtoljdgfbkebgcaaAlive
import Derived.Test.YtoljdgfbkebgcaaRead
import Derived.Test.YtoljdgfbkebgcaaChk
import Derived.Test.YtoljdgfbkebgcaaCopy
namespace Go.Proofs.Ytoljdgfbkebgcaa
open Go.RowKit
abbrev FilAt (s : ByteArray) (l : List Int) (b : Bool) : Prop :=
  ∀ (A : Option Addr) (n c : Nat) (w : World), Rd .u8 w A n c l → Calls Try.prog 44 #[.string s, .slice A n c] w fun e w' => e = .returned (.bool b) ∧ Bl w w'
abbrev WriteAt (s : ByteArray) (l : List Int) (L : Lyr) : Prop :=
  ∀ (F : Nat → Prop) (v : Value) (fix : Bool) (w : World), LyrV F w v L → Calls Try.prog 28 #[.string s, v, .bool fix, .bool false] w fun e w' => ∃ A n c, e = .returned (.tuple #[.slice A n c, .bool true]) ∧ Rd .u8 w' A n c l ∧ Bl w w'
set_option maxHeartbeats 1000000 in
theorem again_no (s : ByteArray) (l : List Int) (L : Lyr) (ok told : Bool) (fix : Bool) (hs : SpecAt s l L ok told) (A : Option Addr) (n c : Nat) (w : World) (h : Rd .u8 w A n c l) (hx : 200 < n ∨ told = false ∨ ok = false) :
    Calls Try.prog 31 #[.string s, .slice A n c, .bool fix] w fun e w' => e = .returned (.bool true) ∧ Bl w w' := by
  have H := Lib.hid (hs A n c w.heap.size w h h.inF (Nat.le_refl _))
  clear hs h
  by_cases h2 : (200 : Int) < (n : Int)
  · clear hx
    go_enter Try.func31, Try.ntmps31
    go_wp2_with fail
    (with_reducible refine H.out.mono ?_)
    rintro e w1 ⟨v, rfl, hL, hb⟩
    obtain ⟨A0, c0, A1, c1, A2, c2, A3, c3, rfl⟩ := hL.form
    clear hL
    go_wp2_with fail
    go_ret
    exact ⟨rfl, hb.trans (by go_grown)⟩
  · cases told with
    | false =>
      clear hx
      go_enter Try.func31, Try.ntmps31
      go_wp2_with fail
      (with_reducible refine H.out.mono ?_)
      rintro e w1 ⟨v, rfl, hL, hb⟩
      obtain ⟨A0, c0, A1, c1, A2, c2, A3, c3, rfl⟩ := hL.form
      clear hL
      go_wp2_with fail
      go_ret
      exact ⟨rfl, hb.trans (by go_grown)⟩
    | true =>
      have hok : ok = false := by rcases hx with hx | hx | hx <;> first | omega | (simp at hx; done) | exact hx
      subst hok
      clear hx
      go_enter Try.func31, Try.ntmps31
      go_wp2_with fail
      (with_reducible refine H.out.mono ?_)
      rintro e w1 ⟨v, rfl, hL, hb⟩
      obtain ⟨A0, c0, A1, c1, A2, c2, A3, c3, rfl⟩ := hL.form
      clear hL
      go_wp2_with fail
      go_ret
      exact ⟨rfl, hb.trans (by go_grown)⟩
set_option maxHeartbeats 1000000 in
theorem again_len (s : ByteArray) (l : List Int) (hl : By l) (L : Lyr) (fix : Bool) (hs : SpecAt s l L true true) (A : Option Addr) (n c : Nat) (w : World) (h : Rd .u8 w A n c l) (h200 : n ≤ 200) (h4 : 4 ≤ n) (hx : n ≠ up4 (chL l)) :
    Calls Try.prog 31 #[.string s, .slice A n c, .bool fix] w fun e w' => e = .returned (.bool true) ∧ Bl w w' := by
  have H := Lib.hid (hs A n c w.heap.size w h h.inF (Nat.le_refl _))
  have hcap := h.cap
  have s1 := run_cut A n c 2 4 2 4 rfl rfl (by omega) (by omega) 24 Try.underlying24 size5
  have R1 := Lib.hid (h.cutm 2 4 2 (by omega) (by omega))
  have HB := Lib.hid hl
  have b1 := be_bd2 (sub l 2 4) (hl.sub _ _) (by rw [sub_length _ _ _ (by have := h.len; omega)])
  have e1 := chL_int l hl
  have hne : ((n : Int) != (be (sub l 2 4) + 3) / 4 * 4) = true := by rw [e1]; unfold up4 at hx; simp; omega
  clear hs h hl hx e1
  generalize HG : be (sub l 2 4) = G at *
  go_enter Try.func31, Try.ntmps31
  go_wp2_with fail
  (with_reducible refine H.out.mono ?_)
  rintro e w1 ⟨v, rfl, hL, hb⟩
  obtain ⟨A0, c0, A1, c1, A2, c2, A3, c3, rfl⟩ := hL.form
  clear hL
  go_wp2_with fail
  (with_reducible refine (num_any _ _ _ _ _ (R1.out.below (hb.trans (by go_grown))) (HB.out.sub 2 4) (by omega) (by omega)).mono ?_)
  rintro e w2 ⟨rfl, rfl⟩
  rw [HG]
  go_wp2_with fail
  go_ret
  exact ⟨rfl, hb.trans (by go_grown)⟩
set_option maxHeartbeats 1000000 in
theorem again_fil (s : ByteArray) (l : List Int) (hl : By l) (L : Lyr) (fix : Bool) (hs : SpecAt s l L true true) (hf : FilAt s l false) (A : Option Addr) (n c : Nat) (w : World) (h : Rd .u8 w A n c l) (h200 : n ≤ 200) (h4 : 4 ≤ n) (hx : n = up4 (chL l)) :
    Calls Try.prog 31 #[.string s, .slice A n c, .bool fix] w fun e w' => e = .returned (.bool true) ∧ Bl w w' := by
  have H := Lib.hid (hs A n c w.heap.size w h h.inF (Nat.le_refl _))
  have hcap := h.cap
  have s1 := run_cut A n c 2 4 2 4 rfl rfl (by omega) (by omega) 24 Try.underlying24 size5
  have R1 := Lib.hid (h.cutm 2 4 2 (by omega) (by omega))
  have R := Lib.hid h
  have HF := Lib.hid hf
  have HB := Lib.hid hl
  have b1 := be_bd2 (sub l 2 4) (hl.sub _ _) (by rw [sub_length _ _ _ (by have := h.len; omega)])
  have e1 := chL_int l hl
  have hne : ((n : Int) != (be (sub l 2 4) + 3) / 4 * 4) = false := by rw [e1]; unfold up4 at hx; simp; omega
  clear hs h hl hx e1 hf
  generalize HG : be (sub l 2 4) = G at *
  go_enter Try.func31, Try.ntmps31
  go_wp2_with fail
  (with_reducible refine H.out.mono ?_)
  rintro e w1 ⟨v, rfl, hL, hb⟩
  obtain ⟨A0, c0, A1, c1, A2, c2, A3, c3, rfl⟩ := hL.form
  clear hL
  go_wp2_with fail
  (with_reducible refine (num_any _ _ _ _ _ (R1.out.below (hb.trans (by go_grown))) (HB.out.sub 2 4) (by omega) (by omega)).mono ?_)
  rintro e w2 ⟨rfl, rfl⟩
  rw [HG]
  go_wp2_with fail
  (with_reducible refine (HF.out _ _ _ _ (R.out.below (hb.trans (by go_grown)))).mono ?_)
  rintro e w3 ⟨rfl, hb3⟩
  go_wp2_with fail
  go_ret
  exact ⟨rfl, (hb.trans (Bl.trans (by go_grown) hb3))⟩
set_option maxHeartbeats 1000000 in
theorem again_yes (s : ByteArray) (l : List Int) (hl : By l) (L : Lyr) (fix : Bool) (hs : SpecAt s l L true true) (hf : FilAt s l true) (hw : WriteAt s l L) (A : Option Addr) (n c : Nat) (w : World) (h : Rd .u8 w A n c l) (h200 : n ≤ 200) (h4 : 4 ≤ n) (hx : n = up4 (chL l)) :
    Calls Try.prog 31 #[.string s, .slice A n c, .bool fix] w fun e w' => e = .returned (.bool true) ∧ Bl w w' := by
  have H := Lib.hid (hs A n c w.heap.size w h h.inF (Nat.le_refl _))
  have hcap := h.cap
  have s1 := run_cut A n c 2 4 2 4 rfl rfl (by omega) (by omega) 24 Try.underlying24 size5
  have R1 := Lib.hid (h.cutm 2 4 2 (by omega) (by omega))
  have R := Lib.hid h
  have HF := Lib.hid hf
  have HWr := Lib.hid hw
  have HB := Lib.hid hl
  have b1 := be_bd2 (sub l 2 4) (hl.sub _ _) (by rw [sub_length _ _ _ (by have := h.len; omega)])
  have e1 := chL_int l hl
  have hne : ((n : Int) != (be (sub l 2 4) + 3) / 4 * 4) = false := by rw [e1]; unfold up4 at hx; simp; omega
  clear hs h hl hx e1 hf hw
  generalize HG : be (sub l 2 4) = G at *
  go_enter Try.func31, Try.ntmps31
  go_wp2_with fail
  (with_reducible refine H.out.mono ?_)
  rintro e w1 ⟨v, rfl, hL, hb⟩
  have HL := Lib.hid hL
  obtain ⟨A0, c0, A1, c1, A2, c2, A3, c3, rfl⟩ := hL.form
  clear hL
  go_wp2_with fail
  (with_reducible refine (num_any _ _ _ _ _ (R1.out.below (hb.trans (by go_grown))) (HB.out.sub 2 4) (by omega) (by omega)).mono ?_)
  rintro e w2 ⟨rfl, rfl⟩
  rw [HG]
  go_wp2_with fail
  (with_reducible refine (HF.out _ _ _ _ (R.out.below (hb.trans (by go_grown)))).mono ?_)
  rintro e w3 ⟨rfl, hb3⟩
  have k3 := Blk.keep hb3 (Blk.new w1 _ _)
  have c3' := k3.cell
  have B3 : Bl w1 w3 := Bl.trans (by go_grown) hb3
  clear hb3
  go_wp2_with fail
  (with_reducible refine (HWr.out _ _ _ _ (LyrV.below HL.out B3)).mono ?_)
  rintro e w4 ⟨A5, n5, c5, rfl, r5, hb4⟩
  have R5 := Lib.hid r5
  have B4 := (hb.trans B3).trans hb4
  clear r5 hb4
  go_wp2_with fail
  (with_reducible refine (bequal_any _ _ _ _ _ _ l _ R5.out (R.out.below B4)).mono ?_)
  rintro e w5 ⟨rfl, rfl⟩
  go_wp2_with fail
  (with_reducible refine (alive_any _).mono ?_)
  rintro e w6 ⟨rfl, hb6⟩
  go_wp2_with fail
  go_ret
  exact ⟨rfl, B4.trans hb6⟩
/-- The law for any kind. -/
theorem again_any (s : ByteArray) (l : List Int) (hl : By l) (L : Lyr) (ok told : Bool) (fix : Bool) (hs : SpecAt s l L ok told)
    (hf : told = true → ok = true → l.length ≤ 200 → 4 ≤ l.length ∧ (l.length = up4 (chL l) → FilAt s l false ∨ (FilAt s l true ∧ WriteAt s l L)))
    (A : Option Addr) (n c : Nat) (w : World) (h : Rd .u8 w A n c l) :
    Calls Try.prog 31 #[.string s, .slice A n c, .bool fix] w fun e w' => e = .returned (.bool true) ∧ Bl w w' := by
  have hlen := h.len
  by_cases h2 : 200 < n
  · exact again_no s l L ok told fix hs A n c w h (.inl h2)
  · cases told with
    | false => exact again_no s l L ok false fix hs A n c w h (.inr (.inl rfl))
    | true =>
      cases ok with
      | false => exact again_no s l L false true fix hs A n c w h (.inr (.inr rfl))
      | true =>
        obtain ⟨h4, hf⟩ := hf rfl rfl (by omega)
        by_cases hx : n = up4 (chL l)
        · rcases hf (by omega) with hf | ⟨hf, hw⟩
          · exact again_fil s l hl L fix hs hf A n c w h (by omega) (by omega) hx
          · exact again_yes s l hl L fix hs hf hw A n c w h (by omega) (by omega) hx
        · exact again_len s l hl L fix hs A n c w h (by omega) (by omega) hx
end Go.Proofs.Ytoljdgfbkebgcaa
