/- impl.areParameters. -/
import Derived.Test.YtoljdgfbkebgcaaPrm
import Derived.Test.YtoljdgfbkebgcaaLeaf
import Derived.LoopTactic
namespace Go.Proofs.Ytoljdgfbkebgcaa
open Go.RowKit
set_option maxHeartbeats 2000000 in
theorem are_any (A : Option Addr) (n c : Nat) (l : List Int) (w : World) (h : Rd .u8 w A n c l) (hl : By l) (hn : n ≤ 2147483647) :
    Calls Try.prog 75 #[.slice A n c] w fun e w' => e = .returned (.bool (fullOf l)) ∧ ∃ q, w' = w.drewN q := by
  have H := Lib.hid h
  have HB := Lib.hid hl
  clear h hl
  go_enter Try.func75, Try.ntmps75
  go_wp2_with fail
  go_loopw [0] (fun b wr => Hid (∃ (A' : Option Addr) (n' c' : Nat) (l' : List Int) (q : Nat), b = .slice A' n' c' ∧ Rd .u8 w A' n' c' l' ∧ By l' ∧ n' ≤ n ∧ wr = w.drewN q ∧ fullOf l = fullOf l')) (fun b _ => match b with | .slice _ n _ => n | _ => 0)
  case atStart => exact Lib.hid ⟨A, n, c, l, 0, rfl, H.out, HB.out, Nat.le_refl _, rfl, rfl⟩
  case round =>
    obtain ⟨A', n', c', l', q, rfl, h, hl, hnn, rfl, he⟩ := hrel.out
    clear hrel
    have hcap := h.cap
    have hlen := h.len
    by_cases h0 : n' = 0
    · have HE := Lib.hid (he.trans (fullOf_nil l' (by omega)))
      subst h0
      clear h hl he
      go_wp2_with fail
      go_ret
      exact ⟨by rw [HE.out]; rfl, q, rfl⟩
    have h0' : (0 : Int) < (n' : Int) := by omega
    by_cases h4 : n' < 4
    · have h4' : (n' : Int) < 4 := by omega
      have HE := Lib.hid (he.trans (fullOf_bad l' (by omega) (.inl (by omega))))
      clear h hl he
      go_wp2_with fail
      go_ret
      exact ⟨by rw [HE.out]; rfl, q, rfl⟩
    have h4' : (4 : Int) ≤ (n' : Int) := by omega
    have b1 := be_bd2 (sub l' 2 4) (hl.sub _ _) (by rw [sub_length _ _ _ (by omega)])
    have e1 := chL_int l' hl
    have E1 := Lib.hid e1
    have R := Lib.hid h
    have HB1 := Lib.hid hl
    have HU : Hid ((be (sub l' 2 4) + 3) / 4 * 4 = ((up4 (chL l') : Nat) : Int)) := Lib.hid (by unfold up4; omega)
    by_cases hV : chL l' < 4
    · have HE := Lib.hid (he.trans (fullOf_bad l' (by omega) (.inr (.inl hV))))
      have hV' : be (sub l' 2 4) < 4 := by omega
      clear h hl he e1 hV
      generalize HG : be (sub l' 2 4) = G at *
      go_wp2_with fail
      (with_reducible refine (number_any _ _ _ 2 _ _ (R.out.below ((Bl.refl w).drewN _)) HB1.out (by omega) (by omega) 2 rfl).mono ?_)
      rintro e w2 ⟨rfl, q2, rfl⟩
      rw [HG]
      go_wp2_with fail
      go_ret
      exact ⟨by rw [HE.out]; rfl, _, rfl⟩
    by_cases hL : n' < up4 (chL l')
    · have HE := Lib.hid (he.trans (fullOf_bad l' (by omega) (.inr (.inr (by omega)))))
      have hV' : 4 ≤ be (sub l' 2 4) := by omega
      have hL' : (n' : Int) < (be (sub l' 2 4) + 3) / 4 * 4 := by have := HU.out; omega
      clear h hl he e1 hV hL
      generalize HG : be (sub l' 2 4) = G at *
      go_wp2_with fail
      (with_reducible refine (number_any _ _ _ 2 _ _ (R.out.below ((Bl.refl w).drewN _)) HB1.out (by omega) (by omega) 2 rfl).mono ?_)
      rintro e w2 ⟨rfl, q2, rfl⟩
      rw [HG]
      go_wp2_with fail
      (with_reducible refine (number_any _ _ _ 2 _ _ (R.out.below ((Bl.refl w).drewN _)) HB1.out (by omega) (by omega) 2 rfl).mono ?_)
      rintro e w2 ⟨rfl, q3, rfl⟩
      rw [HG]
      go_wp2_with fail
      (with_reducible refine (iup_any _ (by omega) (by omega) _).mono ?_)
      rintro e w2 ⟨rfl, rfl⟩
      go_wp2_with fail
      go_ret
      exact ⟨by rw [HE.out]; rfl, _, rfl⟩
    have HE := Lib.hid (he.trans (fullOf_cons l' (by omega) (by omega) (by omega)))
    have hV' : 4 ≤ be (sub l' 2 4) := by omega
    have hL' : (be (sub l' 2 4) + 3) / 4 * 4 ≤ (n' : Int) := by have := HU.out; omega
    have s3 := run_cut_l A' n' c' (up4 (chL l')) _ HU.out (by omega) 24 Try.underlying24 size5
    have R3 := Lib.hid (h.cut (up4 (chL l')) n' (by omega) (Nat.le_refl _))
    have hu4 : 4 ≤ up4 (chL l') := by unfold up4; omega
    clear h hl he e1 hV hL
    generalize HG : be (sub l' 2 4) = G at *
    go_wp2_with fail
    (with_reducible refine (number_any _ _ _ 2 _ _ (R.out.below ((Bl.refl w).drewN _)) HB1.out (by omega) (by omega) 2 rfl).mono ?_)
    rintro e w2 ⟨rfl, q2, rfl⟩
    rw [HG]
    go_wp2_with fail
    (with_reducible refine (number_any _ _ _ 2 _ _ (R.out.below ((Bl.refl w).drewN _)) HB1.out (by omega) (by omega) 2 rfl).mono ?_)
    rintro e w2 ⟨rfl, q3, rfl⟩
    rw [HG]
    go_wp2_with fail
    (with_reducible refine (iup_any _ (by omega) (by omega) _).mono ?_)
    rintro e w2 ⟨rfl, rfl⟩
    go_wp2_with fail
    (with_reducible refine (number_any _ _ _ 2 _ _ (R.out.below ((Bl.refl w).drewN _)) HB1.out (by omega) (by omega) 2 rfl).mono ?_)
    rintro e w2 ⟨rfl, q4, rfl⟩
    rw [HG]
    go_wp2_with fail
    (with_reducible refine (iup_any _ (by omega) (by omega) _).mono ?_)
    rintro e w2 ⟨rfl, rfl⟩
    clear s3
    have s3 := run_cut_l A' n' c' (up4 (chL l')) ((G + 3) / 4 * 4) HU.out (by have := HU.out; omega) 24 Try.underlying24 size5
    go_wp2_with fail
    have es : sub l' (up4 (chL l')) n' = l'.drop (up4 (chL l')) := by rw [← hlen]; simp [sub]
    rw [es] at R3
    have hbd : By (l'.drop (up4 (chL l'))) := by rw [← es]; exact HB1.out.sub _ _
    generalize up4 (chL l') = U at *
    refine ⟨Lib.hid ⟨cutA A' c' U, n' - U, c' - U, l'.drop U, _, rfl, R3.out, hbd, by omega, rfl, HE.out⟩, by simp only; omega⟩
end Go.Proofs.Ytoljdgfbkebgcaa
