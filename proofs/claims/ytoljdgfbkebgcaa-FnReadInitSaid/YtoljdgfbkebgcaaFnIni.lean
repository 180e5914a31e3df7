/- laws.FnRead of sctpinit is true. -/
import Derived.Test.YtoljdgfbkebgcaaZzIni
import Derived.Test.YtoljdgfbkebgcaaSrIni
import Derived.Test.YtoljdgfbkebgcaaSoIni
import Derived.Test.YtoljdgfbkebgcaaSnIni
import Derived.Test.YtoljdgfbkebgcaaKindNe
namespace Go.Proofs.Ytoljdgfbkebgcaa
open Go.RowKit
theorem Ini_read (A : Option Addr) (n c : Nat) (l : List Int) (w : World) (h : Rd .u8 w A n c l) (hl : By l) (hn : n ≤ 2147483647) :
    Calls Try.prog 30 #[.string ⟨#[115, 99, 116, 112, 105, 110, 105, 116]⟩, .slice A n c] w fun e w' => e = .returned (.bool true) ∧ Bl w w' := by
  have hlen := h.len
  have hs : ((⟨#[115, 99, 116, 112, 105, 110, 105, 116]⟩ : ByteArray).toList == [115, 99, 116, 112]) = false := by simp [go_sem]
  have hd : ((⟨#[115, 99, 116, 112, 105, 110, 105, 116]⟩ : ByteArray).toList == [115, 99, 116, 112, 100, 97, 116, 97]) = false := by simp [go_sem]
  by_cases h4 : l.length < 4
  · exact read_any _ l nilLyr false true (sr_short _ l hs h4) (fun _ h => by simp at h) (fun _ _ h200 => readIni_no l (decoded_no _ l (by omega) (called_short _ l hs h4))) A n c w h
  by_cases hk : kindOf (l.getD 0 0) = ⟨#[115, 99, 116, 112, 105, 110, 105, 116]⟩
  · have hk' : ((kindOf (l.getD 0 0)).toList == (⟨#[115, 99, 116, 112, 105, 110, 105, 116]⟩ : ByteArray).toList) = true := by rw [hk]; simp
    have h0 : l.getD 0 0 ≠ 0 := by
      intro h0
      rw [h0] at hk
      rw [← hk] at hd
      simp [kindOf, kDat, go_sem] at hd
    by_cases hL : chL l < 4
    · exact read_any _ l nilLyr false true (sr_low _ l hl hs (by omega) (by omega) hk' hL) (fun _ h => by simp at h) (fun _ _ h200 => readIni_no l (decoded_err _ l (by omega) (called_err _ l hs hl (by omega) (by omega) hL) (zzIni_err l hl (by omega) hL))) A n c w h
    by_cases hlong : l.length < chL l
    · exact read_any _ l nilLyr false true (sr_long _ l hl hs (by omega) (by omega) hk' hd hlong) (fun _ h => by simp at h) (fun _ _ h200 => readIni_no l (decoded_no _ l (by omega) (called_no _ l hs hl (by omega) (by omega) h0 (by omega) (by unfold up4; omega)))) A n c w h
    by_cases hup : l.length < up4 (chL l)
    · exact read_any _ l nilLyr false false (sr_full _ l hl hs (by omega) (by omega) hk' hd (by omega) (by omega) hup) (fun h => by simp at h) (fun h => by simp at h) A n c w h
    by_cases hm' : ¬ (20 ≤ chL l ∧ chL l % 4 = 0)
    · exact read_any _ l nilLyr false false (srIni_odd l hl (by omega) (by omega) (by omega) hm' hk) (fun h => by simp at h) (fun h => by simp at h) A n c w h
    have h20 : 20 ≤ chL l := by omega
    have hm : chL l % 4 = 0 := by omega
    have hsl : (sub l 20 (chL l)).length = chL l - 20 := sub_length _ _ _ (by omega)
    have hfp := full_prms _ (sub l 20 (chL l)) (Nat.le_refl _) (by omega)
    cases hp : prmsOf (sub l 20 (chL l)) with
    | none =>
      rw [hp] at hfp
      refine read_any _ l nilLyr false true (srIni_bad l hl (by omega) h20 (by omega) (by omega) hm hp hk) (fun _ h => by simp at h) (fun _ _ h200 => readIni_no l (decoded_no _ l (by omega) ?_)) A n c w h
      have := calledIni_any l hl (by omega) h20 hm (by omega) h0 (by omega)
      rw [hfp] at this
      exact this
    | some ps =>
      rw [hp] at hfp
      obtain ⟨hpl, hpe⟩ := prms_len _ (sub l 20 (chL l)) ps (Nat.le_refl _) hp
      refine read_any _ l _ true true (srIni_some l hl (by omega) h20 (by omega) (by omega) hm ps hp hk) (fun _ _ h200 => ⟨readIni_ok l hl (by omega) h20 hm (by omega) h0 (by omega) ps hfp hp, ?_⟩) (fun _ h => by simp at h) A n c w h
      exact ⟨by simp, by simp, by show ps.length ≤ 2147483647; omega, fun p hp => by have := (hpe p hp).1; omega⟩
  · exact read_any _ l nilLyr false false (sr_open _ l hl hs (by omega) (by omega) (kind_ne _ _ hk (.inr (.inl rfl)))) (fun h => by simp at h) (fun h => by simp at h) A n c w h
set_option maxHeartbeats 1000000 in
theorem Ini_law (A : Option Addr) (n c : Nat) (l : List Int) (w : World) (h : Rd .u8 w A n c l) (hl : By l) :
    Calls Try.prog 14 #[.slice A n c] w fun e w' => e = .returned (.bool true) ∧ Bl w w' := by
  by_cases hz : (2147483647 : Int) < (n : Int)
  · go_enter Try.func14, Try.ntmps14
    go_wp2
    go_ret
    exact ⟨rfl, Bl.refl _⟩
  · have H := Lib.hid (Ini_read A n c l w h hl (by omega))
    clear h
    go_enter Try.func14, Try.ntmps14
    go_wp2_with fail
    (with_reducible refine H.out.mono ?_)
    rintro e w1 ⟨rfl, hb⟩
    go_wp2_with fail
    go_ret
    exact ⟨rfl, hb⟩
end Go.Proofs.Ytoljdgfbkebgcaa
