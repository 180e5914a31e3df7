/- laws.FnRead of sctpshutdown is true. -/
import Derived.Test.YtoljdgfbkebgcaaZzShu
import Derived.Test.YtoljdgfbkebgcaaSrShu
import Derived.Test.YtoljdgfbkebgcaaSoShu
import Derived.Test.YtoljdgfbkebgcaaKindNe
namespace Go.Proofs.Ytoljdgfbkebgcaa
open Go.RowKit
theorem Shu_read (A : Option Addr) (n c : Nat) (l : List Int) (w : World) (h : Rd .u8 w A n c l) (hl : By l) (hn : n ≤ 2147483647) :
    Calls Try.prog 30 #[.string ⟨#[115, 99, 116, 112, 115, 104, 117, 116, 100, 111, 119, 110]⟩, .slice A n c] w fun e w' => e = .returned (.bool true) ∧ Bl w w' := by
  have hlen := h.len
  have hs : ((⟨#[115, 99, 116, 112, 115, 104, 117, 116, 100, 111, 119, 110]⟩ : ByteArray).toList == [115, 99, 116, 112]) = false := by simp [go_sem]
  have hd : ((⟨#[115, 99, 116, 112, 115, 104, 117, 116, 100, 111, 119, 110]⟩ : ByteArray).toList == [115, 99, 116, 112, 100, 97, 116, 97]) = false := by simp [go_sem]
  by_cases h4 : l.length < 4
  · exact read_any _ l nilLyr false true (sr_short _ l hs h4) (fun _ h => by simp at h) (fun _ _ h200 => readShu_no l (decoded_no _ l (by omega) (called_short _ l hs h4))) A n c w h
  by_cases hk : kindOf (l.getD 0 0) = ⟨#[115, 99, 116, 112, 115, 104, 117, 116, 100, 111, 119, 110]⟩
  · have hk' : ((kindOf (l.getD 0 0)).toList == (⟨#[115, 99, 116, 112, 115, 104, 117, 116, 100, 111, 119, 110]⟩ : ByteArray).toList) = true := by rw [hk]; simp
    have h0 : l.getD 0 0 ≠ 0 := by
      intro h0
      rw [h0] at hk
      rw [← hk] at hd
      simp [kindOf, kDat, go_sem] at hd
    by_cases hL : chL l < 4
    · exact read_any _ l nilLyr false true (sr_low _ l hl hs (by omega) (by omega) hk' hL) (fun _ h => by simp at h) (fun _ _ h200 => readShu_no l (decoded_err _ l (by omega) (called_err _ l hs hl (by omega) (by omega) hL) (zzShu_err l hl (by omega) hL))) A n c w h
    by_cases hlong : l.length < chL l
    · exact read_any _ l nilLyr false true (sr_long _ l hl hs (by omega) (by omega) hk' hd hlong) (fun _ h => by simp at h) (fun _ _ h200 => readShu_no l (decoded_no _ l (by omega) (called_no _ l hs hl (by omega) (by omega) h0 (by omega) (by unfold up4; omega)))) A n c w h
    by_cases hup : l.length < up4 (chL l)
    · exact read_any _ l nilLyr false false (sr_full _ l hl hs (by omega) (by omega) hk' hd (by omega) (by omega) hup) (fun h => by simp at h) (fun h => by simp at h) A n c w h
    by_cases h8 : chL l ≠ 8
    · exact read_any _ l nilLyr false false (srShu_odd l hl (by omega) (by omega) (by omega) h8 hk) (fun h => by simp at h) (fun h => by simp at h) A n c w h
    have h8 : chL l = 8 := by omega
    refine read_any _ l _ true true (srShu_some l hl (by omega) (by omega) (by omega) h8 hk) (fun _ _ h200 => ⟨readShu_ok l hl (by omega) (by omega) h0 (by omega) (by unfold up4 at hup; omega), ?_⟩) (fun _ h => by simp at h) A n c w h
    refine ⟨?_, ?_, ?_, ?_⟩
    all_goals simp
  · exact read_any _ l nilLyr false false (sr_open _ l hl hs (by omega) (by omega) (kind_ne _ _ hk (.inr (.inr (.inr (.inr (.inr (.inl rfl)))))))) (fun h => by simp at h) (fun h => by simp at h) A n c w h
set_option maxHeartbeats 1000000 in
theorem Shu_law (A : Option Addr) (n c : Nat) (l : List Int) (w : World) (h : Rd .u8 w A n c l) (hl : By l) :
    Calls Try.prog 16 #[.slice A n c] w fun e w' => e = .returned (.bool true) ∧ Bl w w' := by
  by_cases hz : (2147483647 : Int) < (n : Int)
  · go_enter Try.func16, Try.ntmps16
    go_wp2
    go_ret
    exact ⟨rfl, Bl.refl _⟩
  · have H := Lib.hid (Shu_read A n c l w h hl (by omega))
    clear h
    go_enter Try.func16, Try.ntmps16
    go_wp2_with fail
    (with_reducible refine H.out.mono ?_)
    rintro e w1 ⟨rfl, hb⟩
    go_wp2_with fail
    go_ret
    exact ⟨rfl, hb⟩
end Go.Proofs.Ytoljdgfbkebgcaa
