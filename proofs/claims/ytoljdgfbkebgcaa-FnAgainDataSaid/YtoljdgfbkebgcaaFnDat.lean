/- laws.FnRead of sctpdata is true. -/
import Derived.Test.YtoljdgfbkebgcaaZzDat
import Derived.Test.YtoljdgfbkebgcaaSrDat
import Derived.Test.YtoljdgfbkebgcaaSroDat
import Derived.Test.YtoljdgfbkebgcaaKindNe
namespace Go.Proofs.Ytoljdgfbkebgcaa
open Go.RowKit
theorem kind_dat (x : Int) (h : kindOf x = ⟨#[115, 99, 116, 112, 100, 97, 116, 97]⟩) : x = 0 := by
  by_cases h0 : x = 0
  · exact h0
  · exfalso
    by_cases hk : Known x
    · rcases hk with rfl | rfl | rfl | rfl | rfl | rfl | rfl | rfl | rfl | rfl | rfl | rfl | rfl <;> first | exact h0 rfl | (simp [kindOf, kIni, kSac, kHea, kErr, kShu, kAck, kCoo, kEmp, kUnk] at h)
    · rw [(kindRow_else x hk).2] at h
      simp [kUnk] at h
theorem Dat_read (A : Option Addr) (n c : Nat) (l : List Int) (w : World) (h : Rd .u8 w A n c l) (hl : By l) (hn : n ≤ 2147483647) :
    Calls Try.prog 30 #[.string ⟨#[115, 99, 116, 112, 100, 97, 116, 97]⟩, .slice A n c] w fun e w' => e = .returned (.bool true) ∧ Bl w w' := by
  have hlen := h.len
  have hs : ((⟨#[115, 99, 116, 112, 100, 97, 116, 97]⟩ : ByteArray).toList == [115, 99, 116, 112]) = false := by simp [go_sem]
  by_cases h4 : l.length < 4
  · exact read_any _ l nilLyr false true (sr_short _ l hs h4) (fun _ h => by simp at h) (fun _ _ h200 => readDat_no l (decoded_no _ l (by omega) (called_short _ l hs h4))) A n c w h
  by_cases hk : kindOf (l.getD 0 0) = ⟨#[115, 99, 116, 112, 100, 97, 116, 97]⟩
  · have hk' : ((kindOf (l.getD 0 0)).toList == (⟨#[115, 99, 116, 112, 100, 97, 116, 97]⟩ : ByteArray).toList) = true := by rw [hk]; simp
    have h0 := kind_dat _ hk
    by_cases hL : chL l < 4
    · exact read_any _ l nilLyr false true (sr_low _ l hl hs (by omega) (by omega) hk' hL) (fun _ h => by simp at h) (fun _ _ h200 => readDat_no l (decoded_err _ l (by omega) (called_err _ l hs hl (by omega) (by omega) hL) (zzDat_err l hl (by omega) hL))) A n c w h
    by_cases hup : l.length < up4 (chL l)
    · exact read_any _ l nilLyr false false (srDat_full l hl (by omega) (by omega) hk (by omega) hup) (fun h => by simp at h) (fun h => by simp at h) A n c w h
    by_cases h17 : chL l < 17
    · exact read_any _ l nilLyr false false (srDat_few l hl (by omega) (by omega) (by omega) h17 hk) (fun h => by simp at h) (fun h => by simp at h) A n c w h
    by_cases hfull : up4 (chL l) ≠ l.length
    · exact read_any _ l nilLyr false false (srDat_odd l hl (by omega) (by omega) (by omega) (by omega) hfull hk) (fun h => by simp at h) (fun h => by simp at h) A n c w h
    have hfull : up4 (chL l) = l.length := by omega
    refine read_any _ l _ true true (srDat_some l hl (by omega) (by omega) (by omega) (by omega) hfull hk) (fun _ _ h200 => ⟨readDat_ok l hl (by omega) hfull h0 (by omega), ?_⟩) (fun _ h => by simp at h) A n c w h
    refine ⟨?_, ?_, ?_, ?_⟩
    all_goals simp
  · exact read_any _ l nilLyr false false (sr_open _ l hl hs (by omega) (by omega) (kind_ne _ _ hk (.inl rfl))) (fun h => by simp at h) (fun h => by simp at h) A n c w h
set_option maxHeartbeats 1000000 in
theorem Dat_law (A : Option Addr) (n c : Nat) (l : List Int) (w : World) (h : Rd .u8 w A n c l) (hl : By l) :
    Calls Try.prog 9 #[.slice A n c] w fun e w' => e = .returned (.bool true) ∧ Bl w w' := by
  by_cases hz : (2147483647 : Int) < (n : Int)
  · go_enter Try.func9, Try.ntmps9
    go_wp2
    go_ret
    exact ⟨rfl, Bl.refl _⟩
  · have H := Lib.hid (Dat_read A n c l w h hl (by omega))
    clear h
    go_enter Try.func9, Try.ntmps9
    go_wp2_with fail
    (with_reducible refine H.out.mono ?_)
    rintro e w1 ⟨rfl, hb⟩
    go_wp2_with fail
    go_ret
    exact ⟨rfl, hb⟩
end Go.Proofs.Ytoljdgfbkebgcaa
