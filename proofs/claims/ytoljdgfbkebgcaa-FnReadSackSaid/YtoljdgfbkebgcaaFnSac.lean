/- laws.FnRead of sctpsack is true. -/
import Derived.Test.YtoljdgfbkebgcaaZzSac
import Derived.Test.YtoljdgfbkebgcaaSrSac
import Derived.Test.YtoljdgfbkebgcaaSoSac
import Derived.Test.YtoljdgfbkebgcaaKindNe
namespace Go.Proofs.Ytoljdgfbkebgcaa
open Go.RowKit
theorem Sac_read (A : Option Addr) (n c : Nat) (l : List Int) (w : World) (h : Rd .u8 w A n c l) (hl : By l) (hn : n ≤ 2147483647) :
    Calls Try.prog 30 #[.string ⟨#[115, 99, 116, 112, 115, 97, 99, 107]⟩, .slice A n c] w fun e w' => e = .returned (.bool true) ∧ Bl w w' := by
  have hlen := h.len
  have hs : ((⟨#[115, 99, 116, 112, 115, 97, 99, 107]⟩ : ByteArray).toList == [115, 99, 116, 112]) = false := by simp [go_sem]
  have hd : ((⟨#[115, 99, 116, 112, 115, 97, 99, 107]⟩ : ByteArray).toList == [115, 99, 116, 112, 100, 97, 116, 97]) = false := by simp [go_sem]
  by_cases h4 : l.length < 4
  · exact read_any _ l nilLyr false true (sr_short _ l hs h4) (fun _ h => by simp at h) (fun _ _ h200 => readSac_no l (decoded_no _ l (by omega) (called_short _ l hs h4))) A n c w h
  by_cases hk : kindOf (l.getD 0 0) = ⟨#[115, 99, 116, 112, 115, 97, 99, 107]⟩
  · have hk' : ((kindOf (l.getD 0 0)).toList == (⟨#[115, 99, 116, 112, 115, 97, 99, 107]⟩ : ByteArray).toList) = true := by rw [hk]; simp
    have h0 : l.getD 0 0 ≠ 0 := by
      intro h0
      rw [h0] at hk
      rw [← hk] at hd
      simp [kindOf, kDat, go_sem] at hd
    by_cases hL : chL l < 4
    · exact read_any _ l nilLyr false true (sr_low _ l hl hs (by omega) (by omega) hk' hL) (fun _ h => by simp at h) (fun _ _ h200 => readSac_no l (decoded_err _ l (by omega) (called_err _ l hs hl (by omega) (by omega) hL) (zzSac_err l hl (by omega) hL))) A n c w h
    by_cases hlong : l.length < chL l
    · exact read_any _ l nilLyr false true (sr_long _ l hl hs (by omega) (by omega) hk' hd hlong) (fun _ h => by simp at h) (fun _ _ h200 => readSac_no l (decoded_no _ l (by omega) (called_no _ l hs hl (by omega) (by omega) h0 (by omega) (by unfold up4; omega)))) A n c w h
    by_cases hup : l.length < up4 (chL l)
    · exact read_any _ l nilLyr false false (sr_full _ l hl hs (by omega) (by omega) hk' hd (by omega) (by omega) hup) (fun h => by simp at h) (fun h => by simp at h) A n c w h
    by_cases hm : ¬ (16 ≤ chL l ∧ be (sub l 12 14) = 0 ∧ (chL l : Int) = 16 + 4 * be (sub l 14 16))
    · exact read_any _ l nilLyr false false (srSac_odd l hl (by omega) (by omega) (by omega) hm hk) (fun h => by simp at h) (fun h => by simp at h) A n c w h
    obtain ⟨h16, hg0, hq0⟩ : 16 ≤ chL l ∧ be (sub l 12 14) = 0 ∧ (chL l : Int) = 16 + 4 * be (sub l 14 16) := Decidable.not_not.1 hm
    obtain ⟨q, hq⟩ : ∃ q : Nat, be (sub l 14 16) = (q : Int) := ⟨_, (Int.toNat_of_nonneg (be_nonneg _ (hl.sub 14 16))).symm⟩
    have hV16 : chL l = 16 + 4 * q := by omega
    refine read_any _ l _ true true (srSac_some l hl (by omega) (by omega) (by omega) q hV16 hg0 hq hk) (fun _ _ h200 => ⟨readSac_ok l hl q hV16 hg0 hq (by omega) h0 (by omega), ?_⟩) (fun _ h => by simp at h) A n c w h
    refine ⟨by simp, by simp, by show (sacPs l q).length ≤ 2147483647; rw [sacPs_len]; omega, fun p hp => ?_⟩
    have hp : p ∈ sacPs l q := hp
    unfold sacPs at hp
    obtain ⟨y, _, rfl⟩ := List.mem_map.1 hp
    simp
  · exact read_any _ l nilLyr false false (sr_open _ l hl hs (by omega) (by omega) (kind_ne _ _ hk (.inr (.inr (.inl rfl))))) (fun h => by simp at h) (fun h => by simp at h) A n c w h
set_option maxHeartbeats 1000000 in
theorem Sac_law (A : Option Addr) (n c : Nat) (l : List Int) (w : World) (h : Rd .u8 w A n c l) (hl : By l) :
    Calls Try.prog 15 #[.slice A n c] w fun e w' => e = .returned (.bool true) ∧ Bl w w' := by
  by_cases hz : (2147483647 : Int) < (n : Int)
  · go_enter Try.func15, Try.ntmps15
    go_wp2
    go_ret
    exact ⟨rfl, Bl.refl _⟩
  · have H := Lib.hid (Sac_read A n c l w h hl (by omega))
    clear h
    go_enter Try.func15, Try.ntmps15
    go_wp2_with fail
    (with_reducible refine H.out.mono ?_)
    rintro e w1 ⟨rfl, hb⟩
    go_wp2_with fail
    go_ret
    exact ⟨rfl, hb⟩
end Go.Proofs.Ytoljdgfbkebgcaa
