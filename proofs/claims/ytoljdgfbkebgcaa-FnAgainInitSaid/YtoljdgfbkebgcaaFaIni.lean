/- laws.FnAgain of sctpinit is true. -/
import Derived.Test.YtoljdgfbkebgcaaAgn
import Derived.Test.YtoljdgfbkebgcaaMsIni
import Derived.Test.YtoljdgfbkebgcaaSpIni
import Derived.Test.YtoljdgfbkebgcaaPrd
import Derived.Test.YtoljdgfbkebgcaaKindNe
namespace Go.Proofs.Ytoljdgfbkebgcaa
open Go.RowKit
theorem writeIni (l : List Int) (hl : By l) (hm4 : chL l % 4 = 0) (h4' : 4 ≤ chL l) (h20 : 20 ≤ chL l) (hlen : l.length = chL l) (h200 : l.length ≤ 200) (ps : List Prt) (hf : fullOf (sub l 20 (chL l)) = true) (hps : prmsOf (sub l 20 (chL l)) = some ps) (hpd : padsOf (sub l 20 (chL l)) = true) : WriteAt ⟨#[115, 99, 116, 112, 105, 110, 105, 116]⟩ l ⟨[l.getD 0 0, l.getD 1 0, be (sub l 2 4), (up4 (chL l) : Int), be (sub l 4 8), be (sub l 8 12), be (sub l 12 14), be (sub l 14 16), be (sub l 16 20)], [], ps, sub l (up4 (chL l)) l.length⟩ := by
  have hc : be (sub l 2 4) = (chL l : Int) := chL_int l hl
  have hU : up4 (chL l) = chL l := by unfold up4; omega
  have hU4 : up4 (20 + (chL l - 20)) = 20 + (chL l - 20) := by unfold up4; omega
  have b0 := hl.getD 0
  have b1 := hl.getD 1
  have b2 := hl.getD 2
  have b3 := hl.getD 3
  have y0 := be_bd4 (sub l 4 8) (hl.sub _ _) (by rw [sub_length _ _ _ (by omega)])
  have y1 := be_bd4 (sub l 8 12) (hl.sub _ _) (by rw [sub_length _ _ _ (by omega)])
  have y2 := be_bd2 (sub l 12 14) (hl.sub _ _) (by rw [sub_length _ _ _ (by omega)])
  have y3 := be_bd2 (sub l 14 16) (hl.sub _ _) (by rw [sub_length _ _ _ (by omega)])
  have y4 := be_bd4 (sub l 16 20) (hl.sub _ _) (by rw [sub_length _ _ _ (by omega)])
  have hbe := be2 (sub l 2 4) (by rw [sub_length _ _ _ (by omega)])
  rw [sub_getD _ _ _ _ (by omega), sub_getD _ _ _ _ (by omega)] at hbe
  have hbe : be (sub l 2 4) = l.getD 2 0 * 256 + l.getD 3 0 := hbe
  have hpl : (sub l 20 (chL l)).length = chL l - 20 := sub_length _ _ _ (by omega)
  have hfl := prmB_flat _ (sub l 20 (chL l)) ps (Nat.le_refl _) (hl.sub _ _) hf hps hpd
  have hcnt := prms_cnt _ (sub l 20 (chL l)) ps (Nat.le_refl _) hps
  have heach := prms_each _ (sub l 20 (chL l)) ps (Nat.le_refl _) (hl.sub _ _) hps
  intro F v fix w hL
  obtain ⟨v0, v1, v2, v3, rfl, ⟨A0, c0, rfl, _, r0⟩, ⟨A1, c1, rfl, _⟩, hP, ⟨⟨A3, c3, rfl, _, _⟩, _⟩⟩ := hL
  obtain ⟨A2, c2, rfl⟩ : ∃ A2 c2, v2 = .slice A2 ps.length c2 := by obtain ⟨A2, c2, e, _⟩ := hP; exact ⟨A2, c2, e⟩
  have r : Rd .u64 w A0 9 c0 [l.getD 0 0, l.getD 1 0, be (sub l 2 4), (up4 (chL l) : Int), be (sub l 4 8), be (sub l 8 12), be (sub l 12 14), be (sub l 14 16), be (sub l 16 20)] := r0
  have hs : (sub l (up4 (chL l)) l.length).length = 0 := by rw [sub_length _ _ _ (Nat.le_refl _), hU]; omega
  simp only [hs]
  refine (wrIni_any F A0 A1 A2 A3 c0 c1 ps.length c2 c3 (chL l - 20) (l.getD 0 0) (l.getD 1 0) (be (sub l 2 4)) (up4 (chL l) : Int) (be (sub l 4 8)) (be (sub l 8 12)) (be (sub l 12 14)) (be (sub l 14 16)) (be (sub l 16 20)) ps fix w r b0 b1 (by omega) (by omega) y0 y1 y2 y3 y4 hP rfl (by omega) (fun i hi => by obtain ⟨T, L, U, h1, h2, h3, h4, h5⟩ := heach i hi; exact ⟨T, L, U, h1, h2, h3, h4, by omega⟩) (by rw [hfl, hpl]) (by omega) hU4).mono ?_
  rintro x w' ⟨A, c, rfl, r1, hb1⟩
  refine ⟨A, _, c, rfl, ?_, hb1⟩
  rw [hfl] at r1
  have e : iniB (l.getD 0 0) (l.getD 1 0) ((20 : Int) + ((chL l - 20 : Nat) : Int)) (be (sub l 4 8)) (be (sub l 8 12)) (be (sub l 12 14)) (be (sub l 14 16)) (be (sub l 16 20)) ++ sub l 20 (chL l) = l := iniB_all l hl (chL l) rfl (by omega) h20
  rwa [e] at r1
theorem Ini_again (A : Option Addr) (n c : Nat) (l : List Int) (fix : Bool) (w : World) (h : Rd .u8 w A n c l) (hl : By l) (hn : n ≤ 2147483647) :
    Calls Try.prog 31 #[.string ⟨#[115, 99, 116, 112, 105, 110, 105, 116]⟩, .slice A n c, .bool fix] w fun e w' => e = .returned (.bool true) ∧ Bl w w' := by
  have hlen := h.len
  have hs : ((⟨#[115, 99, 116, 112, 105, 110, 105, 116]⟩ : ByteArray).toList == [115, 99, 116, 112]) = false := by simp [go_sem]
  have hd : ((⟨#[115, 99, 116, 112, 105, 110, 105, 116]⟩ : ByteArray).toList == [115, 99, 116, 112, 100, 97, 116, 97]) = false := by simp [go_sem]
  by_cases h4 : l.length < 4
  · exact again_any _ l hl nilLyr false true fix (sr_short _ l hs h4) (fun _ h => by simp at h) A n c w h
  by_cases hk : kindOf (l.getD 0 0) = ⟨#[115, 99, 116, 112, 105, 110, 105, 116]⟩
  · have hk' : ((kindOf (l.getD 0 0)).toList == (⟨#[115, 99, 116, 112, 105, 110, 105, 116]⟩ : ByteArray).toList) = true := by rw [hk]; simp
    by_cases hL : chL l < 4
    · exact again_any _ l hl nilLyr false true fix (sr_low _ l hl hs (by omega) (by omega) hk' hL) (fun _ h => by simp at h) A n c w h
    by_cases hlong : l.length < chL l
    · exact again_any _ l hl nilLyr false true fix (sr_long _ l hl hs (by omega) (by omega) hk' hd hlong) (fun _ h => by simp at h) A n c w h
    by_cases hup : l.length < up4 (chL l)
    · exact again_any _ l hl nilLyr false false fix (sr_full _ l hl hs (by omega) (by omega) hk' hd (by omega) (by omega) hup) (fun h => by simp at h) A n c w h
    by_cases hm' : ¬ (20 ≤ chL l ∧ chL l % 4 = 0)
    · exact again_any _ l hl nilLyr false false fix (srIni_odd l hl (by omega) (by omega) (by omega) hm' hk) (fun h => by simp at h) A n c w h
    have h20 : 20 ≤ chL l := by omega
    have hm : chL l % 4 = 0 := by omega
    have hsl : (sub l 20 (chL l)).length = chL l - 20 := sub_length _ _ _ (by omega)
    have hfp := full_prms _ (sub l 20 (chL l)) (Nat.le_refl _) (by omega)
    cases hp : prmsOf (sub l 20 (chL l)) with
    | none => exact again_any _ l hl nilLyr false true fix (srIni_bad l hl (by omega) h20 (by omega) (by omega) hm hp hk) (fun _ h => by simp at h) A n c w h
    | some ps =>
      rw [hp] at hfp
      refine again_any _ l hl _ true true fix (srIni_some l hl (by omega) h20 (by omega) (by omega) hm ps hp hk) (fun _ _ h200 => ⟨by omega, fun hx => ?_⟩) A n c w h
      rcases all0_or l with ha | ho
      · have hfil : ∀ (A : Option Addr) (n c : Nat) (w : World), Rd .u8 w A n c l → Calls Try.prog 44 #[.string ⟨#[115, 99, 116, 112, 105, 110, 105, 116]⟩, .slice A n c] w fun e w' => e = .returned (.bool (padsOf (sub l 20 (chL l)))) ∧ Bl w w' := fun A n c w h => filIni A n c l w h hl (by have := h.len; omega) (by have := h.len; omega) (by have := h.len; omega) ha (by omega) hfp
        cases hpd : padsOf (sub l 20 (chL l)) with
        | true =>
          rw [hpd] at hfil
          exact .inr ⟨hfil, writeIni l hl hm (by omega) h20 (by unfold up4 at hx; omega) h200 ps hfp hp hpd⟩
        | false =>
          rw [hpd] at hfil
          exact .inl hfil
      · exact .inl (fun A n c w h => fil_bad _ A n c l w h hl (by have := h.len; omega) (by have := h.len; omega) (by have := h.len; omega) ho)
  · exact again_any _ l hl nilLyr false false fix (sr_open _ l hl hs (by omega) (by omega) (kind_ne _ _ hk (.inr (.inl rfl)))) (fun h => by simp at h) A n c w h
set_option maxHeartbeats 1000000 in
theorem Ini_alaw (A : Option Addr) (n c : Nat) (l : List Int) (fix : Bool) (w : World) (h : Rd .u8 w A n c l) (hl : By l) :
    Calls Try.prog 25 #[.slice A n c, .bool fix] w fun e w' => e = .returned (.bool true) ∧ Bl w w' := by
  by_cases hz : (2147483647 : Int) < (n : Int)
  · go_enter Try.func25, Try.ntmps25
    go_wp2
    go_ret
    exact ⟨rfl, Bl.refl _⟩
  · have H := Lib.hid (Ini_again A n c l fix w h hl (by omega))
    clear h
    go_enter Try.func25, Try.ntmps25
    go_wp2_with fail
    (with_reducible refine H.out.mono ?_)
    rintro e w1 ⟨rfl, hb⟩
    go_wp2_with fail
    go_ret
    exact ⟨rfl, hb⟩
end Go.Proofs.Ytoljdgfbkebgcaa
