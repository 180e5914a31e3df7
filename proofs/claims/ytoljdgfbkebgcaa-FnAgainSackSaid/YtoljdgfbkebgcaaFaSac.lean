/- laws.FnAgain of sctpsack is true. -/
import Derived.Test.YtoljdgfbkebgcaaAgn
import Derived.Test.YtoljdgfbkebgcaaFil
import Derived.Test.YtoljdgfbkebgcaaMsSac
import Derived.Test.YtoljdgfbkebgcaaSpSac
import Derived.Test.YtoljdgfbkebgcaaKindNe
namespace Go.Proofs.Ytoljdgfbkebgcaa
open Go.RowKit
theorem fours_bd (l : List Int) (hl : By l) (q : Nat) (hq : 16 + 4 * q ≤ l.length) : ∀ j, j < q → 0 ≤ (fours l q).getD j 0 ∧ (fours l q).getD j 0 ≤ 4294967295 := by
  intro j hj
  rw [fours_at l q j hj]
  exact be_bd4 _ (hl.sub _ _) (by rw [sub_length _ _ _ (by omega)]; omega)
theorem quads_app (xs : List Int) (y : Int) : quads (xs ++ [y]) = quads xs ++ quadB y := by simp [quads]
theorem quadB_sub (l : List Int) (hl : By l) (k : Nat) (hk : k + 4 ≤ l.length) : quadB (be (sub l k (k + 4))) = sub l k (k + 4) := by
  obtain ⟨a0, a1, a2, a3⟩ := be4_bytes l hl k hk
  unfold quadB
  rw [a0, a1, a2, a3]
  apply List.ext_getElem?
  intro i
  have hs : (sub l k (k + 4)).length = 4 := by rw [sub_length _ _ _ hk]; omega
  by_cases hi : i < 4
  · simp only [sub, List.getElem?_drop]
    rw [List.getElem?_take_of_lt (by omega)]
    match i, hi with
    | 0, _ => simp [List.getD_eq_getElem?_getD, List.getElem?_eq_getElem (show k < l.length by omega)]
    | 1, _ => simp [List.getD_eq_getElem?_getD, List.getElem?_eq_getElem (show k + 1 < l.length by omega)]
    | 2, _ => simp [List.getD_eq_getElem?_getD, List.getElem?_eq_getElem (show k + 2 < l.length by omega)]
    | 3, _ => simp [List.getD_eq_getElem?_getD, List.getElem?_eq_getElem (show k + 3 < l.length by omega)]
  · rw [List.getElem?_eq_none (by simp; omega), List.getElem?_eq_none (by omega)]
theorem sub_join (l : List Int) (a b c : Nat) (h1 : a ≤ b) (h2 : b ≤ c) (h3 : c ≤ l.length) : sub l a b ++ sub l b c = sub l a c := by
  apply List.ext_getElem?
  intro i
  have hs : (sub l a b).length = b - a := sub_length _ _ _ (by omega)
  by_cases hi : i < b - a
  · rw [List.getElem?_append_left (by omega)]
    simp only [sub, List.getElem?_drop]
    rw [List.getElem?_take_of_lt (by omega), List.getElem?_take_of_lt (by omega)]
  · rw [List.getElem?_append_right (by omega), hs]
    simp only [sub, List.getElem?_drop]
    rw [show b + (i - (b - a)) = a + i by omega]
theorem quads_fours (l : List Int) (hl : By l) (q : Nat) (hq : 16 + 4 * q ≤ l.length) : quads (fours l q) = sub l 16 (16 + 4 * q) := by
  induction q with
  | zero => simp [fours, quads, sub]
  | succ q ih =>
    rw [fours, quads_app, ih (by omega)]
    have e := quadB_sub l hl (16 + 4 * q) (by omega)
    rw [show 16 + 4 * q + 4 = 20 + 4 * q by omega] at e
    rw [e, sub_join l 16 (16 + 4 * q) (20 + 4 * q) (by omega) (by omega) (by omega)]
    congr 1
    omega
theorem sacB_all (l : List Int) (hl : By l) (q : Nat) (hV : chL l = 16 + 4 * q) (hlen : l.length = 16 + 4 * q) (hg : be (sub l 12 14) = 0) (hq : be (sub l 14 16) = (q : Int)) : sacB (l.getD 0 0) (l.getD 1 0) (16 + 4 * (q : Int)) (be (sub l 4 8)) (be (sub l 8 12)) (q : Int) ++ quads (fours l q) = l := by
  have e1 := chL_int l hl
  obtain ⟨m0, m1⟩ := be2_bytes l hl 2 (by omega)
  obtain ⟨a0, a1, a2, a3⟩ := be4_bytes l hl 4 (by omega)
  obtain ⟨c0, c1, c2, c3⟩ := be4_bytes l hl 8 (by omega)
  obtain ⟨d0, d1⟩ := be2_bytes l hl 12 (by omega)
  obtain ⟨f0, f1⟩ := be2_bytes l hl 14 (by omega)
  have hM : (16 : Int) + 4 * (q : Int) = be (sub l 2 4) := by omega
  rw [quads_fours l hl q (by omega)]
  unfold sacB
  rw [hM, ← hq]
  simp only [Nat.reduceAdd] at m0 m1 a0 a1 a2 a3 c0 c1 c2 c3 d0 d1 f0 f1
  rw [hg] at d0 d1
  have d0' : l.getD 12 0 = 0 := by omega
  have d1' : l.getD 13 0 = 0 := by omega
  rw [m0, m1, a0, a1, a2, a3, c0, c1, c2, c3, f0, f1]
  apply List.ext_getElem?
  intro i
  by_cases hi : i < 16
  · rw [List.getElem?_append_left (by simpa using hi)]
    have hil : i < l.length := by omega
    match i, hi, hil with
    | 0, _, hil => simp [List.getD_eq_getElem?_getD, List.getElem?_eq_getElem hil]
    | 1, _, hil => simp [List.getD_eq_getElem?_getD, List.getElem?_eq_getElem hil]
    | 2, _, hil => simp [List.getD_eq_getElem?_getD, List.getElem?_eq_getElem hil]
    | 3, _, hil => simp [List.getD_eq_getElem?_getD, List.getElem?_eq_getElem hil]
    | 4, _, hil => simp [List.getD_eq_getElem?_getD, List.getElem?_eq_getElem hil]
    | 5, _, hil => simp [List.getD_eq_getElem?_getD, List.getElem?_eq_getElem hil]
    | 6, _, hil => simp [List.getD_eq_getElem?_getD, List.getElem?_eq_getElem hil]
    | 7, _, hil => simp [List.getD_eq_getElem?_getD, List.getElem?_eq_getElem hil]
    | 8, _, hil => simp [List.getD_eq_getElem?_getD, List.getElem?_eq_getElem hil]
    | 9, _, hil => simp [List.getD_eq_getElem?_getD, List.getElem?_eq_getElem hil]
    | 10, _, hil => simp [List.getD_eq_getElem?_getD, List.getElem?_eq_getElem hil]
    | 11, _, hil => simp [List.getD_eq_getElem?_getD, List.getElem?_eq_getElem hil]
    | 12, _, hil => rw [List.getD_eq_getElem?_getD, List.getElem?_eq_getElem hil] at d0'; simp at d0'; simp [List.getElem?_eq_getElem hil, d0']
    | 13, _, hil => rw [List.getD_eq_getElem?_getD, List.getElem?_eq_getElem hil] at d1'; simp at d1'; simp [List.getElem?_eq_getElem hil, d1']
    | 14, _, hil => simp [List.getD_eq_getElem?_getD, List.getElem?_eq_getElem hil]
    | 15, _, hil => simp [List.getD_eq_getElem?_getD, List.getElem?_eq_getElem hil]
    | i + 16, hi, _ => omega
  · rw [List.getElem?_append_right (by simp; omega)]
    simp only [sub, ← hlen, List.take_length, List.getElem?_drop]
    congr 1
    simp
    omega
theorem writeSac (l : List Int) (hl : By l) (q : Nat) (hV : chL l = 16 + 4 * q) (hlen : l.length = chL l) (h200 : l.length ≤ 200) (hg : be (sub l 12 14) = 0) (hq : be (sub l 14 16) = (q : Int)) : WriteAt ⟨#[115, 99, 116, 112, 115, 97, 99, 107]⟩ l ⟨[l.getD 0 0, l.getD 1 0, be (sub l 2 4), (up4 (chL l) : Int), be (sub l 4 8), be (sub l 8 12), 0, (q : Int)], [], sacPs l q, sub l (up4 (chL l)) l.length⟩ := by
  have hc : be (sub l 2 4) = (chL l : Int) := chL_int l hl
  have hU : up4 (chL l) = chL l := by unfold up4; omega
  have b0 := hl.getD 0
  have b1 := hl.getD 1
  have y0 := be_bd4 (sub l 4 8) (hl.sub _ _) (by rw [sub_length _ _ _ (by omega)])
  have y1 := be_bd4 (sub l 8 12) (hl.sub _ _) (by rw [sub_length _ _ _ (by omega)])
  intro F v fix w hL
  obtain ⟨v0, v1, v2, v3, rfl, ⟨A0, c0, rfl, _, r0⟩, ⟨A1, c1, rfl, _⟩, hP, ⟨⟨A3, c3, rfl, _, _⟩, _⟩⟩ := hL
  have hpl : (sacPs l q).length = q := sacPs_len l q
  obtain ⟨A2, c2, rfl⟩ : ∃ A2 c2, v2 = .slice A2 q c2 := by obtain ⟨A2, c2, e, _⟩ := hP; exact ⟨A2, c2, by rw [e]; show Value.slice A2 (sacPs l q).length c2 = _; rw [hpl]⟩
  have r : Rd .u64 w A0 8 c0 [l.getD 0 0, l.getD 1 0, be (sub l 2 4), (up4 (chL l) : Int), be (sub l 4 8), be (sub l 8 12), 0, (q : Int)] := r0
  have hs : (sub l (up4 (chL l)) l.length).length = 0 := by rw [sub_length _ _ _ (Nat.le_refl _), hU]; omega
  simp only [hs]
  refine (wrSac_any F A0 A1 A2 A3 c0 c1 q c2 c3 (l.getD 0 0) (l.getD 1 0) (be (sub l 2 4)) (up4 (chL l) : Int) (be (sub l 4 8)) (be (sub l 8 12)) (fours l q) fix w r b0 b1 (by omega) (by omega) y0 y1 hP (fours_len l q) (by omega) (fours_bd l hl q (by omega))).mono ?_
  rintro x w' ⟨A, c, rfl, r1, hb1⟩
  refine ⟨A, _, c, rfl, ?_, hb1⟩
  rwa [sacB_all l hl q hV (by omega) hg hq] at r1
theorem Sac_again (A : Option Addr) (n c : Nat) (l : List Int) (fix : Bool) (w : World) (h : Rd .u8 w A n c l) (hl : By l) (hn : n ≤ 2147483647) :
    Calls Try.prog 31 #[.string ⟨#[115, 99, 116, 112, 115, 97, 99, 107]⟩, .slice A n c, .bool fix] w fun e w' => e = .returned (.bool true) ∧ Bl w w' := by
  have hlen := h.len
  have hs : ((⟨#[115, 99, 116, 112, 115, 97, 99, 107]⟩ : ByteArray).toList == [115, 99, 116, 112]) = false := by simp [go_sem]
  have hd : ((⟨#[115, 99, 116, 112, 115, 97, 99, 107]⟩ : ByteArray).toList == [115, 99, 116, 112, 100, 97, 116, 97]) = false := by simp [go_sem]
  by_cases h4 : l.length < 4
  · exact again_any _ l hl nilLyr false true fix (sr_short _ l hs h4) (fun _ h => by simp at h) A n c w h
  by_cases hk : kindOf (l.getD 0 0) = ⟨#[115, 99, 116, 112, 115, 97, 99, 107]⟩
  · have hk' : ((kindOf (l.getD 0 0)).toList == (⟨#[115, 99, 116, 112, 115, 97, 99, 107]⟩ : ByteArray).toList) = true := by rw [hk]; simp
    by_cases hL : chL l < 4
    · exact again_any _ l hl nilLyr false true fix (sr_low _ l hl hs (by omega) (by omega) hk' hL) (fun _ h => by simp at h) A n c w h
    by_cases hlong : l.length < chL l
    · exact again_any _ l hl nilLyr false true fix (sr_long _ l hl hs (by omega) (by omega) hk' hd hlong) (fun _ h => by simp at h) A n c w h
    by_cases hup : l.length < up4 (chL l)
    · exact again_any _ l hl nilLyr false false fix (sr_full _ l hl hs (by omega) (by omega) hk' hd (by omega) (by omega) hup) (fun h => by simp at h) A n c w h
    by_cases hm : ¬ (16 ≤ chL l ∧ be (sub l 12 14) = 0 ∧ (chL l : Int) = 16 + 4 * be (sub l 14 16))
    · exact again_any _ l hl nilLyr false false fix (srSac_odd l hl (by omega) (by omega) (by omega) hm hk) (fun h => by simp at h) A n c w h
    obtain ⟨h16, hg0, hq0⟩ : 16 ≤ chL l ∧ be (sub l 12 14) = 0 ∧ (chL l : Int) = 16 + 4 * be (sub l 14 16) := Decidable.not_not.1 hm
    obtain ⟨q, hq⟩ : ∃ q : Nat, be (sub l 14 16) = (q : Int) := ⟨_, (Int.toNat_of_nonneg (be_nonneg _ (hl.sub 14 16))).symm⟩
    have hV16 : chL l = 16 + 4 * q := by omega
    refine again_any _ l hl _ true true fix (srSac_some l hl (by omega) (by omega) (by omega) q hV16 hg0 hq hk) (fun _ _ h200 => ⟨by omega, fun hx => ?_⟩) A n c w h
    rcases all0_or l with ha | ho
    · exact .inr ⟨fun A n c w h => filSac A n c l w h hl (by have := h.len; omega) (by have := h.len; omega) (by have := h.len; omega) ha, writeSac l hl q hV16 (by unfold up4 at hx; omega) h200 hg0 hq⟩
    · exact .inl (fun A n c w h => fil_bad _ A n c l w h hl (by have := h.len; omega) (by have := h.len; omega) (by have := h.len; omega) ho)
  · exact again_any _ l hl nilLyr false false fix (sr_open _ l hl hs (by omega) (by omega) (kind_ne _ _ hk (.inr (.inr (.inl rfl))))) (fun h => by simp at h) A n c w h
set_option maxHeartbeats 1000000 in
theorem Sac_alaw (A : Option Addr) (n c : Nat) (l : List Int) (fix : Bool) (w : World) (h : Rd .u8 w A n c l) (hl : By l) :
    Calls Try.prog 5 #[.slice A n c, .bool fix] w fun e w' => e = .returned (.bool true) ∧ Bl w w' := by
  by_cases hz : (2147483647 : Int) < (n : Int)
  · go_enter Try.func5, Try.ntmps5
    go_wp2
    go_ret
    exact ⟨rfl, Bl.refl _⟩
  · have H := Lib.hid (Sac_again A n c l fix w h hl (by omega))
    clear h
    go_enter Try.func5, Try.ntmps5
    go_wp2_with fail
    (with_reducible refine H.out.mono ?_)
    rintro e w1 ⟨rfl, hb⟩
    go_wp2_with fail
    go_ret
    exact ⟨rfl, hb⟩
end Go.Proofs.Ytoljdgfbkebgcaa
