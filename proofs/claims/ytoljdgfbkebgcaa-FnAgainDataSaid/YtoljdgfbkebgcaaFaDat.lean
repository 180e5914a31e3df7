/- laws.FnAgain of sctpdata is true. -/
import Derived.Test.YtoljdgfbkebgcaaAgn
import Derived.Test.YtoljdgfbkebgcaaFilDat
import Derived.Test.YtoljdgfbkebgcaaWrDat
import Derived.Test.YtoljdgfbkebgcaaFnDat
namespace Go.Proofs.Ytoljdgfbkebgcaa
open Go.RowKit
theorem tail_pad (t : List Int) (V : Nat) (hV : V ≤ t.length) (hp : V + padn V = t.length) (hz : ∀ j, V ≤ j → j < t.length → t.getD j 0 = 0) : t.take V ++ List.replicate (padn V) 0 = t := by
  apply List.ext_getElem?
  intro i
  by_cases h1 : i < V
  · rw [List.getElem?_append_left (by simp; omega), List.getElem?_take_of_lt h1]
  · by_cases h2 : i < t.length
    · rw [List.getElem?_append_right (by simp; omega)]
      have := hz i (by omega) h2
      rw [List.getD_eq_getElem?_getD, List.getElem?_eq_getElem h2] at this
      simp at this
      have hm : (t.take V).length = V := by simp; omega
      rw [List.getElem?_eq_getElem h2, this, hm, List.getElem?_replicate, if_pos (by omega)]
    · rw [List.getElem?_eq_none (by simp; omega), List.getElem?_eq_none (by omega)]
theorem dat_eq (l : List Int) (hl : By l) (V : Nat) (hc : be (sub l 2 4) = (V : Int)) (h17 : 17 ≤ V) (hup : up4 V = l.length) (hz : ∀ j, V ≤ j → j < l.length → l.getD j 0 = 0) (h0 : l.getD 0 0 = 0) (h1 : l.getD 1 0 < 8) :
    [0, flag (l.getD 1 0 / 4 % 2 == 1) 4 + flag (l.getD 1 0 / 2 % 2 == 1) 2 + flag (l.getD 1 0 % 2 == 1) 1, (16 + ((V - 16 : Nat) : Int)) / 256, (16 + ((V - 16 : Nat) : Int)) % 256, be (sub l 4 8) / 16777216, be (sub l 4 8) / 65536 % 256, be (sub l 4 8) / 256 % 256, be (sub l 4 8) % 256, be (sub l 8 10) / 256, be (sub l 8 10) % 256, be (sub l 10 12) / 256, be (sub l 10 12) % 256, be (sub l 12 16) / 16777216, be (sub l 12 16) / 65536 % 256, be (sub l 12 16) / 256 % 256, be (sub l 12 16) % 256] ++ (sub l 16 V ++ List.replicate (padn (V - 16)) 0) = l := by
  have hlen : 20 ≤ l.length := by unfold up4 at hup; omega
  match l, hlen with
  | a0 :: a1 :: a2 :: a3 :: a4 :: a5 :: a6 :: a7 :: a8 :: a9 :: a10 :: a11 :: a12 :: a13 :: a14 :: a15 :: t, _ =>
    have b1 := hl a1 (by simp)
    have b2 := hl a2 (by simp)
    have b3 := hl a3 (by simp)
    have b4 := hl a4 (by simp)
    have b5 := hl a5 (by simp)
    have b6 := hl a6 (by simp)
    have b7 := hl a7 (by simp)
    have b8 := hl a8 (by simp)
    have b9 := hl a9 (by simp)
    have b10 := hl a10 (by simp)
    have b11 := hl a11 (by simp)
    have b12 := hl a12 (by simp)
    have b13 := hl a13 (by simp)
    have b14 := hl a14 (by simp)
    have b15 := hl a15 (by simp)
    have e0 : be (sub (a0 :: a1 :: a2 :: a3 :: a4 :: a5 :: a6 :: a7 :: a8 :: a9 :: a10 :: a11 :: a12 :: a13 :: a14 :: a15 :: t) 2 4) = a2 * 256 + a3 := by simp [sub, be]
    have e4 : be (sub (a0 :: a1 :: a2 :: a3 :: a4 :: a5 :: a6 :: a7 :: a8 :: a9 :: a10 :: a11 :: a12 :: a13 :: a14 :: a15 :: t) 4 8) = ((a4 * 256 + a5) * 256 + a6) * 256 + a7 := by simp [sub, be]
    have e8 : be (sub (a0 :: a1 :: a2 :: a3 :: a4 :: a5 :: a6 :: a7 :: a8 :: a9 :: a10 :: a11 :: a12 :: a13 :: a14 :: a15 :: t) 8 10) = a8 * 256 + a9 := by simp [sub, be]
    have e10 : be (sub (a0 :: a1 :: a2 :: a3 :: a4 :: a5 :: a6 :: a7 :: a8 :: a9 :: a10 :: a11 :: a12 :: a13 :: a14 :: a15 :: t) 10 12) = a10 * 256 + a11 := by simp [sub, be]
    have e12 : be (sub (a0 :: a1 :: a2 :: a3 :: a4 :: a5 :: a6 :: a7 :: a8 :: a9 :: a10 :: a11 :: a12 :: a13 :: a14 :: a15 :: t) 12 16) = ((a12 * 256 + a13) * 256 + a14) * 256 + a15 := by simp [sub, be]
    have e16 : sub (a0 :: a1 :: a2 :: a3 :: a4 :: a5 :: a6 :: a7 :: a8 :: a9 :: a10 :: a11 :: a12 :: a13 :: a14 :: a15 :: t) 16 V = t.take (V - 16) := by
      obtain ⟨v, rfl⟩ : ∃ v, V = v + 16 := ⟨V - 16, by omega⟩
      simp [sub]
    rw [e0] at hc
    rw [e4, e8, e10, e12, e16]
    simp only [List.getD_cons_zero, List.getD_cons_succ, List.length_cons] at h0 h1 hup hz ⊢
    have ht : t.take (V - 16) ++ List.replicate (padn (V - 16)) 0 = t := by
      refine tail_pad t (V - 16) (by unfold up4 at hup; omega) (by unfold up4 at hup; unfold padn; omega) (fun j h1 h2 => ?_)
      have := hz (j + 16) (by omega) (by omega)
      simpa using this
    rw [ht]
    have f1 : flag (a1 / 4 % 2 == 1) 4 + flag (a1 / 2 % 2 == 1) 2 + flag (a1 % 2 == 1) 1 = a1 := by
      have : a1 = 0 ∨ a1 = 1 ∨ a1 = 2 ∨ a1 = 3 ∨ a1 = 4 ∨ a1 = 5 ∨ a1 = 6 ∨ a1 = 7 := by omega
      rcases this with rfl | rfl | rfl | rfl | rfl | rfl | rfl | rfl <;> rfl
    rw [f1, h0]
    have g2 : (16 + ((V - 16 : Nat) : Int)) / 256 = a2 := by omega
    have g3 : (16 + ((V - 16 : Nat) : Int)) % 256 = a3 := by omega
    have g4 : (((a4 * 256 + a5) * 256 + a6) * 256 + a7) / 16777216 = a4 := by omega
    have g5 : (((a4 * 256 + a5) * 256 + a6) * 256 + a7) / 65536 % 256 = a5 := by omega
    have g6 : (((a4 * 256 + a5) * 256 + a6) * 256 + a7) / 256 % 256 = a6 := by omega
    have g7 : (((a4 * 256 + a5) * 256 + a6) * 256 + a7) % 256 = a7 := by omega
    have g8 : (a8 * 256 + a9) / 256 = a8 := by omega
    have g9 : (a8 * 256 + a9) % 256 = a9 := by omega
    have g10 : (a10 * 256 + a11) / 256 = a10 := by omega
    have g11 : (a10 * 256 + a11) % 256 = a11 := by omega
    have g12 : (((a12 * 256 + a13) * 256 + a14) * 256 + a15) / 16777216 = a12 := by omega
    have g13 : (((a12 * 256 + a13) * 256 + a14) * 256 + a15) / 65536 % 256 = a13 := by omega
    have g14 : (((a12 * 256 + a13) * 256 + a14) * 256 + a15) / 256 % 256 = a14 := by omega
    have g15 : (((a12 * 256 + a13) * 256 + a14) * 256 + a15) % 256 = a15 := by omega
    rw [g2, g3, g4, g5, g6, g7, g8, g9, g10, g11, g12, g13, g14, g15]
    rfl
theorem writeDat (l : List Int) (hl : By l) (h17 : 17 ≤ chL l) (hup : up4 (chL l) = l.length) (h200 : l.length ≤ 200) (hz : All0 l) (h0 : l.getD 0 0 = 0) (h1 : l.getD 1 0 < 8) :
    WriteAt ⟨#[115, 99, 116, 112, 100, 97, 116, 97]⟩ l ⟨[l.getD 0 0, l.getD 1 0, be (sub l 2 4), 16, l.getD 1 0 / 4 % 2, l.getD 1 0 / 2 % 2, l.getD 1 0 % 2, be (sub l 4 8), be (sub l 8 10), be (sub l 10 12), be (sub l 12 16)], [], [], sub l 16 (chL l)⟩ := by
  have hc : be (sub l 2 4) = (chL l : Int) := chL_int l hl
  have hV : chL l ≤ l.length := by unfold up4 at hup; omega
  have hE := dat_eq l hl (chL l) hc h17 hup hz h0 h1
  have b1 := hl.getD 1
  have hpl : (sub l 16 (chL l)).length = chL l - 16 := sub_length _ _ _ (by omega)
  have q4 := be_bd4 (sub l 4 8) (hl.sub _ _) (by rw [sub_length _ _ _ (by omega)])
  have q8 := be_bd2 (sub l 8 10) (hl.sub _ _) (by rw [sub_length _ _ _ (by omega)])
  have q10 := be_bd2 (sub l 10 12) (hl.sub _ _) (by rw [sub_length _ _ _ (by omega)])
  have q12 := be_bd4 (sub l 12 16) (hl.sub _ _) (by rw [sub_length _ _ _ (by omega)])
  intro F v fix w hL
  obtain ⟨v0, v1, v2, v3, rfl, ⟨A0, c0, rfl, _, r0⟩, ⟨A1, c1, rfl, _⟩, ⟨A2, c2, rfl, _⟩, ⟨⟨A3, c3, rfl, _, r3⟩, _⟩⟩ := hL
  have r : Rd .u64 w A0 11 c0 [l.getD 0 0, l.getD 1 0, be (sub l 2 4), 16, l.getD 1 0 / 4 % 2, l.getD 1 0 / 2 % 2, l.getD 1 0 % 2, be (sub l 4 8), be (sub l 8 10), be (sub l 10 12), be (sub l 12 16)] := r0
  rw [hpl] at r3
  simp only [hpl]
  refine (wrDat_any A0 A1 A2 A3 c0 c1 c2 (chL l - 16) c3 (l.getD 0 0) (l.getD 1 0) (be (sub l 2 4)) 16 (l.getD 1 0 / 4 % 2) (l.getD 1 0 / 2 % 2) (l.getD 1 0 % 2) (be (sub l 4 8)) (be (sub l 8 10)) (be (sub l 10 12)) (be (sub l 12 16)) (sub l 16 (chL l)) fix w r (by omega) b1 (by omega) (by omega) (by omega) (by omega) (by omega) q4 q8 q10 q12 h0 r3 (by omega) (by omega)).mono ?_
  rintro x w' ⟨A, c, rfl, r1, hb1⟩
  refine ⟨A, _, c, rfl, ?_, hb1⟩
  rwa [hE] at r1
theorem Dat_again (A : Option Addr) (n c : Nat) (l : List Int) (fix : Bool) (w : World) (h : Rd .u8 w A n c l) (hl : By l) (hn : n ≤ 2147483647) :
    Calls Try.prog 31 #[.string ⟨#[115, 99, 116, 112, 100, 97, 116, 97]⟩, .slice A n c, .bool fix] w fun e w' => e = .returned (.bool true) ∧ Bl w w' := by
  have hlen := h.len
  have hs : ((⟨#[115, 99, 116, 112, 100, 97, 116, 97]⟩ : ByteArray).toList == [115, 99, 116, 112]) = false := by simp [go_sem]
  by_cases h4 : l.length < 4
  · exact again_any _ l hl nilLyr false true fix (sr_short _ l hs h4) (fun _ h => by simp at h) A n c w h
  by_cases hk : kindOf (l.getD 0 0) = ⟨#[115, 99, 116, 112, 100, 97, 116, 97]⟩
  · have hk' : ((kindOf (l.getD 0 0)).toList == (⟨#[115, 99, 116, 112, 100, 97, 116, 97]⟩ : ByteArray).toList) = true := by rw [hk]; simp
    have h0 := kind_dat _ hk
    by_cases hL : chL l < 4
    · exact again_any _ l hl nilLyr false true fix (sr_low _ l hl hs (by omega) (by omega) hk' hL) (fun _ h => by simp at h) A n c w h
    by_cases hup : l.length < up4 (chL l)
    · exact again_any _ l hl nilLyr false false fix (srDat_full l hl (by omega) (by omega) hk (by omega) hup) (fun h => by simp at h) A n c w h
    by_cases h17 : chL l < 17
    · exact again_any _ l hl nilLyr false false fix (srDat_few l hl (by omega) (by omega) (by omega) h17 hk) (fun h => by simp at h) A n c w h
    by_cases hfull : up4 (chL l) ≠ l.length
    · exact again_any _ l hl nilLyr false false fix (srDat_odd l hl (by omega) (by omega) (by omega) (by omega) hfull hk) (fun h => by simp at h) A n c w h
    have hfull : up4 (chL l) = l.length := by omega
    have hV : chL l ≤ l.length := by unfold up4 at hfull; omega
    refine again_any _ l hl _ true true fix (srDat_some l hl (by omega) (by omega) (by omega) (by omega) hfull hk) (fun _ _ h200 => ⟨by omega, fun hx => ?_⟩) A n c w h
    rcases all0_or l with ha | ho
    · by_cases hm : l.getD 1 0 < 8
      · exact .inr ⟨fun A n c w h => filDat A n c l w h hl (by have := h.len; omega) (by have := h.len; omega) (by have := h.len; omega) ha hm, writeDat l hl (by omega) hfull h200 ha h0 hm⟩
      · exact .inl (fun A n c w h => filDat_m A n c l w h hl (by have := h.len; omega) (by have := h.len; omega) (by have := h.len; omega) ha (by omega))
    · exact .inl (fun A n c w h => fil_bad _ A n c l w h hl (by have := h.len; omega) (by have := h.len; omega) (by have := h.len; omega) ho)
  · exact again_any _ l hl nilLyr false false fix (sr_open _ l hl hs (by omega) (by omega) (kind_ne _ _ hk (.inl rfl))) (fun h => by simp at h) A n c w h
set_option maxHeartbeats 1000000 in
theorem Dat_alaw (A : Option Addr) (n c : Nat) (l : List Int) (fix : Bool) (w : World) (h : Rd .u8 w A n c l) (hl : By l) :
    Calls Try.prog 21 #[.slice A n c, .bool fix] w fun e w' => e = .returned (.bool true) ∧ Bl w w' := by
  by_cases hz : (2147483647 : Int) < (n : Int)
  · go_enter Try.func21, Try.ntmps21
    go_wp2
    go_ret
    exact ⟨rfl, Bl.refl _⟩
  · have H := Lib.hid (Dat_again A n c l fix w h hl (by omega))
    clear h
    go_enter Try.func21, Try.ntmps21
    go_wp2_with fail
    (with_reducible refine H.out.mono ?_)
    rintro e w1 ⟨rfl, hb⟩
    go_wp2_with fail
    go_ret
    exact ⟨rfl, hb⟩
end Go.Proofs.Ytoljdgfbkebgcaa
