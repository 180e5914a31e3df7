/- laws.FnAgain of sctpshutdown is true. -/
import Derived.Test.YtoljdgfbkebgcaaAgn
import Derived.Test.YtoljdgfbkebgcaaFil
import Derived.Test.YtoljdgfbkebgcaaWrShu
import Derived.Test.YtoljdgfbkebgcaaSrShu
import Derived.Test.YtoljdgfbkebgcaaSoShu
import Derived.Test.YtoljdgfbkebgcaaKindNe
namespace Go.Proofs.Ytoljdgfbkebgcaa
open Go.RowKit
theorem writeShu (l : List Int) (hl : By l) (hq : chL l = 8) (hlen : l.length = 8) : WriteAt ⟨#[115, 99, 116, 112, 115, 104, 117, 116, 100, 111, 119, 110]⟩ l ⟨[l.getD 0 0, l.getD 1 0, be (sub l 2 4), (up4 (chL l) : Int), be (sub l 4 8)], [], [], sub l (up4 (chL l)) l.length⟩ := by
  have hc : be (sub l 2 4) = 8 := by have := chL_int l hl; omega
  match l, hlen with
  | [a, b, c, d, e, f, g, h], _ =>
    have ha := hl a (by simp)
    have hb := hl b (by simp)
    have hcc := hl c (by simp)
    have hd := hl d (by simp)
    have he := hl e (by simp)
    have hf := hl f (by simp)
    have hg := hl g (by simp)
    have hh := hl h (by simp)
    have hU : up4 (chL [a, b, c, d, e, f, g, h]) = 8 := by rw [hq]; rfl
    have e1 : be (sub [a, b, c, d, e, f, g, h] 2 4) = c * 256 + d := by simp [sub, be]
    have h1 : c = 0 := by omega
    have h2 : d = 8 := by omega
    subst h1 h2
    have e2 : be (sub [a, b, 0, 8, e, f, g, h] 4 8) = ((e * 256 + f) * 256 + g) * 256 + h := by simp [sub, be]
    intro F v fix w hL
    obtain ⟨v0, v1, v2, v3, rfl, ⟨A0, c0, rfl, _, r0⟩, ⟨A1, c1, rfl, _⟩, ⟨A2, c2, rfl, _⟩, ⟨⟨A3, c3, rfl, _, _⟩, _⟩⟩ := hL
    have r : Rd .u64 w A0 5 c0 [a, b, 8, 8, ((e * 256 + f) * 256 + g) * 256 + h] := by rw [hU, hc, e2] at r0; exact r0
    have hs : (sub [a, b, 0, 8, e, f, g, h] (up4 (chL [a, b, 0, 8, e, f, g, h])) [a, b, 0, 8, e, f, g, h].length).length = 0 := by rw [hU]; rfl
    simp only [hs]
    refine (wrShu_any A0 A1 A2 A3 c0 c1 c2 c3 a b 8 8 _ fix w r ha hb (by omega) (by omega) (by omega)).mono ?_
    rintro x w' ⟨A, c, rfl, r1, hb1⟩
    have hE : (((e * 256 + f) * 256 + g) * 256 + h) / 16777216 = e := by omega
    have hF : (((e * 256 + f) * 256 + g) * 256 + h) / 65536 % 256 = f := by omega
    have hG : (((e * 256 + f) * 256 + g) * 256 + h) / 256 % 256 = g := by omega
    have hH : (((e * 256 + f) * 256 + g) * 256 + h) % 256 = h := by omega
    rw [hE, hF, hG, hH] at r1
    exact ⟨A, 8, c, rfl, r1, hb1⟩
theorem Shu_again (A : Option Addr) (n c : Nat) (l : List Int) (fix : Bool) (w : World) (h : Rd .u8 w A n c l) (hl : By l) (hn : n ≤ 2147483647) :
    Calls Try.prog 31 #[.string ⟨#[115, 99, 116, 112, 115, 104, 117, 116, 100, 111, 119, 110]⟩, .slice A n c, .bool fix] w fun e w' => e = .returned (.bool true) ∧ Bl w w' := by
  have hlen := h.len
  have hs : ((⟨#[115, 99, 116, 112, 115, 104, 117, 116, 100, 111, 119, 110]⟩ : ByteArray).toList == [115, 99, 116, 112]) = false := by simp [go_sem]
  have hd : ((⟨#[115, 99, 116, 112, 115, 104, 117, 116, 100, 111, 119, 110]⟩ : ByteArray).toList == [115, 99, 116, 112, 100, 97, 116, 97]) = false := by simp [go_sem]
  by_cases h4 : l.length < 4
  · exact again_any _ l hl nilLyr false true fix (sr_short _ l hs h4) (fun _ h => by simp at h) A n c w h
  by_cases hk : kindOf (l.getD 0 0) = ⟨#[115, 99, 116, 112, 115, 104, 117, 116, 100, 111, 119, 110]⟩
  · have hk' : ((kindOf (l.getD 0 0)).toList == (⟨#[115, 99, 116, 112, 115, 104, 117, 116, 100, 111, 119, 110]⟩ : ByteArray).toList) = true := by rw [hk]; simp
    by_cases hL : chL l < 4
    · exact again_any _ l hl nilLyr false true fix (sr_low _ l hl hs (by omega) (by omega) hk' hL) (fun _ h => by simp at h) A n c w h
    by_cases hlong : l.length < chL l
    · exact again_any _ l hl nilLyr false true fix (sr_long _ l hl hs (by omega) (by omega) hk' hd hlong) (fun _ h => by simp at h) A n c w h
    by_cases hup : l.length < up4 (chL l)
    · exact again_any _ l hl nilLyr false false fix (sr_full _ l hl hs (by omega) (by omega) hk' hd (by omega) (by omega) hup) (fun h => by simp at h) A n c w h
    by_cases h8 : chL l ≠ 8
    · exact again_any _ l hl nilLyr false false fix (srShu_odd l hl (by omega) (by omega) (by omega) h8 hk) (fun h => by simp at h) A n c w h
    have h8 : chL l = 8 := by omega
    refine again_any _ l hl _ true true fix (srShu_some l hl (by omega) (by omega) (by omega) h8 hk) (fun _ _ h200 => ⟨by omega, fun hx => ?_⟩) A n c w h
    rcases all0_or l with ha | ho
    · skip
      exact .inr ⟨fun A n c w h => filShu A n c l w h hl (by have := h.len; omega) (by have := h.len; omega) (by have := h.len; omega) ha, writeShu l hl h8 (by unfold up4 at hx; omega)⟩
    · exact .inl (fun A n c w h => fil_bad _ A n c l w h hl (by have := h.len; omega) (by have := h.len; omega) (by have := h.len; omega) ho)
  · exact again_any _ l hl nilLyr false false fix (sr_open _ l hl hs (by omega) (by omega) (kind_ne _ _ hk (.inr (.inr (.inr (.inr (.inr (.inl rfl)))))))) (fun h => by simp at h) A n c w h
set_option maxHeartbeats 1000000 in
theorem Shu_alaw (A : Option Addr) (n c : Nat) (l : List Int) (fix : Bool) (w : World) (h : Rd .u8 w A n c l) (hl : By l) :
    Calls Try.prog 8 #[.slice A n c, .bool fix] w fun e w' => e = .returned (.bool true) ∧ Bl w w' := by
  by_cases hz : (2147483647 : Int) < (n : Int)
  · go_enter Try.func8, Try.ntmps8
    go_wp2
    go_ret
    exact ⟨rfl, Bl.refl _⟩
  · have H := Lib.hid (Shu_again A n c l fix w h hl (by omega))
    clear h
    go_enter Try.func8, Try.ntmps8
    go_wp2_with fail
    (with_reducible refine H.out.mono ?_)
    rintro e w1 ⟨rfl, hb⟩
    go_wp2_with fail
    go_ret
    exact ⟨rfl, hb⟩
end Go.Proofs.Ytoljdgfbkebgcaa
