/- laws.FnAgain of sctpempty is true. -/
import Derived.Test.YtoljdgfbkebgcaaAgn
import Derived.Test.YtoljdgfbkebgcaaFil
import Derived.Test.YtoljdgfbkebgcaaWrEmp
import Derived.Test.YtoljdgfbkebgcaaSrEmp
import Derived.Test.YtoljdgfbkebgcaaKindNe
namespace Go.Proofs.Ytoljdgfbkebgcaa
open Go.RowKit
theorem writeEmp (l : List Int) (hl : By l) (hq : chL l = 4) (hlen : l.length = 4) : WriteAt ⟨#[115, 99, 116, 112, 101, 109, 112, 116, 121]⟩ l ⟨[l.getD 0 0, l.getD 1 0, be (sub l 2 4), (up4 (chL l) : Int)], [], [], sub l (up4 (chL l)) l.length⟩ := by
  have hc : be (sub l 2 4) = 4 := by have := chL_int l hl; omega
  match l, hlen with
  | [a, b, c, d], _ =>
    have ha := hl a (by simp)
    have hb := hl b (by simp)
    have hcc := hl c (by simp)
    have hd := hl d (by simp)
    have hU : up4 (chL [a, b, c, d]) = 4 := by rw [hq]; rfl
    have e : be (sub [a, b, c, d] 2 4) = c * 256 + d := by simp [sub, be]
    have h1 : c = 0 := by omega
    have h2 : d = 4 := by omega
    subst h1 h2
    intro F v fix w hL
    obtain ⟨v0, v1, v2, v3, rfl, ⟨A0, c0, rfl, _, r0⟩, ⟨A1, c1, rfl, _⟩, ⟨A2, c2, rfl, _⟩, ⟨⟨A3, c3, rfl, _, _⟩, _⟩⟩ := hL
    have r : Rd .u64 w A0 4 c0 [a, b, 4, 4] := by rw [hU, hc] at r0; exact r0
    have hs : (sub [a, b, 0, 4] (up4 (chL [a, b, 0, 4])) [a, b, 0, 4].length).length = 0 := by rw [hU]; rfl
    simp only [hs]
    refine (wrEmp_any A0 A1 A2 A3 c0 c1 c2 c3 a b 4 4 fix w r ha hb (by omega) (by omega)).mono ?_
    rintro e w' ⟨A, c, rfl, r1, hb1⟩
    exact ⟨A, 4, c, rfl, r1, hb1⟩
theorem Emp_again (A : Option Addr) (n c : Nat) (l : List Int) (fix : Bool) (w : World) (h : Rd .u8 w A n c l) (hl : By l) (hn : n ≤ 2147483647) :
    Calls Try.prog 31 #[.string ⟨#[115, 99, 116, 112, 101, 109, 112, 116, 121]⟩, .slice A n c, .bool fix] w fun e w' => e = .returned (.bool true) ∧ Bl w w' := by
  have hlen := h.len
  have hs : ((⟨#[115, 99, 116, 112, 101, 109, 112, 116, 121]⟩ : ByteArray).toList == [115, 99, 116, 112]) = false := by simp [go_sem]
  have hd : ((⟨#[115, 99, 116, 112, 101, 109, 112, 116, 121]⟩ : ByteArray).toList == [115, 99, 116, 112, 100, 97, 116, 97]) = false := by simp [go_sem]
  by_cases h4 : l.length < 4
  · exact again_any _ l hl nilLyr false true fix (sr_short _ l hs h4) (fun _ h => by simp at h) A n c w h
  by_cases hk : kindOf (l.getD 0 0) = ⟨#[115, 99, 116, 112, 101, 109, 112, 116, 121]⟩
  · have hk' : ((kindOf (l.getD 0 0)).toList == (⟨#[115, 99, 116, 112, 101, 109, 112, 116, 121]⟩ : ByteArray).toList) = true := by rw [hk]; simp
    by_cases hL : chL l < 4
    · exact again_any _ l hl nilLyr false true fix (sr_low _ l hl hs (by omega) (by omega) hk' hL) (fun _ h => by simp at h) A n c w h
    by_cases hlong : l.length < chL l
    · exact again_any _ l hl nilLyr false true fix (sr_long _ l hl hs (by omega) (by omega) hk' hd hlong) (fun _ h => by simp at h) A n c w h
    by_cases hup : l.length < up4 (chL l)
    · exact again_any _ l hl nilLyr false false fix (sr_full _ l hl hs (by omega) (by omega) hk' hd (by omega) (by omega) hup) (fun h => by simp at h) A n c w h
    refine again_any _ l hl _ true true fix (srEmp_some l hl (by omega) (by omega) (by omega) hk) (fun _ _ h200 => ⟨by omega, fun hx => ?_⟩) A n c w h
    rcases all0_or l with ha | ho
    · skip
      by_cases hm : chL l % 4 = 0
      · by_cases hq : chL l = 4
        · exact .inr ⟨fun A n c w h => filEmp A n c l w h hl (by have := h.len; omega) (by have := h.len; omega) (by have := h.len; omega) ha hq, writeEmp l hl hq (by unfold up4 at hx; omega)⟩
        · exact .inl (fun A n c w h => filEmp_q A n c l w h hl (by have := h.len; omega) (by have := h.len; omega) (by have := h.len; omega) ha hm hq)
      · exact .inl (fun A n c w h => filEmp_m A n c l w h hl (by have := h.len; omega) (by have := h.len; omega) (by have := h.len; omega) ha hm)
    · exact .inl (fun A n c w h => fil_bad _ A n c l w h hl (by have := h.len; omega) (by have := h.len; omega) (by have := h.len; omega) ho)
  · exact again_any _ l hl nilLyr false false fix (sr_open _ l hl hs (by omega) (by omega) (kind_ne _ _ hk (.inr (.inr (.inr (.inr (.inr (.inr (.inr (.inr (.inl rfl))))))))))) (fun h => by simp at h) A n c w h
set_option maxHeartbeats 1000000 in
theorem Emp_alaw (A : Option Addr) (n c : Nat) (l : List Int) (fix : Bool) (w : World) (h : Rd .u8 w A n c l) (hl : By l) :
    Calls Try.prog 22 #[.slice A n c, .bool fix] w fun e w' => e = .returned (.bool true) ∧ Bl w w' := by
  by_cases hz : (2147483647 : Int) < (n : Int)
  · go_enter Try.func22, Try.ntmps22
    go_wp2
    go_ret
    exact ⟨rfl, Bl.refl _⟩
  · have H := Lib.hid (Emp_again A n c l fix w h hl (by omega))
    clear h
    go_enter Try.func22, Try.ntmps22
    go_wp2_with fail
    (with_reducible refine H.out.mono ?_)
    rintro e w1 ⟨rfl, hb⟩
    go_wp2_with fail
    go_ret
    exact ⟨rfl, hb⟩
end Go.Proofs.Ytoljdgfbkebgcaa
