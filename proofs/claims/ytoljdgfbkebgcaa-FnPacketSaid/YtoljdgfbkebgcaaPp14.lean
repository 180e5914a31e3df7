/- spec.Read and decoded, of a chunk of the kind sctpsack. What the reference says of a chunk of any known kind, and what the package decodes. How many parts a packet has. laws.FnPacket is true. -/
import Derived.Test.YtoljdgfbkebgcaaPp11
import Derived.Test.YtoljdgfbkebgcaaPp12
import Derived.Test.YtoljdgfbkebgcaaPp13
import Derived.Test.YtoljdgfbkebgcaaPq07
import Derived.Test.YtoljdgfbkebgcaaPq10
import Derived.Test.YtoljdgfbkebgcaaPq11
import Derived.Test.YtoljdgfbkebgcaaPp04
import Derived.Test.YtoljdgfbkebgcaaPq12
import Derived.Test.YtoljdgfbkebgcaaPq15
import Derived.Test.YtoljdgfbkebgcaaPq17
import Derived.Test.YtoljdgfbkebgcaaPp09
import Derived.Test.YtoljdgfbkebgcaaPq18
import Derived.Test.YtoljdgfbkebgcaaPq08
import Derived.Test.YtoljdgfbkebgcaaPp01
namespace Go.Proofs.Ytoljdgfbkebgcaa
open Go.RowKit
set_option linter.unusedVariables false
theorem decSac_at (l : List Int) (hl : By l) (hk : kindOf (l.getD 0 0) = ⟨#[115, 99, 116, 112, 115, 97, 99, 107]⟩) (h4' : 4 ≤ chL l) (hup : up4 (chL l) ≤ l.length) (h0 : l.getD 0 0 ≠ 0) (hn2 : l.length ≤ 2000) (q : Nat) (hV16 : chL l = 16 + 4 * q) (hg0 : be (sub l 12 14) = 0) (hq : be (sub l 14 16) = (q : Int)) : DecAt l := by
  intro A n c w h
  have hlen := h.len
  rw [hk]
  refine (decodedNP_ok _ l _ _ (fun A n c w w' gl h hb => by obtain ⟨A00, c00, v, B, h1, h2⟩ := h; exact ⟨A00, c00, v, B, Blk.keep hb h1, own_bl h2 hb⟩) hn2 (calledSac_yes l hl q hV16 hg0 hq hup h0 hn2) (zzSac_ok l hl q hV16 hg0 hq hup h0 hn2) A n c w h).mono ?_
  rintro e w1 ⟨A1, c1, gl, rfl, hb1, ⟨A00, c00, v, B, kl, ho⟩, r1, i1⟩
  exact Obj1.dec h0 rfl hup (by omega) rfl meth115 hb1 kl (by decide) rfl rfl r1 i1
theorem Sac_kind (l : List Int) (hl : By l) (hn : l.length ≤ 2147483647) (hk : kindOf (l.getD 0 0) = ⟨#[115, 99, 116, 112, 115, 97, 99, 107]⟩) : KindAt l := by
  have hs : ((⟨#[115, 99, 116, 112, 115, 97, 99, 107]⟩ : ByteArray).toList == [115, 99, 116, 112]) = false := by simp [go_sem]
  have hd : ((⟨#[115, 99, 116, 112, 115, 97, 99, 107]⟩ : ByteArray).toList == [115, 99, 116, 112, 100, 97, 116, 97]) = false := by simp [go_sem]
  by_cases h4 : l.length < 4
  · exact KindAt.no hk nilLyr false true (sr_short _ l hs h4) rfl
  have hk' : ((kindOf (l.getD 0 0)).toList == (⟨#[115, 99, 116, 112, 115, 97, 99, 107]⟩ : ByteArray).toList) = true := by rw [hk]; simp
  have h0 : l.getD 0 0 ≠ 0 := by
    intro h0
    rw [h0] at hk
    rw [← hk] at hd
    simp [kindOf, kDat, go_sem] at hd
  by_cases hL : chL l < 4
  · exact KindAt.no hk nilLyr false true (sr_low _ l hl hs (by omega) (by omega) hk' hL) rfl
  by_cases hlong : l.length < chL l
  · exact KindAt.no hk nilLyr false true (sr_long _ l hl hs (by omega) (by omega) hk' hd hlong) rfl
  by_cases hup : l.length < up4 (chL l)
  · exact KindAt.no hk nilLyr false false (sr_full _ l hl hs (by omega) (by omega) hk' hd (by omega) (by omega) hup) rfl
  by_cases hm : ¬ (16 ≤ chL l ∧ be (sub l 12 14) = 0 ∧ (chL l : Int) = 16 + 4 * be (sub l 14 16))
  · exact KindAt.no hk nilLyr false false (srSac_odd l hl (by omega) (by omega) (by omega) hm hk) rfl
  obtain ⟨h16, hg0, hq0⟩ : 16 ≤ chL l ∧ be (sub l 12 14) = 0 ∧ (chL l : Int) = 16 + 4 * be (sub l 14 16) := Decidable.not_not.1 hm
  obtain ⟨q, hq⟩ : ∃ q : Nat, be (sub l 14 16) = (q : Int) := ⟨_, (Int.toNat_of_nonneg (be_nonneg _ (hl.sub 14 16))).symm⟩
  have hV16 : chL l = 16 + 4 * q := by omega
  exact ⟨_, true, true, by rw [hk]; exact srSac_some l hl (by omega) (by omega) (by omega) q hV16 hg0 hq hk, fun _ _ => ⟨by omega, by omega, ⟨_, rfl⟩, fun h => absurd h h0, fun h2 => decSac_at l hl hk (by omega) (by omega) h0 h2 q hV16 hg0 hq⟩⟩
end Go.Proofs.Ytoljdgfbkebgcaa
namespace Go.Proofs.Ytoljdgfbkebgcaa
open Go.RowKit
set_option linter.unusedVariables false
theorem kind_at (l : List Int) (hl : By l) (hn : l.length ≤ 2147483647) (h : kindOf (l.getD 0 0) ≠ kUnk) : KindAt l := by
  rcases kindOf_is (l.getD 0 0) with hk | hk | hk | hk | hk | hk | hk | hk | hk | hk
  · exact Dat_kind l hl hn hk
  · exact Ini_kind l hl hn hk
  · exact Sac_kind l hl hn hk
  · exact Hea_kind l hl hn hk
  · exact Err_kind l hl hn hk
  · exact Shu_kind l hl hn hk
  · exact Ack_kind l hl hn hk
  · exact Coo_kind l hl hn hk
  · exact Emp_kind l hl hn hk
  · exact absurd hk h
end Go.Proofs.Ytoljdgfbkebgcaa
namespace Go.Proofs.Ytoljdgfbkebgcaa
open Go.RowKit
set_option linter.unusedVariables false
/-- How many parts there are, and numbers in each. -/
theorem PktN.small (k : Nat) : ∀ (l : List Int) (ps : List Prt) (pay : List Int), PktN k l ps pay → ps.length ≤ l.length ∧ ∀ p ∈ ps, p.nums.length = 3 := by
  induction k with
  | zero =>
    rintro l ps pay ⟨_, rfl, _⟩
    exact ⟨by simp, fun p hp => by simp at hp⟩
  | succ k ih =>
    intro l ps pay h
    rcases h with ⟨_, rfl, _⟩ | ⟨h0, _, L, hc, h⟩
    · exact ⟨by simp, fun p hp => by simp at hp⟩
    · have hp := payOf_len hc
      rcases h with ⟨_, rfl, _⟩ | ⟨_, qs, rfl, h⟩
      · exact ⟨by simp; omega, fun p hp => by simp at hp; subst hp; rfl⟩
      · obtain ⟨h1, h2⟩ := ih _ _ _ h
        refine ⟨by simp; omega, fun p hp => ?_⟩
        rcases List.mem_cons.1 hp with rfl | hp
        · rfl
        · exact h2 p hp
theorem Pkt.small {l : List Int} {ps : List Prt} {pay : List Int} (h : Pkt l ps pay) : ps.length ≤ l.length ∧ ∀ p ∈ ps, p.nums.length = 3 := by
  obtain ⟨k, h⟩ := h
  exact PktN.small k l ps pay h
end Go.Proofs.Ytoljdgfbkebgcaa
namespace Go.Proofs.Ytoljdgfbkebgcaa
open Go.RowKit
set_option linter.unusedVariables false
set_option maxHeartbeats 1000000 in
theorem spPkt_short (A : Option Addr) (n c : Nat) (l : List Int) (w : World) (h12 : n < 12) :
    Calls Try.prog 32 #[.slice A n c] w fun e w' => PktOut w w' e l := by
  go_enter Try.func32, Try.ntmps32
  go_wp2_with fail
  refine bodyPost_ret (v := .tuple #[.agg #[.slice none 0 0, .slice none 0 0, .slice none 0 0, .slice none 0 0], .bool false]) (by simp [results, Try.results32, go_sem]) rfl
    ⟨_, _, rfl, by go_grown, _, LyrV.zero _ _, fun h => by simp at h⟩
theorem spPkt_all (A : Option Addr) (n c : Nat) (l : List Int) (w : World) (h : Rd .u8 w A n c l) (hl : By l) (hn : n ≤ 2147483647) :
    Calls Try.prog 32 #[.slice A n c] w fun e w' => PktOut w w' e l := by
  by_cases h12 : n < 12
  · exact spPkt_short A n c l w h12
  · exact spPkt_any (fun l hl hn hk => kind_at l hl hn hk) A n c l w h hl hn (by omega)
theorem pkt_small {l : List Int} {ps : List Prt} {pay : List Int} (h : Pkt (sub l 12 l.length) ps pay) (h12 : 12 ≤ l.length) (hn : l.length ≤ 2147483647) : Small ⟨hdNums l, [], ps, pay⟩ := by
  obtain ⟨h1, h2⟩ := h.small
  have h3 := sub_length l 12 l.length (Nat.le_refl _)
  refine ⟨by simp [hdNums], by simp, by simp only; omega, fun p hp => ?_⟩
  rw [h2 p hp]
  omega
set_option maxHeartbeats 1000000 in
theorem pkt_law (A : Option Addr) (n c : Nat) (l : List Int) (w : World) (h : Rd .u8 w A n c l) (hl : By l) :
    Calls Try.prog 6 #[.slice A n c] w fun e w' => e = .returned (.bool true) ∧ Bl w w' := by
  have HLEN := Lib.hid h.len
  by_cases hz : (2147483647 : Int) < (n : Int)
  · go_enter Try.func6, Try.ntmps6
    go_wp2
    go_ret
    exact ⟨rfl, Bl.refl _⟩
  have H := Lib.hid h
  have HB := Lib.hid hl
  have SP := Lib.hid (spPkt_all A n c l w h hl (by omega))
  clear h hl
  by_cases h2 : (200 : Int) < (n : Int)
  · go_enter Try.func6, Try.ntmps6
    go_wp2_with fail
    (with_reducible refine SP.out.mono ?_)
    rintro e w1 ⟨v, told, rfl, hb, L, hL, _⟩
    obtain ⟨A0, c0, A1, c1, A2, c2, A3, c3, rfl⟩ := hL.form
    clear hL
    go_wp2_with fail
    go_ret
    exact ⟨rfl, hb.trans (by go_grown)⟩
  go_enter Try.func6, Try.ntmps6
  go_wp2_with fail
  (with_reducible refine SP.out.mono ?_)
  rintro e w1 ⟨v, told, rfl, hb, L, hL, hT⟩
  cases told with
  | false =>
    obtain ⟨A0, c0, A1, c1, A2, c2, A3, c3, rfl⟩ := hL.form
    clear hL
    go_wp2_with fail
    go_ret
    exact ⟨rfl, hb.trans (by go_grown)⟩
  | true =>
    obtain ⟨h12, ps, pay, hp, rfl⟩ := hT rfl
    clear hT
    have hlen := HLEN.out
    have HR : Hid (ReadAt ⟨#[112, 97, 99, 107, 101, 116]⟩ l ⟨hdNums l, [], ps, pay⟩) := Lib.hid (fun A n c w h => by
      have := h.len
      exact readPkt_any A n c l w h HB.out (by omega) (by omega) ps pay hp)
    have HS := Lib.hid (pkt_small hp h12 (by omega))
    clear hp
    generalize (⟨hdNums l, [], ps, pay⟩ : Lyr) = L at *
    obtain ⟨A0, c0, A1, c1, A2, c2, A3, c3, rfl⟩ := hL.form
    have HL := Lib.hid hL
    clear hL
    go_wp2_with fail
    (with_reducible refine (HR.out _ _ _ _ (H.out.below (hb.trans (by go_grown)))).mono ?_)
    rintro e w2 ⟨v, rfl, hL2, hb2⟩
    obtain ⟨A4, c4, A5, c5, A6, c6, A7, c7, rfl⟩ := hL2.form
    have HL2 := Lib.hid hL2
    clear hL2
    have k1 := Blk.keep hb2 (Blk.new w1 _ _)
    have d1 := k1.cell
    have z1 := k1.lt
    go_wp2_with fail
    (with_reducible refine (same_any _ _ L _ (LyrV.below HL2.out (by go_grown)) (LyrV.below HL.out ((Bl.trans (by go_grown) hb2).trans (by go_grown))) HS.out).mono ?_)
    rintro e w3 ⟨rfl, hb3⟩
    go_wp2_with fail
    (with_reducible refine (alive_any _).mono ?_)
    rintro e w4 ⟨rfl, hb4⟩
    go_wp2_with fail
    go_ret
    exact ⟨rfl, ((hb.trans (Bl.trans (by go_grown) hb2)).trans (Bl.trans (by go_grown) hb3)).trans hb4⟩
end Go.Proofs.Ytoljdgfbkebgcaa
