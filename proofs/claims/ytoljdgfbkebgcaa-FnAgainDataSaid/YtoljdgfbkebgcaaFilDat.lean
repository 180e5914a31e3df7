/- spec.Filled: sctpdata. -/
import Derived.Test.YtoljdgfbkebgcaaFil
namespace Go.Proofs.Ytoljdgfbkebgcaa
open Go.RowKit Go.Maps Go.ChangeMaps
set_option maxHeartbeats 2000000 in
theorem filDat_m (A : Option Addr) (n c : Nat) (l : List Int) (w : World) (h : Rd .u8 w A n c l) (hl : By l) (h4 : 4 ≤ n) (hV : chL l ≤ n) (hn : n ≤ 2147483647) (hb : All0 l) (hm : 8 ≤ l.getD 1 0) :
    Calls Try.prog 44 #[.string ⟨#[115, 99, 116, 112, 100, 97, 116, 97]⟩, .slice A n c] w fun e w' => e = .returned (.bool false) ∧ Bl w w' := by
  have hcap := h.cap
  have e1 := chL_int l hl
  have s1 := run_cut A n c 2 4 2 4 rfl rfl (by omega) (by omega) 24 Try.underlying24 size5
  have s2 := run_cut_l A n c (chL l) (be (sub l 2 4)) e1 (by omega) 24 Try.underlying24 size5
  have R1 := Lib.hid (h.cutm 2 4 2 (by omega) (by omega))
  have HB := Lib.hid hl
  have b1 := be_bd2 (sub l 2 4) (hl.sub _ _) (by rw [sub_length _ _ _ (by have := h.len; omega)])
  have hlen := h.len
  have P2 := Lib.hid (h.cut (chL l) n hV (Nat.le_refl _))
  have HO := Lib.hid hb
  obtain ⟨g1, o1, rfl, hg1, hc1⟩ := h.at (by omega)
  have d1 := hc1 1 (by omega)
  have bd1 := hl.getD 1
  generalize l.getD 1 0 = x1 at *
  have E1 := Lib.hid e1
  have m0 := MapAt.new (Bl.refl w)
  have hz3 : ∀ W, (zeroValue 3).run Try.prog W = .ok (.int .i64 0) W := by intro W; kernel_rfl
  have mm := run_makeMap (P := Try.prog) 148 w
  clear h hl hb e1 hc1
  go_enter Try.func44, Try.ntmps44
  go_wp2_with fail
  (with_reducible refine (num_any _ _ _ _ _ R1.out (HB.out.sub 2 4) (by omega) (by omega)).mono ?_)
  rintro e w1 ⟨rfl, rfl⟩
  go_wp2_with fail
  have hp : ∀ j, j < n - chL l → (sub l (chL l) n).getD j 0 = 0 := fun j hj => by rw [sub_getD _ _ _ _ (by omega)]; exact HO.out _ (by omega) (by omega)
  have hm0 : n - chL l ≤ 2147483647 := by omega
  generalize n - chL l = m at *
  generalize cutA (some ⟨g1, o1, none⟩) c (chL l) = A2 at *
  generalize sub l (chL l) n = p at *
  have HP := Lib.hid hp
  clear hp s1 s2
  go_loop [21] (fun i => ∃ k : Nat, k ≤ m ∧ i = .int .i64 k) (fun i => m - (intOf i).toNat)
  case atStart => exact ⟨0, Nat.zero_le _, rfl⟩
  case round =>
    obtain ⟨k, hk, rfl⟩ := hrel
    by_cases hlt : k < m
    · have hlt' : (k : Int) < (m : Int) := by omega
      obtain ⟨g, o, rfl, hg, hc⟩ := P2.out.at (by omega)
      have ck := hc k hlt
      rw [HP.out k hlt] at ck
      clear hc
      go_wp2_with fail
      go_round
      case rel => exact ⟨k + 1, by omega, by go_num⟩
      case measure => simp [intOf]; omega
    · have hge : (m : Int) ≤ (k : Int) := by omega
      go_wp2_with (first | (refine wpList_puts rfl w _ _ _ 148 9 3 rfl Try.underlying148 Try.underlying9 w.heap.size _ _ _ _ rfl rfl rfl (by assumption) (by kernel_rfl) ?_; intro W m1; have d1' := ((MapAt.bl m1).cell (p := ⟨g1, o1 + 1, none⟩) hg1).trans d1) | (refine wpList_looks rfl w _ _ 148 9 3 rfl Try.underlying148 Try.underlying9 w.heap.size _ _ _ rfl rfl (by assumption) _ (hz3 _) none (by kernel_rfl) ?_))
      go_wp2_with fail
      go_ret
      exact ⟨by first | rfl | exact ret_bool (by simp; omega), MapAt.bl (by assumption)⟩
set_option maxHeartbeats 2000000 in
theorem filDat (A : Option Addr) (n c : Nat) (l : List Int) (w : World) (h : Rd .u8 w A n c l) (hl : By l) (h4 : 4 ≤ n) (hV : chL l ≤ n) (hn : n ≤ 2147483647) (hb : All0 l) (hm : l.getD 1 0 < 8) :
    Calls Try.prog 44 #[.string ⟨#[115, 99, 116, 112, 100, 97, 116, 97]⟩, .slice A n c] w fun e w' => e = .returned (.bool true) ∧ Bl w w' := by
  have hcap := h.cap
  have e1 := chL_int l hl
  have s1 := run_cut A n c 2 4 2 4 rfl rfl (by omega) (by omega) 24 Try.underlying24 size5
  have s2 := run_cut_l A n c (chL l) (be (sub l 2 4)) e1 (by omega) 24 Try.underlying24 size5
  have R1 := Lib.hid (h.cutm 2 4 2 (by omega) (by omega))
  have HB := Lib.hid hl
  have b1 := be_bd2 (sub l 2 4) (hl.sub _ _) (by rw [sub_length _ _ _ (by have := h.len; omega)])
  have hlen := h.len
  have P2 := Lib.hid (h.cut (chL l) n hV (Nat.le_refl _))
  have HO := Lib.hid hb
  obtain ⟨g1, o1, rfl, hg1, hc1⟩ := h.at (by omega)
  have d1 := hc1 1 (by omega)
  have bd1 := hl.getD 1
  generalize l.getD 1 0 = x1 at *
  have E1 := Lib.hid e1
  have m0 := MapAt.new (Bl.refl w)
  have hz3 : ∀ W, (zeroValue 3).run Try.prog W = .ok (.int .i64 0) W := by intro W; kernel_rfl
  have mm := run_makeMap (P := Try.prog) 148 w
  clear h hl hb e1 hc1
  go_enter Try.func44, Try.ntmps44
  go_wp2_with fail
  (with_reducible refine (num_any _ _ _ _ _ R1.out (HB.out.sub 2 4) (by omega) (by omega)).mono ?_)
  rintro e w1 ⟨rfl, rfl⟩
  go_wp2_with fail
  have hp : ∀ j, j < n - chL l → (sub l (chL l) n).getD j 0 = 0 := fun j hj => by rw [sub_getD _ _ _ _ (by omega)]; exact HO.out _ (by omega) (by omega)
  have hm0 : n - chL l ≤ 2147483647 := by omega
  generalize n - chL l = m at *
  generalize cutA (some ⟨g1, o1, none⟩) c (chL l) = A2 at *
  generalize sub l (chL l) n = p at *
  have HP := Lib.hid hp
  clear hp s1 s2
  go_loop [21] (fun i => ∃ k : Nat, k ≤ m ∧ i = .int .i64 k) (fun i => m - (intOf i).toNat)
  case atStart => exact ⟨0, Nat.zero_le _, rfl⟩
  case round =>
    obtain ⟨k, hk, rfl⟩ := hrel
    by_cases hlt : k < m
    · have hlt' : (k : Int) < (m : Int) := by omega
      obtain ⟨g, o, rfl, hg, hc⟩ := P2.out.at (by omega)
      have ck := hc k hlt
      rw [HP.out k hlt] at ck
      clear hc
      go_wp2_with fail
      go_round
      case rel => exact ⟨k + 1, by omega, by go_num⟩
      case measure => simp [intOf]; omega
    · have hge : (m : Int) ≤ (k : Int) := by omega
      go_wp2_with (first | (refine wpList_puts rfl w _ _ _ 148 9 3 rfl Try.underlying148 Try.underlying9 w.heap.size _ _ _ _ rfl rfl rfl (by assumption) (by kernel_rfl) ?_; intro W m1; have d1' := ((MapAt.bl m1).cell (p := ⟨g1, o1 + 1, none⟩) hg1).trans d1) | (refine wpList_looks rfl w _ _ 148 9 3 rfl Try.underlying148 Try.underlying9 w.heap.size _ _ _ rfl rfl (by assumption) _ (hz3 _) none (by kernel_rfl) ?_))
      go_wp2_with fail
      go_ret
      exact ⟨by first | rfl | exact ret_bool (by simp; omega), MapAt.bl (by assumption)⟩
end Go.Proofs.Ytoljdgfbkebgcaa
