/- SCTPParameter.Bytes: a parameter's bytes. -/
import Derived.Test.YtoljdgfbkebgcaaSpl
import Derived.Test.YtoljdgfbkebgcaaChk
import Derived.Test.YtoljdgfbkebgcaaPrb
namespace Go.Proofs.Ytoljdgfbkebgcaa
open Go.RowKit
set_option maxHeartbeats 2000000 in
set_option maxRecDepth 100000 in
theorem bys_any (T L U : Int) (A5 : Option Addr) (m c5 : Nat) (p : List Int) (w : World) (hp : Rd .u8 w A5 m c5 p) (hT : 0 ≤ T ∧ T ≤ 65535) (hm : m ≤ 1000) :
    Calls Try.prog 121 #[.agg #[.int .u16 T, .int .u16 L, .int .i64 U, .slice A5 m c5]] w fun e w' => ∃ g, e = .returned (.slice (some ⟨g, 0, none⟩) (up4 (4 + m)) (up4 (4 + m))) ∧ Bl w w' ∧ w.heap.size ≤ g ∧
      Rd .u8 w' (some ⟨g, 0, none⟩) (up4 (4 + m)) (up4 (4 + m)) ([T / 256, T % 256, (4 + (m : Int)) / 256, (4 + (m : Int)) % 256] ++ p ++ List.replicate (up4 (4 + m) - (4 + m)) 0) := by
  have HP := Lib.hid hp
  have hpl := hp.len
  have e2 : ((4 : Int) + m + 3) / 4 * 4 = ((up4 (4 + m) : Nat) : Int) := by unfold up4; omega
  have hk4 : 4 + m ≤ up4 (4 + m) ∧ up4 (4 + m) ≤ 4 + m + 3 := by unfold up4; omega
  generalize up4 (4 + m) = k at *
  have HE := Lib.hid e2
  have HK := Lib.hid hk4
  clear hp e2 hk4
  go_enter Try.func121, Try.ntmps121
  go_wp2_with fail
  (with_reducible refine (round_any _ (by omega) (by omega) _).mono ?_)
  rintro e w1 ⟨rfl, rfl⟩
  rw [HE.out]
  have hmk := run_mk k (k : Int) rfl (by have := HK.out; omega)
  have ks := Blk.new w #[.int .u16 T, .int .u16 L, .int .i64 U, .slice A5 m c5] 111
  have B0 : Bl w (w.alloc (.cells #[.int .u16 T, .int .u16 L, .int .i64 U, .slice A5 m c5] 111)) := by go_grown
  have hgs : w.heap.size < (w.alloc (.cells #[.int .u16 T, .int .u16 L, .int .i64 U, .slice A5 m c5] 111)).heap.size := ks.lt
  have hsz : (w.alloc (.cells #[.int .u16 T, .int .u16 L, .int .i64 U, .slice A5 m c5] 111)).heap.size = w.heap.size + 1 := by simp
  go_wp2_with fail
  clear hmk
  have kd : Blk ((w.alloc (.cells #[.int .u16 T, .int .u16 L, .int .i64 U, .slice A5 m c5] 111)).alloc (.cells (zs k) 5)) (w.heap.size + 1) (zs k) 5 := Blk.newAt _ _ _ _ (by simp)
  have ks1 := ks.alloc (.cells (zs k) 5)
  have B1 : Bl w ((w.alloc (.cells #[.int .u16 T, .int .u16 L, .int .i64 U, .slice A5 m c5] 111)).alloc (.cells (zs k) 5)) := B0.trans (by go_grown)
  generalize (w.alloc (.cells #[.int .u16 T, .int .u16 L, .int .i64 U, .slice A5 m c5] 111)).alloc (.cells (zs k) 5) = W1 at *
  have hgw : w.heap.size ≤ w.heap.size + 1 := Nat.le_succ _
  have hne : w.heap.size ≠ w.heap.size + 1 := by omega
  clear ks B0 hgs hsz
  generalize w.heap.size + 1 = h' at *
  have hzk : (zs k).size = k := zs_size k
  have z1 := kd.lt
  have s0 := run_cut_0 (some ⟨h', 0, none⟩) k k 2 2 rfl (by have := HK.out; omega) 24 Try.underlying24 size5
  have q0 : ∀ d os, (Sort.grow (redrawn W1 d) os).cell? ⟨w.heap.size, 0, none⟩ = some (.int .u16 T) := fun d os => cell_regrown (ks1.cell 0) d os
  refine wp_region_float (S := Grw W1) [true, true, true, true, true, false] 5 (by kernel_rfl) (by kernel_rfl) (Grw.drew W1) ?_
  simp only [selQ, selN, earlyN]
  repeat (first | go_big_quiet_skip | (go_big_quiet_want; go_big_quiet_op; go_big_quiet_on))
  refine wpQuiet_nil ?_
  refine wpN_late ?_
  clear q0
  go_wp2_with fail
  (with_reducible refine (put16_any h' 0 _ _ _ _ (kd.same (w' := W1.drew) rfl) (by have := HK.out; omega) hT).mono ?_)
  rintro e w2 ⟨rfl, ch2, kd2⟩
  have B2 : Bl w w2 := ch2.bl B1.drew hgw
  have ks2 := (ks1.same (w' := W1.drew) rfl).chg ch2 hne
  clear s0 ch2 ks1 kd B1
  go_wp2_with fail
  refine NoPanic.normal ?_
  go_wp2_with fail
  have s1 := run_cut (some ⟨h', 0, none⟩) k k 2 4 2 4 rfl rfl (by omega) (by have := HK.out; omega) 24 Try.underlying24 size5
  have sa1 : cutA (some ⟨h', 0, none⟩) k 2 = some ⟨h', 2, none⟩ := by unfold cutA; rw [if_neg (by have := HK.out; omega)]; rfl
  rw [sa1] at s1
  have z2 := kd2.lt
  refine wp_region_float (S := Grw w2) [true, true, true, true, true, false] 5 (by kernel_rfl) (by kernel_rfl) (Grw.drew w2) ?_
  simp only [selQ, selN, earlyN]
  repeat (first | go_big_quiet_skip | (go_big_quiet_want; go_big_quiet_op; go_big_quiet_on))
  refine wpQuiet_nil ?_
  refine wpN_late ?_
  go_wp2_with fail
  (with_reducible refine (put16_any h' 2 _ _ _ _ (kd2.same (w' := w2.drew) rfl) (by simp only [Array.size_setIfInBounds]; have := HK.out; omega) (by omega)).mono ?_)
  rintro e w3 ⟨rfl, ch3, kd3⟩
  have B3 : Bl w w3 := ch3.bl B2.drew hgw
  have ks3 := (ks2.same (w' := w2.drew) rfl).chg ch3 hne
  clear s1 sa1 ch3 ks2 kd2 B2
  go_wp2_with fail
  refine NoPanic.normal ?_
  go_wp2_with fail
  have RP3 := Lib.hid ((HP.out.below B3).below ((Bl.refl w3).drew))
  have z3 := kd3.lt
  have q6 : ∀ d os, (Sort.grow (redrawn w3 d) os).cell? ⟨w.heap.size, 3, none⟩ = some (.slice A5 m c5) := fun d os => cell_regrown (ks3.cell 3) d os
  have s2 := run_cut_l (some ⟨h', 0, none⟩) k k 4 4 rfl (by have := HK.out; omega) 24 Try.underlying24 size5
  refine wp_region_float (S := Grw w3) [true, true, true, true, false] 4 (by kernel_rfl) (by kernel_rfl) (Grw.drew w3) ?_
  simp only [selQ, selN, earlyN]
  repeat (first | go_big_quiet_skip | (go_big_quiet_want; go_big_quiet_op; go_big_quiet_on))
  refine wpQuiet_nil ?_
  refine wpN_late ?_
  have hcz : (((((zs k).setIfInBounds 0 (.int .u8 (T / 256))).setIfInBounds (0 + 1) (.int .u8 (T % 256))).setIfInBounds 2 (.int .u8 ((4 + (m : Int)) / 256))).setIfInBounds (2 + 1) (.int .u8 ((4 + (m : Int)) % 256))).size = k := by simp only [Array.size_setIfInBounds]; exact hzk
  have H0' : Hid (∀ i, i < 4 → (((((zs k).setIfInBounds 0 (.int .u8 (T / 256))).setIfInBounds (0 + 1) (.int .u8 (T % 256))).setIfInBounds 2 (.int .u8 ((4 + (m : Int)) / 256))).setIfInBounds (2 + 1) (.int .u8 ((4 + (m : Int)) % 256)))[i]? = some (.int .u8 ([T / 256, T % 256, (4 + (m : Int)) / 256, (4 + (m : Int)) % 256].getD i 0))) := Lib.hid (by
    have hk4 := HK.out
    intro i hi
    match i, hi with
    | 0, _ => simp [Array.getElem?_setIfInBounds, show 0 < (zs k).size by omega]
    | 1, _ => simp [Array.getElem?_setIfInBounds, show 1 < (zs k).size by omega]
    | 2, _ => simp [Array.getElem?_setIfInBounds, show 2 < (zs k).size by omega]
    | 3, _ => simp [Array.getElem?_setIfInBounds, show 3 < (zs k).size by omega])
  have H4' : Hid (∀ i, (((((zs k).setIfInBounds 0 (.int .u8 (T / 256))).setIfInBounds (0 + 1) (.int .u8 (T % 256))).setIfInBounds 2 (.int .u8 ((4 + (m : Int)) / 256))).setIfInBounds (2 + 1) (.int .u8 ((4 + (m : Int)) % 256)))[4 + i]? = (zs k)[4 + i]?) := Lib.hid (by
    intro i
    repeat rw [Array.getElem?_setIfInBounds_ne (by omega)])
  generalize (((((zs k).setIfInBounds 0 (.int .u8 (T / 256))).setIfInBounds (0 + 1) (.int .u8 (T % 256))).setIfInBounds 2 (.int .u8 ((4 + (m : Int)) / 256))).setIfInBounds (2 + 1) (.int .u8 ((4 + (m : Int)) % 256))) = dd at *
  have hkm : m ≤ k - 4 := by have := HK.out; omega
  refine wpList_copy_splice rfl (.tmp 25) (.tmp 27) 24 24 rfl 5 Try.underlying24 info5s (cutA (some ⟨h', 0, none⟩) k 4) A5 (k - 4) (k - 4) m c5 (by rfl) (by rfl) h' 4 dd.toList 5 (by rw [Array.toArray_toList]; exact kd3.heap) (p.map (Value.int .u8)) (by rw [List.length_map, hpl]; exact (Nat.min_eq_left hkm).symm) ?_ (by simp [hcz, hpl]; have := HK.out; omega) (fun u hu => by simp at hu; obtain ⟨x, _, rfl⟩ := hu; rfl) h' w3.drew (Below.refl _ _) (Nat.le_refl _) ?_
  · intro hpos
    have hn : 0 < m := by simpa [hpl] using hpos
    refine ⟨by unfold cutA; rw [if_neg (by have := HK.out; omega)]; simp [add_add], ?_⟩
    obtain ⟨g, o, rfl, _, hc'⟩ := RP3.out.at hn
    exact ⟨_, rfl, fun j u hj => RP3.out.src.cell _ rfl j u hj⟩
  · intro w4 hg4 hb4
    have hb4' : Below h' w3 w4 := ((Below.refl _ w3).drew).trans hb4
    have B4 : Bl w w4 := Below.trans B3 (hb4'.mono hgw)
    have kd4 : Blk w4 h' (splice dd.toList 4 (p.map (Value.int .u8))).toArray 5 := ⟨hg4.out⟩
    have KD4 := Lib.hid kd4
    clear hg4 hb4 hb4' kd4 kd3 ks3 q6 s2
    refine NoPanic.normal ?_
    go_wp2_with fail
    go_ret
    have hk := HK.out
    have hdl : 4 ≤ dd.toList.length := by simp [hcz]; omega
    refine ⟨h', rfl, B4, hgw, ⟨by simp [hpl]; omega, Nat.le_refl _, fun i hi => ⟨h', 0, rfl, ?_⟩⟩⟩
    rw [Nat.zero_add, KD4.out.cell, List.getElem?_toArray]
    by_cases h4i : i < 4
    · rw [splice_lo _ _ _ _ hdl h4i, Array.getElem?_toList, H0'.out i h4i]
      match i, h4i with
      | 0, _ => rfl
      | 1, _ => rfl
      | 2, _ => rfl
      | 3, _ => rfl
    · obtain ⟨j, rfl⟩ : ∃ j, i = 4 + j := ⟨i - 4, by omega⟩
      by_cases hj : j < m
      · rw [splice_mid _ _ _ _ hdl (by simp [hpl]; omega), List.getElem?_map, List.getElem?_eq_getElem (by omega)]
        have e4 : ∀ (a b c d : Int) (t : List Int), (a :: b :: c :: d :: t).getD (4 + j) 0 = t.getD j 0 := fun a b c d t => by rw [Nat.add_comm]; rfl
        have e5 := e4 (T / 256) (T % 256) ((4 + (m : Int)) / 256) ((4 + (m : Int)) % 256) (p ++ List.replicate (k - (4 + m)) 0)
        refine Eq.trans ?_ (congrArg (fun x => some (Value.int IntKind.u8 x)) e5.symm)
        rw [List.getD_eq_getElem?_getD, List.getElem?_append_left (by omega)]
        simp [List.getElem?_eq_getElem (show j < p.length by omega)]
      · obtain ⟨r, rfl⟩ : ∃ r, j = m + r := ⟨j - m, by omega⟩
        have e := splice_hi dd.toList (p.map (Value.int .u8)) 4 r hdl
        rw [List.length_map, hpl] at e
        rw [show 4 + (m + r) = 4 + m + r by omega, e, Array.getElem?_toList, show 4 + m + r = 4 + (m + r) by omega, H4'.out (m + r)]
        have e4 : ∀ (a b c d : Int) (t : List Int), (a :: b :: c :: d :: t).getD (4 + (m + r)) 0 = t.getD (m + r) 0 := fun a b c d t => by rw [Nat.add_comm]; rfl
        have e5 := e4 (T / 256) (T % 256) ((4 + (m : Int)) / 256) ((4 + (m : Int)) % 256) (p ++ List.replicate (k - (4 + m)) 0)
        refine Eq.trans ?_ (congrArg (fun x => some (Value.int IntKind.u8 x)) e5.symm)
        rw [List.getD_eq_getElem?_getD, List.getElem?_append_right (by omega), hpl, Nat.add_sub_cancel_left, List.getElem?_replicate]
        rw [if_pos (by omega)]
        simp [zs, show 4 + (m + r) < k by omega]
end Go.Proofs.Ytoljdgfbkebgcaa
