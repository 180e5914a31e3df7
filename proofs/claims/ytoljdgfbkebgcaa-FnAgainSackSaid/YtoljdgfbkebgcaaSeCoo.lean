/- SerializeTo: sctpcookieecho. -/
import Derived.Test.YtoljdgfbkebgcaaSpl
import Derived.Test.YtoljdgfbkebgcaaChk
import Derived.Deep.RegionWith
namespace Go.Proofs.Ytoljdgfbkebgcaa
open Go.RowKit
theorem nilPre (a : Addr) (w : World) : (nilAhead 307 141 (.pointer (some a)) "PrependBytes").run Try.prog w = .ok (some false) w := by kernel_rfl
set_option maxHeartbeats 2000000 in
set_option maxRecDepth 100000 in
theorem seCoo_any (gb : Nat) (A : Option Addr) (n c : Nat) (app : Int) (l : List Int) (x0 x1 L U : Int) (A5 : Option Addr) (m c5 : Nat) (p : List Int) (o1 o2 : Bool) (w : World) (kb : Blk w gb (bfC A n c 0 app) 144) (h : Rd .u8 w A n c l) (hA : InF (· ≠ gb) A n) (hc : c ≤ 100000) (b0 : 0 ≤ x0 ∧ x0 ≤ 255) (b1 : 0 ≤ x1 ∧ x1 ≤ 255) (hp : Rd .u8 w A5 m c5 p) (hA5 : InF (· ≠ gb) A5 m) (hm : m ≤ 1000) (hk4 : up4 (4 + m) = 4 + m) :
    Calls Try.prog 133 #[.agg #[.slice none 0 0, .slice none 0 0, .int .u8 x0, .int .u8 x1, .int .u16 L, .int .i64 U, .slice A5 m c5], .iface 141 (.pointer (some ⟨gb, 0, none⟩)), .agg #[.bool o1, .bool o2]] w fun e w' =>
      ∃ h', e = .returned .nilIface ∧ w.heap.size ≤ h' ∧ Chg gb w w' ∧ Blk w' gb (bfC (some ⟨h', 0, none⟩) (4 + m + n) (c + (4 + m)) (4 + m : Nat) app) 144 ∧ Rd .u8 w' (some ⟨h', 0, none⟩) (4 + m + n) (c + (4 + m)) (([x0, x1, (4 + (m : Int)) / 256, (4 + (m : Int)) % 256] ++ p) ++ l) := by
  have H := Lib.hid h
  have HA := Lib.hid hA
  have HP := Lib.hid hp
  have HA5 := Lib.hid hA5
  have K := Lib.hid kb
  have hcap := h.cap
  have hl := h.len
  have hpl := hp.len
  have kz := kb.lt
  have e2 : ((4 : Int) + m + 3) / 4 * 4 = (4 : Int) + m := by unfold up4 at hk4; omega
  obtain ⟨k, hk⟩ : ∃ k, k = 4 + m := ⟨_, rfl⟩
  rw [← hk]
  have hU4 : 4 ≤ k ∧ 4 + m ≤ k ∧ k ≤ 4 + m := by omega
  have HK := Lib.hid hk
  have hki : (4 : Int) + m = (k : Int) := by omega
  have HKI := Lib.hid hki
  clear hk hki hk4
  clear h hA kb hp hA5
  go_enter Try.func133, Try.ntmps133
  go_wp2_with fail
  have B0 : Bl w ((w.alloc (.cells #[.slice none 0 0, .slice none 0 0, .int .u8 x0, .int .u8 x1, .int .u16 L, .int .i64 U, .slice A5 m c5] 138)).alloc (.cells #[.bool o1, .bool o2] 71)) := by go_grown
  have ks : Blk ((w.alloc (.cells #[.slice none 0 0, .slice none 0 0, .int .u8 x0, .int .u8 x1, .int .u16 L, .int .i64 U, .slice A5 m c5] 138)).alloc (.cells #[.bool o1, .bool o2] 71)) w.heap.size #[.slice none 0 0, .slice none 0 0, .int .u8 x0, .int .u8 x1, .int .u16 L, .int .i64 U, .slice A5 m c5] 138 := (Blk.new w _ _).alloc _
  generalize hW : ((w.alloc (.cells #[.slice none 0 0, .slice none 0 0, .int .u8 x0, .int .u8 x1, .int .u16 L, .int .i64 U, .slice A5 m c5] 138)).alloc (.cells #[.bool o1, .bool o2] 71)) = W at *
  have hgs : w.heap.size ≠ gb := Nat.ne_of_gt kz
  have hgW : w.heap.size < W.heap.size := ks.lt
  clear hW
  have HE2 := Lib.hid e2
  clear e2
  have hna := nilPre ⟨gb, 0, none⟩
  have B0' : Bl w W.drew := B0.drew
  go_region_with (first
    | (go_at_call 93; (with_reducible refine (round_any _ (by omega) (by omega) _).mono ?_); rintro e w1 ⟨rfl, rfl⟩; rw [HE2.out])
    | (go_at_call 140; (with_reducible refine (prependB gb A n c k _ app l W.drew (K.out.below B0') (H.out.below B0') HA.out HKI.out (by omega) (by omega) hc).mono ?_); rintro e w1 ⟨rfl, ch1, kb1, kd1⟩))
  all_goals
    have X1 : Chg gb w w1 := (Chg.of B0').trans ch1
    have ks1 := (ks.same (w' := W.drew) rfl).chg ch1 hgs
    have hgh : W.heap.size ≠ gb := by omega
    have hgh2 : w.heap.size ≠ W.heap.size := by omega
    have hle : w.heap.size ≤ W.heap.size := by omega
    have hsz := splice_size c k n l hl hcap
    have kd1' : Blk w1 W.heap.size (splice (zs (c + k)).toList k (l.map (Value.int .u8))).toArray 5 := kd1
    have kb1' : Blk w1 gb (bfC (some ⟨W.heap.size, 0, none⟩) (k + n) (c + k) k app) 144 := kb1
    generalize hcs : (splice (zs (c + k)).toList k (l.map (Value.int .u8))).toArray = cs at *
    have HCS := Lib.hid hcs
    obtain ⟨u0, e0⟩ : ∃ u, cs[0]? = some u := ⟨_, Array.getElem?_eq_getElem (by omega)⟩
    obtain ⟨u1, e1⟩ : ∃ u, cs[1]? = some u := ⟨_, Array.getElem?_eq_getElem (by omega)⟩
    have c0 : w1.cell? ⟨W.heap.size, 0, none⟩ = some u0 := (kd1'.cell 0).trans e0
    have c1 : w1.cell? ⟨W.heap.size, 1, none⟩ = some u1 := (kd1'.cell 1).trans e1
    have f0 := kd1'.frozen 0
    have f1 := kd1'.frozen 1
    have cs1 := ks1.cell
    have zs1 := ks1.lt
    have zd1 := kd1'.lt
    have KB1 := Lib.hid kb1'
    have KD1 := Lib.hid kd1'
    have KS1 := Lib.hid ks1
    have RP := Lib.hid (HP.out.chg X1 HA5.out)
    clear kb1 kd1 kb1' kd1' ks1 hcs e0 e1 ks ch1
    generalize W.heap.size = h' at *
    go_wp2_with fail
    have X2 : Chg gb w ((w1.setCell ⟨h', 0, none⟩ (.int .u8 x0)).setCell ⟨h', 1, none⟩ (.int .u8 x1)) := (X1.new (p := ⟨h', 0, none⟩) hle _).new (p := ⟨h', 1, none⟩) hle _
    have kd2 := (KD1.out.set 0 (.int .u8 x0)).set 1 (.int .u8 x1)
    have kb2 := (KB1.out.far (p := ⟨h', 0, none⟩) (Ne.symm hgh) (.int .u8 x0)).far (p := ⟨h', 1, none⟩) (Ne.symm hgh) (.int .u8 x1)
    have ks2 := (KS1.out.far (p := ⟨h', 0, none⟩) hgh2 (.int .u8 x0)).far (p := ⟨h', 1, none⟩) hgh2 (.int .u8 x1)
    clear c0 c1 f0 f1 cs1 zs1 zd1
    generalize ((w1.setCell ⟨h', 0, none⟩ (.int .u8 x0)).setCell ⟨h', 1, none⟩ (.int .u8 x1)) = W0 at *
    have s0 := run_cut (some ⟨h', 0, none⟩) k (c + k) 2 4 2 4 rfl rfl (by omega) (by omega) 24 Try.underlying24 size5
    have sa0 : cutA (some ⟨h', 0, none⟩) (c + k) 2 = some ⟨h', 2, none⟩ := by unfold cutA; rw [if_neg (by omega)]; rfl
    rw [sa0] at s0
    refine wp_region_float (S := Grw W0) [true, true, true, true, true, false] 5 (by kernel_rfl) (by kernel_rfl) (Grw.drew W0) ?_
    simp only [selQ, selN, earlyN]
    repeat (first | go_big_quiet_skip | (go_big_quiet_want; go_big_quiet_op; go_big_quiet_on))
    refine wpQuiet_nil ?_
    refine wpN_late ?_
    go_wp2_with fail
    (with_reducible refine (put16_any h' 2 _ _ _ _ (kd2.same (w' := W0.drew) rfl) (by simp only [Array.size_setIfInBounds]; omega) (by omega)).mono ?_)
    rintro e w2 ⟨rfl, ch2, kd3⟩
    have X3 : Chg gb w w2 := ⟨ch2.os.trans X2.os, ch2.tape.trans X2.tape, ch2.output.trans X2.output, Nat.le_trans X2.size ch2.size, fun i hi hlt => (ch2.block i (by omega) (Nat.lt_of_lt_of_le hlt X2.size)).trans (X2.block i hi hlt)⟩
    have kb3 := (kb2.same (w' := W0.drew) rfl).chg ch2 (Ne.symm hgh)
    have ks3 := (ks2.same (w' := W0.drew) rfl).chg ch2 hgh2
    clear s0 sa0 ch2
    go_wp2_with fail
    refine NoPanic.normal ?_
    go_wp2_with fail
    have HK4 := HK.out
    have hk4 : 4 ≤ k := hU4.1
    have RP3 := Lib.hid ((HP.out.chg X3 HA5.out).below ((Bl.refl w2).drew))
    have zh : h' < w2.heap.size := kd3.lt
    have q6 : ∀ d os, (Sort.grow (redrawn w2 d) os).cell? ⟨w.heap.size, 6, none⟩ = some (.slice A5 m c5) := fun d os => cell_regrown (ks3.cell 6) d os
    have s1 := run_cut_l (some ⟨h', 0, none⟩) k (c + k) 4 4 rfl hk4 24 Try.underlying24 size5
    have HKh := Lib.hid HK4
    clear HK4
    refine wp_region_float (S := Grw w2) [true, true, true, true, false] 4 (by kernel_rfl) (by kernel_rfl) (Grw.drew w2) ?_
    simp only [selQ, selN, earlyN]
    repeat (first | go_big_quiet_skip | (go_big_quiet_want; go_big_quiet_op; go_big_quiet_on))
    refine wpQuiet_nil ?_
    refine wpN_late ?_
    have hcl : (((cs.setIfInBounds 0 (.int .u8 x0)).setIfInBounds 1 (.int .u8 x1)).setIfInBounds 2 (.int .u8 ((4 + (m : Int)) / 256))).setIfInBounds (2 + 1) (.int .u8 ((4 + (m : Int)) % 256)) = (((cs.setIfInBounds 0 (.int .u8 x0)).setIfInBounds 1 (.int .u8 x1)).setIfInBounds 2 (.int .u8 ((4 + (m : Int)) / 256))).setIfInBounds (2 + 1) (.int .u8 ((4 + (m : Int)) % 256)) := rfl
    have hcz : ((((cs.setIfInBounds 0 (.int .u8 x0)).setIfInBounds 1 (.int .u8 x1)).setIfInBounds 2 (.int .u8 ((4 + (m : Int)) / 256))).setIfInBounds (2 + 1) (.int .u8 ((4 + (m : Int)) % 256))).size = c + k := by simp only [Array.size_setIfInBounds]; exact hsz
    have H0' : Hid (∀ i, i < 4 → ((((cs.setIfInBounds 0 (.int .u8 x0)).setIfInBounds 1 (.int .u8 x1)).setIfInBounds 2 (.int .u8 ((4 + (m : Int)) / 256))).setIfInBounds (2 + 1) (.int .u8 ((4 + (m : Int)) % 256)))[i]? = some (.int .u8 ([x0, x1, (4 + (m : Int)) / 256, (4 + (m : Int)) % 256].getD i 0))) := Lib.hid (by
      intro i hi
      match i, hi with
      | 0, _ => simp [Array.getElem?_setIfInBounds, show 0 < cs.size by omega]
      | 1, _ => simp [Array.getElem?_setIfInBounds, show 1 < cs.size by omega]
      | 2, _ => simp [Array.getElem?_setIfInBounds, show 2 < cs.size by omega]
      | 3, _ => simp [Array.getElem?_setIfInBounds, show 3 < cs.size by omega])
    have H4' : Hid (∀ i, ((((cs.setIfInBounds 0 (.int .u8 x0)).setIfInBounds 1 (.int .u8 x1)).setIfInBounds 2 (.int .u8 ((4 + (m : Int)) / 256))).setIfInBounds (2 + 1) (.int .u8 ((4 + (m : Int)) % 256)))[4 + i]? = cs[4 + i]?) := Lib.hid (by
      intro i
      repeat rw [Array.getElem?_setIfInBounds_ne (by omega)])
    clear hcl
    generalize (((cs.setIfInBounds 0 (.int .u8 x0)).setIfInBounds 1 (.int .u8 x1)).setIfInBounds 2 (.int .u8 ((4 + (m : Int)) / 256))).setIfInBounds (2 + 1) (.int .u8 ((4 + (m : Int)) % 256)) = dd at *
    have hkm : k - 4 = m := by have := HKh.out; omega
    refine wpList_copy_splice rfl (.tmp 44) (.tmp 46) 24 24 rfl 5 Try.underlying24 info5s (cutA (some ⟨h', 0, none⟩) (c + k) 4) A5 (k - 4) (c + k - 4) m c5 (by rfl) (by rfl) h' 4 dd.toList 5 (by rw [Array.toArray_toList]; exact kd3.heap) (p.map (Value.int .u8)) (by rw [List.length_map, hpl, hkm]; exact (Nat.min_self m).symm) ?_ (by simp [hcz, hpl]; omega) (fun u hu => by simp at hu; obtain ⟨x, _, rfl⟩ := hu; rfl) h' w2.drew (Below.refl _ _) (Nat.le_refl _) ?_
    · intro hpos
      have hn : 0 < m := by simpa [hpl] using hpos
      refine ⟨by unfold cutA; rw [if_neg (by omega)]; simp [add_add], ?_⟩
      obtain ⟨g, o, rfl, _, hc'⟩ := RP3.out.at hn
      exact ⟨_, rfl, fun j u hj => RP3.out.src.cell _ rfl j u hj⟩
    · intro w3 hg3 hb3
      have hb3' : Below h' w2 w3 := ((Below.refl _ w2).drew).trans hb3
      have hgbh : gb < h' := Nat.lt_of_lt_of_le kz hle
      have kb4 : Blk w3 gb (bfC (some ⟨h', 0, none⟩) (k + n) (c + k) k app) 144 := ⟨(hb3'.block gb hgbh).trans kb3.heap⟩
      have X4 : Chg gb w w3 := ⟨hb3'.os.trans X3.os, hb3'.tape.trans X3.tape, hb3'.output.trans X3.output, Nat.le_trans X3.size hb3'.size, fun i hi hlt => (hb3'.block i (Nat.lt_of_lt_of_le hlt hle)).trans (X3.block i hi hlt)⟩
      have kd4 : Blk w3 h' (splice dd.toList 4 (p.map (Value.int .u8))).toArray 5 := ⟨hg3.out⟩
      have KB4 := Lib.hid kb4
      have KD4 := Lib.hid kd4
      clear hg3 hb3 hb3' kb4 kd4 kb3 kd3 ks3 q6 s1
      refine NoPanic.normal ?_
      go_wp2_with fail
      go_ret
      have hk := HKh.out
      have hdl : 4 ≤ dd.toList.length := by simp [hcz]; omega
      refine ⟨h', rfl, hle, X4, KB4.out, ser_rd (hd := [x0, x1, (4 + (m : Int)) / 256, (4 + (m : Int)) % 256] ++ p) KD4.out hl hcap (by simp [hpl]; omega) ?_ ?_⟩
      · intro i hi
        rw [List.getElem?_toArray]
        by_cases h4i : i < 4
        · rw [splice_lo _ _ _ _ hdl h4i, Array.getElem?_toList, H0'.out i h4i]
          rw [List.getD_eq_getElem?_getD, List.getD_eq_getElem?_getD, List.getElem?_append_left (by simpa using h4i)]
        · obtain ⟨j, rfl⟩ : ∃ j, i = 4 + j := ⟨i - 4, by omega⟩
          rw [splice_mid _ _ _ _ hdl (by simp [hpl]; omega), List.getElem?_map, List.getElem?_eq_getElem (by omega)]
          rw [List.getD_eq_getElem?_getD, List.getElem?_append_right (by simp)]
          simp [show 4 + j - 4 = j by omega, List.getElem?_eq_getElem (show j < p.length by omega)]
      · intro i
        rw [List.getElem?_toArray]
        have e := splice_hi dd.toList (p.map (Value.int .u8)) 4 i hdl
        rw [List.length_map, hpl, ← hk] at e
        rw [e, Array.getElem?_toList, HCS.out, show k + i = 4 + (m + i) by omega]
        exact H4'.out (m + i)
end Go.Proofs.Ytoljdgfbkebgcaa
