/- impl.parameter: a parameter told. -/
import Derived.Test.YtoljdgfbkebgcaaApp
import Derived.Test.YtoljdgfbkebgcaaFlo2
namespace Go.Proofs.Ytoljdgfbkebgcaa
open Go.RowKit
set_option maxHeartbeats 4000000 in
set_option maxRecDepth 100000 in
theorem par_any (T L U : Int) (A : Option Addr) (n c : Nat) (l : List Int) (w : World) (h : Rd .u8 w A n c l) (hl : By l) (hn : n ≤ 2000) (b0 : 0 ≤ T ∧ T ≤ 65535) (b1 : 0 ≤ L ∧ L ≤ 65535) (b2 : 0 ≤ U ∧ U ≤ 100000) :
    Calls Try.prog 72 #[.agg #[.int .u16 T, .int .u16 L, .int .i64 U, .slice A n c]] w fun e w' => ∃ v0 v1, e = .returned (.agg #[v0, v1]) ∧ Bl w w' ∧ NumV (w.heap.size ≤ ·) w' v0 [T, L, U] ∧ BytV (w.heap.size ≤ ·) w' v1 l := by
  have H := Lib.hid h
  have HB := Lib.hid hl
  clear h hl
  go_enter Try.func72, Try.ntmps72
  go_wp2_with fail
  have kb : Blk ((w.alloc (.cells #[.int .u16 T, .int .u16 L, .int .i64 U, .slice A n c] 111)).alloc (.cells #[.slice none 0 0, .slice none 0 0] 57)) w.heap.size #[.int .u16 T, .int .u16 L, .int .i64 U, .slice A n c] 111 := (Blk.new w _ _).alloc _
  have kr : Blk ((w.alloc (.cells #[.int .u16 T, .int .u16 L, .int .i64 U, .slice A n c] 111)).alloc (.cells #[.slice none 0 0, .slice none 0 0] 57)) (w.heap.size + 1) #[.slice none 0 0, .slice none 0 0] 57 := Blk.newAt _ _ _ _ (by simp)
  have B0 : Bl w ((w.alloc (.cells #[.int .u16 T, .int .u16 L, .int .i64 U, .slice A n c] 111)).alloc (.cells #[.slice none 0 0, .slice none 0 0] 57)) := by go_grown
  generalize (w.alloc (.cells #[.int .u16 T, .int .u16 L, .int .i64 U, .slice A n c] 111)).alloc (.cells #[.slice none 0 0, .slice none 0 0] 57) = W at *
  have hz := kr.lt
  have hzw : w.heap.size ≤ w.heap.size + 1 := Nat.le_succ _
  generalize w.heap.size + 1 = gr at *
  have k0 : ∀ d os, (Sort.grow (redrawn W d) os).cell? ⟨w.heap.size, 0, none⟩ = some (.int .u16 T) := fun d os => cell_regrown (kb.cell 0) d os
  have k1 : ∀ d os, (Sort.grow (redrawn W d) os).cell? ⟨w.heap.size, 1, none⟩ = some (.int .u16 L) := fun d os => cell_regrown (kb.cell 1) d os
  have k2 : ∀ d os, (Sort.grow (redrawn W d) os).cell? ⟨w.heap.size, 2, none⟩ = some (.int .i64 U) := fun d os => cell_regrown (kb.cell 2) d os
  have k3 : ∀ d os, (Sort.grow (redrawn W d) os).cell? ⟨w.heap.size, 3, none⟩ = some (.slice A n c) := fun d os => cell_regrown (kb.cell 3) d os
  refine wp_region_float2 (S := Grw W) [true, true, true, true, true, true, true, true, true, false, true, true, false, false, false] [true, true, true, true, true, true, true, true, true, true, true, true, true, false, false] 9 12 13 (by kernel_rfl) (by kernel_rfl) (Grw.drew W) ?_
  simp only [selQ, selN, earlyN, pickL, List.cons_append, List.nil_append]
  repeat (first | go_big_quiet_skip | (go_big_quiet_want; go_big_quiet_op; go_big_quiet_on))
  have Bd : Bl W W.drew := (Bl.refl W).drew
  refine wpQuiet_nil ⟨?_, ?_⟩
  · refine wpN_want rfl (fun K hK => ?_)
    go_big_op
    have B1 : Bl W ((W.alloc (.cells #[.int .u64 T, .int .u64 L, .int .u64 U] 26)).drew) := ((Bl.refl W).trans (by go_grown)).drew
    have kn1 : Blk ((W.alloc (.cells #[.int .u64 T, .int .u64 L, .int .u64 U] 26)).drew) W.heap.size #[.int .u64 T, .int .u64 L, .int .u64 U] 26 := (Blk.new W _ _).same rfl
    have hs1 : W.heap.size ≤ ((W.alloc (.cells #[.int .u64 T, .int .u64 L, .int .u64 U] 26)).drew).heap.size := B1.size
    refine hK _ _ (Grw.of B1) ?_
    clear hK K
    refine wpN_want rfl (fun K hK => ?_)
    go_big_op
    (with_reducible refine (clone_any _ _ _ _ _ (H.out.below (B0.trans B1)) (by omega)).mono ?_)
    rintro e w2 ⟨⟨A1, c1, rfl, ho⟩, hb2⟩
    have BX : Bl W w2 := B1.trans hb2
    have kn := Blk.keep hb2 kn1
    refine hK _ _ (Grw.of BX) ?_
    clear hK K hb2 kn1 B1
    have kr2 := Blk.keep BX kr
    have cr := kr2.cell
    have fr := kr2.frozen
    have zr := kr2.lt
    have KN := Lib.hid kn
    have HO := Lib.hid ho
    clear kn ho k0 k1 k2 k3
    refine wpN_late ?_
    go_wp2_with fail
    refine NoPanic.normal ?_
    go_wp2_with fail
    have kf := (kr2.set 0 (.slice (some ⟨W.heap.size, 0, none⟩) 3 3)).set 1 (.slice A1 n c1)
    have cf := kf.cell
    have hng : W.heap.size ≠ gr := by omega
    have hgw : w.heap.size ≤ W.heap.size := by omega
    have knf := (KN.out.far (p := ⟨gr, 0, none⟩) hng (.slice (some ⟨W.heap.size, 0, none⟩) 3 3)).far (p := ⟨gr, 1, none⟩) hng (.slice A1 n c1)
    have ho1 := own_set HO.out kr2 (by decide) 0 (.slice (some ⟨W.heap.size, 0, none⟩) 3 3)
    have ho2 := own_set ho1 (kr2.set 0 (.slice (some ⟨W.heap.size, 0, none⟩) 3 3)) (by decide) 1 (.slice A1 n c1)
    have BF := Below.setCell (Below.setCell (B0.trans BX) (p := ⟨gr, 0, none⟩) hzw (.slice (some ⟨W.heap.size, 0, none⟩) 3 3)) (p := ⟨gr, 1, none⟩) hzw (.slice A1 n c1)
    clear cr fr zr
    refine bodyPost_ret (v := .agg #[.slice (some ⟨W.heap.size, 0, none⟩) 3 3, .slice A1 n c1]) (by simp [results, Try.results72, go_sem, cf]) rfl ⟨_, _, rfl, BF, NumV.of_block [T, L, U] hgw knf.heap rfl rfl, own_bytV ho2 HB.out (fun k hk _ => by first | omega | (simp at hk; omega))⟩
  · refine wpN_want rfl (fun K hK => ?_)
    go_big_op
    (with_reducible refine (clone_any _ _ _ _ _ (H.out.below (B0.trans Bd)) (by omega)).mono ?_)
    rintro e w2 ⟨⟨A1, c1, rfl, ho'⟩, hb2⟩
    have B1 : Bl W w2 := Bd.trans hb2
    have hs1 : W.heap.size ≤ w2.heap.size := B1.size
    refine hK _ _ (Grw.of B1) ?_
    clear hK K
    refine wpN_want rfl (fun K hK => ?_)
    go_big_op
    have BX : Bl W (w2.alloc (.cells #[.int .u64 T, .int .u64 L, .int .u64 U] 26)) := B1.trans (by go_grown)
    have kn : Blk (w2.alloc (.cells #[.int .u64 T, .int .u64 L, .int .u64 U] 26)) w2.heap.size #[.int .u64 T, .int .u64 L, .int .u64 U] 26 := Blk.new w2 _ _
    have ho := own_bl ho' (show Bl w2 (w2.alloc (.cells #[.int .u64 T, .int .u64 L, .int .u64 U] 26)) by go_grown)
    refine hK _ _ (Grw.of BX) ?_
    clear hK K hb2 ho'
    have kr2 := Blk.keep BX kr
    have cr := kr2.cell
    have fr := kr2.frozen
    have zr := kr2.lt
    have KN := Lib.hid kn
    have HO := Lib.hid ho
    clear kn ho k0 k1 k2 k3
    refine wpN_late ?_
    go_wp2_with fail
    refine NoPanic.normal ?_
    go_wp2_with fail
    have kf := (kr2.set 0 (.slice (some ⟨w2.heap.size, 0, none⟩) 3 3)).set 1 (.slice A1 n c1)
    have cf := kf.cell
    have hng : w2.heap.size ≠ gr := by omega
    have hgw : w.heap.size ≤ w2.heap.size := by omega
    have knf := (KN.out.far (p := ⟨gr, 0, none⟩) hng (.slice (some ⟨w2.heap.size, 0, none⟩) 3 3)).far (p := ⟨gr, 1, none⟩) hng (.slice A1 n c1)
    have ho1 := own_set HO.out kr2 (by decide) 0 (.slice (some ⟨w2.heap.size, 0, none⟩) 3 3)
    have ho2 := own_set ho1 (kr2.set 0 (.slice (some ⟨w2.heap.size, 0, none⟩) 3 3)) (by decide) 1 (.slice A1 n c1)
    have BF := Below.setCell (Below.setCell (B0.trans BX) (p := ⟨gr, 0, none⟩) hzw (.slice (some ⟨w2.heap.size, 0, none⟩) 3 3)) (p := ⟨gr, 1, none⟩) hzw (.slice A1 n c1)
    clear cr fr zr
    refine bodyPost_ret (v := .agg #[.slice (some ⟨w2.heap.size, 0, none⟩) 3 3, .slice A1 n c1]) (by simp [results, Try.results72, go_sem, cf]) rfl ⟨_, _, rfl, BF, NumV.of_block [T, L, U] hgw knf.heap rfl rfl, own_bytV ho2 HB.out (fun k hk _ => by first | omega | (simp at hk; omega))⟩
end Go.Proofs.Ytoljdgfbkebgcaa
