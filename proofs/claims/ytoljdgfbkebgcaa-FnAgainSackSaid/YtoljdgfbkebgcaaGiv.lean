/- impl.given: a part as a parameter. -/
import Derived.Test.YtoljdgfbkebgcaaTake2
import Derived.Test.YtoljdgfbkebgcaaFlo4
import Derived.Test.YtoljdgfbkebgcaaHeld
import Derived.Test.YtoljdgfbkebgcaaDecHea
namespace Go.Proofs.Ytoljdgfbkebgcaa
open Go.RowKit
def GivS (gp : Nat) (v : Value) (V : World) : Prop := V.cell? ⟨gp, 1, none⟩ = some v
def GivT (g5 : Nat) (T L U : Int) (v : Value) (V : World) : Prop := V.cell? ⟨g5, 0, none⟩ = some (.int .u16 T) ∧ V.cell? ⟨g5, 1, none⟩ = some (.int .u16 L) ∧ V.cell? ⟨g5, 2, none⟩ = some (.int .i64 U) ∧ V.cell? ⟨g5, 3, none⟩ = some v
set_option maxHeartbeats 4000000 in
set_option maxRecDepth 100000 in
theorem given_any (T L U : Int) (A0 A1 : Option Addr) (c0 m c1 : Nat) (p : List Int) (w : World) (hu : Rd .u64 w A0 3 c0 [T, L, U]) (hp : Rd .u8 w A1 m c1 p) (hm : m ≤ 2000) (b0 : 0 ≤ T ∧ T ≤ 65535) (b1 : 0 ≤ L ∧ L ≤ 65535) (b2 : 0 ≤ U ∧ U ≤ 100000) :
    Calls Try.prog 59 #[.agg #[.slice A0 3 c0, .slice A1 m c1]] w fun e w' => ∃ A5 c5, e = .returned (.tuple #[.agg #[.int .u16 T, .int .u16 L, .int .i64 U, .slice A5 m c5], .bool true]) ∧ Bl w w' ∧ w'.ownsRow w.heap.size 5 1 (.slice A5 m c5) m (p.map (Value.int .u8)) := by
  have HP := Lib.hid hp
  have HNE : Hid (InF (· ≠ w.heap.size + 1 + 1) A0 3) := Lib.hid (hu.inF.mono fun _ h => by omega)
  have hu0 := hu
  have b2' : 0 ≤ U ∧ U ≤ 4294967295 := ⟨b2.1, by omega⟩
  clear hp hu
  have HU0 := Lib.hid hu0
  clear hu0
  go_enter Try.func59, Try.ntmps59
  go_wp2_with fail
  have BW : Bl w (((w.alloc (.cells #[.slice A0 3 c0, .slice A1 m c1] 57)).alloc (.cells #[.int .u16 0, .int .u16 0, .int .i64 0, .slice none 0 0] 111)).alloc (.cells #[.slice A0 3 c0, .slice none 0 0, .slice none 0 0, .slice none 0 0, .int .i64 0, .int .i64 0, .bool false, .bool false] 89)) := by go_grown
  have kb : Blk (((w.alloc (.cells #[.slice A0 3 c0, .slice A1 m c1] 57)).alloc (.cells #[.int .u16 0, .int .u16 0, .int .i64 0, .slice none 0 0] 111)).alloc (.cells #[.slice A0 3 c0, .slice none 0 0, .slice none 0 0, .slice none 0 0, .int .i64 0, .int .i64 0, .bool false, .bool false] 89)) w.heap.size #[.slice A0 3 c0, .slice A1 m c1] 57 := ((Blk.new w _ _).alloc _).alloc _
  have kr : Blk (((w.alloc (.cells #[.slice A0 3 c0, .slice A1 m c1] 57)).alloc (.cells #[.int .u16 0, .int .u16 0, .int .i64 0, .slice none 0 0] 111)).alloc (.cells #[.slice A0 3 c0, .slice none 0 0, .slice none 0 0, .slice none 0 0, .int .i64 0, .int .i64 0, .bool false, .bool false] 89)) (w.heap.size + 1) #[.int .u16 0, .int .u16 0, .int .i64 0, .slice none 0 0] 111 := (Blk.newAt _ _ _ _ (by simp)).alloc _
  have ktW : Blk (((w.alloc (.cells #[.slice A0 3 c0, .slice A1 m c1] 57)).alloc (.cells #[.int .u16 0, .int .u16 0, .int .i64 0, .slice none 0 0] 111)).alloc (.cells #[.slice A0 3 c0, .slice none 0 0, .slice none 0 0, .slice none 0 0, .int .i64 0, .int .i64 0, .bool false, .bool false] 89)) (w.heap.size + 1 + 1) (tkC A0 3 c0 (.slice none 0 0) (.slice none 0 0) (.slice none 0 0) 0 0 false) 89 := Blk.newAt _ _ _ _ (by simp)
  have hnpt : w.heap.size ≠ w.heap.size + 1 + 1 := by omega
  have hgt0 : w.heap.size ≤ w.heap.size + 1 + 1 := by omega
  have hrt : w.heap.size + 1 ≠ w.heap.size + 1 + 1 := by omega
  have hgr0 : w.heap.size ≤ w.heap.size + 1 := by omega
  have hrlt : w.heap.size + 1 < w.heap.size + 1 + 1 := by omega
  have HU := Lib.hid (HU0.out.below BW)
  generalize (((w.alloc (.cells #[.slice A0 3 c0, .slice A1 m c1] 57)).alloc (.cells #[.int .u16 0, .int .u16 0, .int .i64 0, .slice none 0 0] 111)).alloc (.cells #[.slice A0 3 c0, .slice none 0 0, .slice none 0 0, .slice none 0 0, .int .i64 0, .int .i64 0, .bool false, .bool false] 89)) = W at *
  generalize hgp : w.heap.size = gp at *
  generalize gp + 1 + 1 = gt at *
  generalize gp + 1 = gr at *
  have ztW := ktW.lt
  have zrW := kr.lt
  have X0 : Chg gt W W.drew := (Chg.refl gt W).drewN 1
  have kt0 : Blk W.drew gt (tkC A0 3 c0 (.slice none 0 0) (.slice none 0 0) (.slice none 0 0) 0 0 false) 89 := ktW.same rfl
  have q0 : ∀ p : HoldT (GivS gp (.slice A1 m c1)), p.val.cell? ⟨gp, 1, none⟩ = some (.slice A1 m c1) := fun p => p.ok
  have mk : ∀ {V : World}, Blk V gp #[.slice A0 3 c0, .slice A1 m c1] 57 → HoldS (GivS gp (.slice A1 m c1)) V := fun k1 => HoldS.of (k1.cell 1)
  haveI hne9 : Nonempty (HoldT (GivS gp (.slice A1 m c1))) := ⟨⟨W, kb.cell 1⟩⟩
  refine wp_region_fplan (S := HoldS (GivS gp (.slice A1 m c1))) 13 [([0, 3, 6, 9, 10], 1), ([2], 4), ([5], 7), ([8], 11)] [12] [([], 14)] [([12], 14)] [] (by kernel_rfl) (by kernel_rfl) (mk (kb.same rfl)) ?_
  refine wpFl_cons ?_
  simp only [getL, pickL, List.cons_append, List.nil_append]
  repeat (first | go_big_quiet_skip | (go_big_quiet_want; go_big_quiet_op; go_big_quiet_on))
  refine wpQuiet_nil ⟨?f1, ?n1⟩
  case' f1 =>
    refine wpAct_want rfl (fun K hK => ?_)
    go_big_op
    have kf1 : Blk (W.alloc (.cells #[.int .u16 0, .int .u16 0, .int .i64 0, .slice none 0 0] 111)).drew W.heap.size #[.int .u16 0, .int .u16 0, .int .i64 0, .slice none 0 0] 111 := (Blk.new _ _ _).same rfl
    have X1 : Chg gt W (W.alloc (.cells #[.int .u16 0, .int .u16 0, .int .i64 0, .slice none 0 0] 111)).drew := (Chg.of (show Bl W (W.alloc (.cells #[.int .u16 0, .int .u16 0, .int .i64 0, .slice none 0 0] 111)) by go_grown)).drewN 1
    have kt1 : Blk (W.alloc (.cells #[.int .u16 0, .int .u16 0, .int .i64 0, .slice none 0 0] 111)).drew gt (tkC A0 3 c0 (.slice none 0 0) (.slice none 0 0) (.slice none 0 0) 0 0 false) 89 := (ktW.alloc (.cells #[.int .u16 0, .int .u16 0, .int .i64 0, .slice none 0 0] 111)).same rfl
    have hg5 : W.heap.size ≤ W.heap.size := Nat.le_refl _
    have hne5 : W.heap.size ≠ gt := by omega
    refine hK _ _ (mk (kb.chg X1 hnpt)) ?_
    clear hK K
    refine wpAct_want rfl (fun K hK => ?_)
    go_big_op
    (with_reducible refine (take16 gt A0 3 c0 _ _ _ 0 _ 0 false _ T _ kt1 (HU.out.chg X1 HNE.out) HNE.out (by simp) (by omega) (by omega) rfl b0.1 b0.2).mono ?_)
    rintro e v2 ⟨rfl, ch2, kt2⟩
    have X2 := X1.trans ch2
    have kf2 := kf1.chg ch2 hne5
    refine hK _ _ (mk (kb.chg X2 hnpt)) ?_
    clear hK K
    refine wpGr_cons ?_
    simp only [getL, pickL, List.cons_append, List.nil_append]
    repeat (first | go_big_quiet_skip | (go_big_quiet_want; go_big_quiet_op; go_big_quiet_on))
    refine wpQuiet_nil ?_
    refine wpAct_want rfl (fun K hK => ?_)
    go_big_op
    (with_reducible refine (take16 gt A0 3 c0 _ _ _ 1 _ 0 false _ L _ kt2 (HU.out.chg X2 HNE.out) HNE.out (by simp) (by omega) (by omega) rfl b1.1 b1.2).mono ?_)
    rintro e v3 ⟨rfl, ch3, kt3⟩
    have X3 := X2.trans ch3
    have kf3 := kf2.chg ch3 hne5
    refine hK _ _ (mk (kb.chg X3 hnpt)) ?_
    clear hK K
    refine wpGr_cons ?_
    simp only [getL, pickL, List.cons_append, List.nil_append]
    repeat (first | go_big_quiet_skip | (go_big_quiet_want; go_big_quiet_op; go_big_quiet_on))
    refine wpQuiet_nil ?_
    refine wpAct_want rfl (fun K hK => ?_)
    go_big_op
    (with_reducible refine (take32 gt A0 3 c0 _ _ _ 2 _ 0 false _ U _ kt3 (HU.out.chg X3 HNE.out) HNE.out (by simp) (by omega) (by omega) rfl b2'.1 b2'.2).mono ?_)
    rintro e v4 ⟨rfl, ch4, kt4⟩
    have X4 := X3.trans ch4
    have kf4 := kf3.chg ch4 hne5
    refine hK _ _ (mk (kb.chg X4 hnpt)) ?_
    clear hK K
    refine wpGr_cons ?_
    simp only [getL, pickL, List.cons_append, List.nil_append]
    repeat (first | go_big_quiet_skip | (go_big_quiet_want; go_big_quiet_op; go_big_quiet_on))
    refine wpQuiet_nil ?_
    refine wpAct_want rfl (fun K hK => ?_)
    go_big_op
    have hszc : w.heap.size ≤ v4.heap.size := (X4.bl BW (by omega)).size
    (with_reducible refine (clone_any _ _ _ _ _ (HP.out.below (X4.bl BW (by omega))) (by omega)).mono ?_)
    rintro e v5 ⟨⟨A5, c5, rfl, hoo⟩, hb5⟩
    have X5 := X4.trans (Chg.of hb5)
    have kt5 := Blk.keep hb5 kt4
    have ho5 := own_mono hoo hszc
    have kf5 := Blk.keep hb5 kf4
    refine hK _ _ (mk (kb.chg X5 hnpt)) ?_
    clear hK K
    refine wpGr_cons ?_
    simp only [getL, pickL, List.cons_append, List.nil_append]
    repeat (first | go_big_quiet_skip | (go_big_quiet_want; go_big_quiet_op; go_big_quiet_on))
    refine wpQuiet_nil ?_
    have cf5 := kf5.cell
    have ff5 := kf5.frozen
    have zf5 := kf5.lt
    refine wpAct_want rfl (fun K hK => ?_)
    go_big_op
    have XZ := ((((X5.new (p := ⟨W.heap.size, 0, none⟩) hg5 (.int .u16 T)).new (p := ⟨W.heap.size, 1, none⟩) hg5 (.int .u16 L)).new (p := ⟨W.heap.size, 2, none⟩) hg5 (.int .i64 U)).new (p := ⟨W.heap.size, 3, none⟩) hg5 (.slice A5 m c5))
    have kfZ := ((((kf5.set 0 (.int .u16 T)).set 1 (.int .u16 L)).set 2 (.int .i64 U)).set 3 (.slice A5 m c5))
    simp only [List.setIfInBounds_toArray, List.set_cons_zero, List.set_cons_succ] at kfZ
    have ktZ := ((((kt5.far (p := ⟨W.heap.size, 0, none⟩) (Ne.symm hne5) (.int .u16 T)).far (p := ⟨W.heap.size, 1, none⟩) (Ne.symm hne5) (.int .u16 L)).far (p := ⟨W.heap.size, 2, none⟩) (Ne.symm hne5) (.int .i64 U)).far (p := ⟨W.heap.size, 3, none⟩) (Ne.symm hne5) (.slice A5 m c5))
    have hoS0 := own_set ho5 kf5 (by decide) 0 (.int .u16 T)
    have hoS1 := own_set hoS0 (kf5.set 0 (.int .u16 T)) (by decide) 1 (.int .u16 L)
    have hoS2 := own_set hoS1 ((kf5.set 0 (.int .u16 T)).set 1 (.int .u16 L)) (by decide) 2 (.int .i64 U)
    have hoS3 := own_set hoS2 (((kf5.set 0 (.int .u16 T)).set 1 (.int .u16 L)).set 2 (.int .i64 U)) (by decide) 3 (.slice A5 m c5)
    have hoZ := Lib.hid hoS3
    refine hK _ _ (mk (kb.chg XZ hnpt)) ?_
    clear hK K cf5 ff5 zf5 hoS0 hoS1 hoS2 hoS3
    generalize ((((v5.setCell ⟨W.heap.size, 0, none⟩ (.int .u16 T)).setCell ⟨W.heap.size, 1, none⟩ (.int .u16 L)).setCell ⟨W.heap.size, 2, none⟩ (.int .i64 U)).setCell ⟨W.heap.size, 3, none⟩ (.slice A5 m c5)) = WZ at *
    generalize hg5e : W.heap.size = g5 at *
  case' n1 =>
    refine wpAct_want rfl (fun K hK => ?_)
    go_big_op
    (with_reducible refine (take16 gt A0 3 c0 _ _ _ 0 _ 0 false _ T _ kt0 (HU.out.chg X0 HNE.out) HNE.out (by simp) (by omega) (by omega) rfl b0.1 b0.2).mono ?_)
    rintro e v1 ⟨rfl, ch1, kt1⟩
    have X1 := X0.trans ch1
    refine hK _ _ (mk (kb.chg X1 hnpt)) ?_
    clear hK K
    refine wpFl_cons ?_
    simp only [getL, pickL, List.cons_append, List.nil_append]
    repeat (first | go_big_quiet_skip | (go_big_quiet_want; go_big_quiet_op; go_big_quiet_on))
    refine wpQuiet_nil ⟨?f2, ?n2⟩
    case' f2 =>
      refine wpAct_want rfl (fun K hK => ?_)
      go_big_op
      have kf2 : Blk (v1.alloc (.cells #[.int .u16 0, .int .u16 0, .int .i64 0, .slice none 0 0] 111)) v1.heap.size #[.int .u16 0, .int .u16 0, .int .i64 0, .slice none 0 0] 111 := Blk.new _ _ _
      have X2 : Chg gt W (v1.alloc (.cells #[.int .u16 0, .int .u16 0, .int .i64 0, .slice none 0 0] 111)) := X1.trans (Chg.of (by go_grown))
      have kt2 := kt1.alloc (.cells #[.int .u16 0, .int .u16 0, .int .i64 0, .slice none 0 0] 111)
      have hg5 : W.heap.size ≤ v1.heap.size := X1.size
      have hne5 : v1.heap.size ≠ gt := by omega
      refine hK _ _ (mk (kb.chg X2 hnpt)) ?_
      clear hK K
      refine wpAct_want rfl (fun K hK => ?_)
      go_big_op
      (with_reducible refine (take16 gt A0 3 c0 _ _ _ 1 _ 0 false _ L _ kt2 (HU.out.chg X2 HNE.out) HNE.out (by simp) (by omega) (by omega) rfl b1.1 b1.2).mono ?_)
      rintro e v3 ⟨rfl, ch3, kt3⟩
      have X3 := X2.trans ch3
      have kf3 := kf2.chg ch3 hne5
      refine hK _ _ (mk (kb.chg X3 hnpt)) ?_
      clear hK K
      refine wpGr_cons ?_
      simp only [getL, pickL, List.cons_append, List.nil_append]
      repeat (first | go_big_quiet_skip | (go_big_quiet_want; go_big_quiet_op; go_big_quiet_on))
      refine wpQuiet_nil ?_
      refine wpAct_want rfl (fun K hK => ?_)
      go_big_op
      (with_reducible refine (take32 gt A0 3 c0 _ _ _ 2 _ 0 false _ U _ kt3 (HU.out.chg X3 HNE.out) HNE.out (by simp) (by omega) (by omega) rfl b2'.1 b2'.2).mono ?_)
      rintro e v4 ⟨rfl, ch4, kt4⟩
      have X4 := X3.trans ch4
      have kf4 := kf3.chg ch4 hne5
      refine hK _ _ (mk (kb.chg X4 hnpt)) ?_
      clear hK K
      refine wpGr_cons ?_
      simp only [getL, pickL, List.cons_append, List.nil_append]
      repeat (first | go_big_quiet_skip | (go_big_quiet_want; go_big_quiet_op; go_big_quiet_on))
      refine wpQuiet_nil ?_
      refine wpAct_want rfl (fun K hK => ?_)
      go_big_op
      have hszc : w.heap.size ≤ v4.heap.size := (X4.bl BW (by omega)).size
      (with_reducible refine (clone_any _ _ _ _ _ (HP.out.below (X4.bl BW (by omega))) (by omega)).mono ?_)
      rintro e v5 ⟨⟨A5, c5, rfl, hoo⟩, hb5⟩
      have X5 := X4.trans (Chg.of hb5)
      have kt5 := Blk.keep hb5 kt4
      have ho5 := own_mono hoo hszc
      have kf5 := Blk.keep hb5 kf4
      refine hK _ _ (mk (kb.chg X5 hnpt)) ?_
      clear hK K
      refine wpGr_cons ?_
      simp only [getL, pickL, List.cons_append, List.nil_append]
      repeat (first | go_big_quiet_skip | (go_big_quiet_want; go_big_quiet_op; go_big_quiet_on))
      refine wpQuiet_nil ?_
      have cf5 := kf5.cell
      have ff5 := kf5.frozen
      have zf5 := kf5.lt
      refine wpAct_want rfl (fun K hK => ?_)
      go_big_op
      have XZ := ((((X5.new (p := ⟨v1.heap.size, 0, none⟩) hg5 (.int .u16 T)).new (p := ⟨v1.heap.size, 1, none⟩) hg5 (.int .u16 L)).new (p := ⟨v1.heap.size, 2, none⟩) hg5 (.int .i64 U)).new (p := ⟨v1.heap.size, 3, none⟩) hg5 (.slice A5 m c5))
      have kfZ := ((((kf5.set 0 (.int .u16 T)).set 1 (.int .u16 L)).set 2 (.int .i64 U)).set 3 (.slice A5 m c5))
      simp only [List.setIfInBounds_toArray, List.set_cons_zero, List.set_cons_succ] at kfZ
      have ktZ := ((((kt5.far (p := ⟨v1.heap.size, 0, none⟩) (Ne.symm hne5) (.int .u16 T)).far (p := ⟨v1.heap.size, 1, none⟩) (Ne.symm hne5) (.int .u16 L)).far (p := ⟨v1.heap.size, 2, none⟩) (Ne.symm hne5) (.int .i64 U)).far (p := ⟨v1.heap.size, 3, none⟩) (Ne.symm hne5) (.slice A5 m c5))
      have hoS0 := own_set ho5 kf5 (by decide) 0 (.int .u16 T)
      have hoS1 := own_set hoS0 (kf5.set 0 (.int .u16 T)) (by decide) 1 (.int .u16 L)
      have hoS2 := own_set hoS1 ((kf5.set 0 (.int .u16 T)).set 1 (.int .u16 L)) (by decide) 2 (.int .i64 U)
      have hoS3 := own_set hoS2 (((kf5.set 0 (.int .u16 T)).set 1 (.int .u16 L)).set 2 (.int .i64 U)) (by decide) 3 (.slice A5 m c5)
      have hoZ := Lib.hid hoS3
      refine hK _ _ (mk (kb.chg XZ hnpt)) ?_
      clear hK K cf5 ff5 zf5 hoS0 hoS1 hoS2 hoS3
      generalize ((((v5.setCell ⟨v1.heap.size, 0, none⟩ (.int .u16 T)).setCell ⟨v1.heap.size, 1, none⟩ (.int .u16 L)).setCell ⟨v1.heap.size, 2, none⟩ (.int .i64 U)).setCell ⟨v1.heap.size, 3, none⟩ (.slice A5 m c5)) = WZ at *
      generalize hg5e : v1.heap.size = g5 at *
    case' n2 =>
      refine wpAct_want rfl (fun K hK => ?_)
      go_big_op
      (with_reducible refine (take16 gt A0 3 c0 _ _ _ 1 _ 0 false _ L _ kt1 (HU.out.chg X1 HNE.out) HNE.out (by simp) (by omega) (by omega) rfl b1.1 b1.2).mono ?_)
      rintro e v2 ⟨rfl, ch2, kt2⟩
      have X2 := X1.trans ch2
      refine hK _ _ (mk (kb.chg X2 hnpt)) ?_
      clear hK K
      refine wpFl_cons ?_
      simp only [getL, pickL, List.cons_append, List.nil_append]
      repeat (first | go_big_quiet_skip | (go_big_quiet_want; go_big_quiet_op; go_big_quiet_on))
      refine wpQuiet_nil ⟨?f3, ?n3⟩
      case' f3 =>
        refine wpAct_want rfl (fun K hK => ?_)
        go_big_op
        have kf3 : Blk (v2.alloc (.cells #[.int .u16 0, .int .u16 0, .int .i64 0, .slice none 0 0] 111)) v2.heap.size #[.int .u16 0, .int .u16 0, .int .i64 0, .slice none 0 0] 111 := Blk.new _ _ _
        have X3 : Chg gt W (v2.alloc (.cells #[.int .u16 0, .int .u16 0, .int .i64 0, .slice none 0 0] 111)) := X2.trans (Chg.of (by go_grown))
        have kt3 := kt2.alloc (.cells #[.int .u16 0, .int .u16 0, .int .i64 0, .slice none 0 0] 111)
        have hg5 : W.heap.size ≤ v2.heap.size := X2.size
        have hne5 : v2.heap.size ≠ gt := by omega
        refine hK _ _ (mk (kb.chg X3 hnpt)) ?_
        clear hK K
        refine wpAct_want rfl (fun K hK => ?_)
        go_big_op
        (with_reducible refine (take32 gt A0 3 c0 _ _ _ 2 _ 0 false _ U _ kt3 (HU.out.chg X3 HNE.out) HNE.out (by simp) (by omega) (by omega) rfl b2'.1 b2'.2).mono ?_)
        rintro e v4 ⟨rfl, ch4, kt4⟩
        have X4 := X3.trans ch4
        have kf4 := kf3.chg ch4 hne5
        refine hK _ _ (mk (kb.chg X4 hnpt)) ?_
        clear hK K
        refine wpGr_cons ?_
        simp only [getL, pickL, List.cons_append, List.nil_append]
        repeat (first | go_big_quiet_skip | (go_big_quiet_want; go_big_quiet_op; go_big_quiet_on))
        refine wpQuiet_nil ?_
        refine wpAct_want rfl (fun K hK => ?_)
        go_big_op
        have hszc : w.heap.size ≤ v4.heap.size := (X4.bl BW (by omega)).size
        (with_reducible refine (clone_any _ _ _ _ _ (HP.out.below (X4.bl BW (by omega))) (by omega)).mono ?_)
        rintro e v5 ⟨⟨A5, c5, rfl, hoo⟩, hb5⟩
        have X5 := X4.trans (Chg.of hb5)
        have kt5 := Blk.keep hb5 kt4
        have ho5 := own_mono hoo hszc
        have kf5 := Blk.keep hb5 kf4
        refine hK _ _ (mk (kb.chg X5 hnpt)) ?_
        clear hK K
        refine wpGr_cons ?_
        simp only [getL, pickL, List.cons_append, List.nil_append]
        repeat (first | go_big_quiet_skip | (go_big_quiet_want; go_big_quiet_op; go_big_quiet_on))
        refine wpQuiet_nil ?_
        have cf5 := kf5.cell
        have ff5 := kf5.frozen
        have zf5 := kf5.lt
        refine wpAct_want rfl (fun K hK => ?_)
        go_big_op
        have XZ := ((((X5.new (p := ⟨v2.heap.size, 0, none⟩) hg5 (.int .u16 T)).new (p := ⟨v2.heap.size, 1, none⟩) hg5 (.int .u16 L)).new (p := ⟨v2.heap.size, 2, none⟩) hg5 (.int .i64 U)).new (p := ⟨v2.heap.size, 3, none⟩) hg5 (.slice A5 m c5))
        have kfZ := ((((kf5.set 0 (.int .u16 T)).set 1 (.int .u16 L)).set 2 (.int .i64 U)).set 3 (.slice A5 m c5))
        simp only [List.setIfInBounds_toArray, List.set_cons_zero, List.set_cons_succ] at kfZ
        have ktZ := ((((kt5.far (p := ⟨v2.heap.size, 0, none⟩) (Ne.symm hne5) (.int .u16 T)).far (p := ⟨v2.heap.size, 1, none⟩) (Ne.symm hne5) (.int .u16 L)).far (p := ⟨v2.heap.size, 2, none⟩) (Ne.symm hne5) (.int .i64 U)).far (p := ⟨v2.heap.size, 3, none⟩) (Ne.symm hne5) (.slice A5 m c5))
        have hoS0 := own_set ho5 kf5 (by decide) 0 (.int .u16 T)
        have hoS1 := own_set hoS0 (kf5.set 0 (.int .u16 T)) (by decide) 1 (.int .u16 L)
        have hoS2 := own_set hoS1 ((kf5.set 0 (.int .u16 T)).set 1 (.int .u16 L)) (by decide) 2 (.int .i64 U)
        have hoS3 := own_set hoS2 (((kf5.set 0 (.int .u16 T)).set 1 (.int .u16 L)).set 2 (.int .i64 U)) (by decide) 3 (.slice A5 m c5)
        have hoZ := Lib.hid hoS3
        refine hK _ _ (mk (kb.chg XZ hnpt)) ?_
        clear hK K cf5 ff5 zf5 hoS0 hoS1 hoS2 hoS3
        generalize ((((v5.setCell ⟨v2.heap.size, 0, none⟩ (.int .u16 T)).setCell ⟨v2.heap.size, 1, none⟩ (.int .u16 L)).setCell ⟨v2.heap.size, 2, none⟩ (.int .i64 U)).setCell ⟨v2.heap.size, 3, none⟩ (.slice A5 m c5)) = WZ at *
        generalize hg5e : v2.heap.size = g5 at *
      case' n3 =>
        refine wpAct_want rfl (fun K hK => ?_)
        go_big_op
        (with_reducible refine (take32 gt A0 3 c0 _ _ _ 2 _ 0 false _ U _ kt2 (HU.out.chg X2 HNE.out) HNE.out (by simp) (by omega) (by omega) rfl b2'.1 b2'.2).mono ?_)
        rintro e v3 ⟨rfl, ch3, kt3⟩
        have X3 := X2.trans ch3
        refine hK _ _ (mk (kb.chg X3 hnpt)) ?_
        clear hK K
        refine wpFl_cons ?_
        simp only [getL, pickL, List.cons_append, List.nil_append]
        repeat (first | go_big_quiet_skip | (go_big_quiet_want; go_big_quiet_op; go_big_quiet_on))
        refine wpQuiet_nil ⟨?f4, ?n4⟩
        case' f4 =>
          refine wpAct_want rfl (fun K hK => ?_)
          go_big_op
          have kf4 : Blk (v3.alloc (.cells #[.int .u16 0, .int .u16 0, .int .i64 0, .slice none 0 0] 111)) v3.heap.size #[.int .u16 0, .int .u16 0, .int .i64 0, .slice none 0 0] 111 := Blk.new _ _ _
          have X4 : Chg gt W (v3.alloc (.cells #[.int .u16 0, .int .u16 0, .int .i64 0, .slice none 0 0] 111)) := X3.trans (Chg.of (by go_grown))
          have kt4 := kt3.alloc (.cells #[.int .u16 0, .int .u16 0, .int .i64 0, .slice none 0 0] 111)
          have hg5 : W.heap.size ≤ v3.heap.size := X3.size
          have hne5 : v3.heap.size ≠ gt := by omega
          refine hK _ _ (mk (kb.chg X4 hnpt)) ?_
          clear hK K
          refine wpAct_want rfl (fun K hK => ?_)
          go_big_op
          have hszc : w.heap.size ≤ (v3.alloc (.cells #[.int .u16 0, .int .u16 0, .int .i64 0, .slice none 0 0] 111)).heap.size := (X4.bl BW (by omega)).size
          (with_reducible refine (clone_any _ _ _ _ _ (HP.out.below (X4.bl BW (by omega))) (by omega)).mono ?_)
          rintro e v5 ⟨⟨A5, c5, rfl, hoo⟩, hb5⟩
          have X5 := X4.trans (Chg.of hb5)
          have kt5 := Blk.keep hb5 kt4
          have ho5 := own_mono hoo hszc
          have kf5 := Blk.keep hb5 kf4
          refine hK _ _ (mk (kb.chg X5 hnpt)) ?_
          clear hK K
          refine wpGr_cons ?_
          simp only [getL, pickL, List.cons_append, List.nil_append]
          repeat (first | go_big_quiet_skip | (go_big_quiet_want; go_big_quiet_op; go_big_quiet_on))
          refine wpQuiet_nil ?_
          have cf5 := kf5.cell
          have ff5 := kf5.frozen
          have zf5 := kf5.lt
          refine wpAct_want rfl (fun K hK => ?_)
          go_big_op
          have XZ := ((((X5.new (p := ⟨v3.heap.size, 0, none⟩) hg5 (.int .u16 T)).new (p := ⟨v3.heap.size, 1, none⟩) hg5 (.int .u16 L)).new (p := ⟨v3.heap.size, 2, none⟩) hg5 (.int .i64 U)).new (p := ⟨v3.heap.size, 3, none⟩) hg5 (.slice A5 m c5))
          have kfZ := ((((kf5.set 0 (.int .u16 T)).set 1 (.int .u16 L)).set 2 (.int .i64 U)).set 3 (.slice A5 m c5))
          simp only [List.setIfInBounds_toArray, List.set_cons_zero, List.set_cons_succ] at kfZ
          have ktZ := ((((kt5.far (p := ⟨v3.heap.size, 0, none⟩) (Ne.symm hne5) (.int .u16 T)).far (p := ⟨v3.heap.size, 1, none⟩) (Ne.symm hne5) (.int .u16 L)).far (p := ⟨v3.heap.size, 2, none⟩) (Ne.symm hne5) (.int .i64 U)).far (p := ⟨v3.heap.size, 3, none⟩) (Ne.symm hne5) (.slice A5 m c5))
          have hoS0 := own_set ho5 kf5 (by decide) 0 (.int .u16 T)
          have hoS1 := own_set hoS0 (kf5.set 0 (.int .u16 T)) (by decide) 1 (.int .u16 L)
          have hoS2 := own_set hoS1 ((kf5.set 0 (.int .u16 T)).set 1 (.int .u16 L)) (by decide) 2 (.int .i64 U)
          have hoS3 := own_set hoS2 (((kf5.set 0 (.int .u16 T)).set 1 (.int .u16 L)).set 2 (.int .i64 U)) (by decide) 3 (.slice A5 m c5)
          have hoZ := Lib.hid hoS3
          refine hK _ _ (mk (kb.chg XZ hnpt)) ?_
          clear hK K cf5 ff5 zf5 hoS0 hoS1 hoS2 hoS3
          generalize ((((v5.setCell ⟨v3.heap.size, 0, none⟩ (.int .u16 T)).setCell ⟨v3.heap.size, 1, none⟩ (.int .u16 L)).setCell ⟨v3.heap.size, 2, none⟩ (.int .i64 U)).setCell ⟨v3.heap.size, 3, none⟩ (.slice A5 m c5)) = WZ at *
          generalize hg5e : v3.heap.size = g5 at *
        case' n4 =>
          refine wpAct_want rfl (fun K hK => ?_)
          go_big_op
          have hszc : w.heap.size ≤ v3.heap.size := (X3.bl BW (by omega)).size
          (with_reducible refine (clone_any _ _ _ _ _ (HP.out.below (X3.bl BW (by omega))) (by omega)).mono ?_)
          rintro e v4 ⟨⟨A5, c5, rfl, hoo⟩, hb4⟩
          have X4 := X3.trans (Chg.of hb4)
          have kt4 := Blk.keep hb4 kt3
          have ho4 := own_mono hoo hszc
          refine hK _ _ (mk (kb.chg X4 hnpt)) ?_
          clear hK K
          refine wpFl_nil ?_
          simp only [getL, pickL, List.cons_append, List.nil_append]
          repeat (first | go_big_quiet_skip | (go_big_quiet_want; go_big_quiet_op; go_big_quiet_on))
          refine wpQuiet_nil ?_
          refine wpAct_want rfl (fun K hK => ?_)
          go_big_op
          have kf5 : Blk (v4.alloc (.cells #[.int .u16 0, .int .u16 0, .int .i64 0, .slice none 0 0] 111)) v4.heap.size #[.int .u16 0, .int .u16 0, .int .i64 0, .slice none 0 0] 111 := Blk.new _ _ _
          have X5 : Chg gt W (v4.alloc (.cells #[.int .u16 0, .int .u16 0, .int .i64 0, .slice none 0 0] 111)) := X4.trans (Chg.of (by go_grown))
          have kt5 := kt4.alloc (.cells #[.int .u16 0, .int .u16 0, .int .i64 0, .slice none 0 0] 111)
          have hg5 : W.heap.size ≤ v4.heap.size := X4.size
          have hne5 : v4.heap.size ≠ gt := by omega
          have ho5 := ho4.alloc (.cells #[.int .u16 0, .int .u16 0, .int .i64 0, .slice none 0 0] 111)
          refine hK _ _ (mk (kb.chg X5 hnpt)) ?_
          clear hK K
          refine wpGr_cons ?_
          simp only [getL, pickL]
          refine wpQuiet_nil ?_
          have cf5 := kf5.cell
          have ff5 := kf5.frozen
          have zf5 := kf5.lt
          refine wpAct_want rfl (fun K hK => ?_)
          go_big_op
          have XZ : Chg gt W (v4.alloc (.cells #[.int .u16 T, .int .u16 L, .int .i64 U, .slice A5 m c5] 111)) := X4.trans (Chg.of (by go_grown))
          have kfZ : Blk (v4.alloc (.cells #[.int .u16 T, .int .u16 L, .int .i64 U, .slice A5 m c5] 111)) v4.heap.size #[.int .u16 T, .int .u16 L, .int .i64 U, .slice A5 m c5] 111 := Blk.new _ _ _
          have ktZ := kt4.alloc (.cells #[.int .u16 T, .int .u16 L, .int .i64 U, .slice A5 m c5] 111)
          have hoZ := Lib.hid (ho4.alloc (.cells #[.int .u16 T, .int .u16 L, .int .i64 U, .slice A5 m c5] 111))
          refine hK _ _ (mk (kb.chg XZ hnpt)) ?_
          clear hK K cf5 ff5 zf5
          generalize (v4.alloc (.cells #[.int .u16 T, .int .u16 L, .int .i64 U, .slice A5 m c5] 111)) = WZ at *
          generalize hg5e : v4.heap.size = g5 at *
  all_goals
    refine wpGr_nil ?_
    simp only [getL]
    refine wpQuiet_nil ?_
    clear q0 mk hne9
    refine NoPanic.normal ?_
    go_wp2_with fail
    have hgr5 : gr ≠ g5 := by omega
    have kr5 := kr.chg XZ hrt
    have r0 : ∀ p : HoldT (GivT g5 T L U (.slice A5 m c5)), p.val.cell? ⟨g5, 0, none⟩ = some (.int .u16 T) := fun p => p.ok.1
    have r1 : ∀ p : HoldT (GivT g5 T L U (.slice A5 m c5)), p.val.cell? ⟨g5, 1, none⟩ = some (.int .u16 L) := fun p => p.ok.2.1
    have r2 : ∀ p : HoldT (GivT g5 T L U (.slice A5 m c5)), p.val.cell? ⟨g5, 2, none⟩ = some (.int .i64 U) := fun p => p.ok.2.2.1
    have r3 : ∀ p : HoldT (GivT g5 T L U (.slice A5 m c5)), p.val.cell? ⟨g5, 3, none⟩ = some (.slice A5 m c5) := fun p => p.ok.2.2.2
    have mk5 : ∀ {V : World}, Blk V g5 #[.int .u16 T, .int .u16 L, .int .i64 U, .slice A5 m c5] 111 → HoldS (GivT g5 T L U (.slice A5 m c5)) V := fun k1 => HoldS.of ⟨k1.cell 0, k1.cell 1, k1.cell 2, k1.cell 3⟩
    haveI hne5' : Nonempty (HoldT (GivT g5 T L U (.slice A5 m c5))) := ⟨⟨WZ, kfZ.cell 0, kfZ.cell 1, kfZ.cell 2, kfZ.cell 3⟩⟩
    refine wp_region_plan (S := HoldS (GivT g5 T L U (.slice A5 m c5))) [([0, 1], 2), ([], 3)] [4] (by kernel_rfl) (by kernel_rfl) (mk5 (kfZ.same rfl)) ?_
    refine wpGr_cons ?_
    simp only [getL, pickL, List.cons_append, List.nil_append]
    repeat (first | go_big_quiet_skip | (go_big_quiet_want; go_big_quiet_op; go_big_quiet_on))
    refine wpQuiet_nil ?_
    refine wpAct_want rfl (fun K hK => ?_)
    go_big_op
    (with_reducible refine (wholeT gt A0 none none 3 c0 0 0 0 0 _ _ _ false _ (ktZ.same (w' := WZ.drew) rfl) (by simp) (by simp) (.inr rfl)).mono ?_)
    rintro e w9 ⟨rfl, qd, rfl⟩
    have kf9 : Blk (WZ.drew.drewN qd) g5 #[.int .u16 T, .int .u16 L, .int .i64 U, .slice A5 m c5] 111 := kfZ.same rfl
    have kr9 : Blk (WZ.drew.drewN qd) gr #[.int .u16 0, .int .u16 0, .int .i64 0, .slice none 0 0] 111 := kr5.same rfl
    have ho9 : (WZ.drew.drewN qd).ownsRow w.heap.size 5 1 (.slice A5 m c5) m (p.map (Value.int .u8)) := own_same hoZ.out rfl
    have B9 : Bl w (WZ.drew.drewN qd) := ((XZ.bl BW (by omega)).drewN 1).drewN qd
    refine hK _ _ (mk5 kf9) ?_
    clear hK K
    generalize WZ.drew.drewN qd = WQ at *
    have cr9 := kr9.cell
    have fr9 := kr9.frozen
    have zr9 := kr9.lt
    refine wpGr_cons ?_
    simp only [getL, pickL]
    refine wpQuiet_nil ?_
    refine wpAct_want rfl (fun K hK => ?_)
    go_big_op
    have krF := ((((kr9.set 0 (.int .u16 T)).set 1 (.int .u16 L)).set 2 (.int .i64 U)).set 3 (.slice A5 m c5))
    have kfF := ((((kf9.far (p := ⟨gr, 0, none⟩) (Ne.symm hgr5) (.int .u16 T)).far (p := ⟨gr, 1, none⟩) (Ne.symm hgr5) (.int .u16 L)).far (p := ⟨gr, 2, none⟩) (Ne.symm hgr5) (.int .i64 U)).far (p := ⟨gr, 3, none⟩) (Ne.symm hgr5) (.slice A5 m c5))
    have hF0 := own_set ho9 kr9 (by decide) 0 (.int .u16 T)
    have hF1 := own_set hF0 (kr9.set 0 (.int .u16 T)) (by decide) 1 (.int .u16 L)
    have hF2 := own_set hF1 ((kr9.set 0 (.int .u16 T)).set 1 (.int .u16 L)) (by decide) 2 (.int .i64 U)
    have hF3 := own_set hF2 (((kr9.set 0 (.int .u16 T)).set 1 (.int .u16 L)).set 2 (.int .i64 U)) (by decide) 3 (.slice A5 m c5)
    have BF : Bl w ((((WQ.setCell ⟨gr, 0, none⟩ (.int .u16 T)).setCell ⟨gr, 1, none⟩ (.int .u16 L)).setCell ⟨gr, 2, none⟩ (.int .i64 U)).setCell ⟨gr, 3, none⟩ (.slice A5 m c5)) := (((B9.setCell (p := ⟨gr, 0, none⟩) (by rw [hgp]; exact hgr0) (.int .u16 T)).setCell (p := ⟨gr, 1, none⟩) (by rw [hgp]; exact hgr0) (.int .u16 L)).setCell (p := ⟨gr, 2, none⟩) (by rw [hgp]; exact hgr0) (.int .i64 U)).setCell (p := ⟨gr, 3, none⟩) (by rw [hgp]; exact hgr0) (.slice A5 m c5)
    refine hK _ _ (mk5 kfF) ?_
    have HF3 := Lib.hid hF3
    have cF := krF.cell
    clear hK K cr9 fr9 zr9 hF0 hF1 hF2 hF3 r0 r1 r2 r3
    generalize ((((WQ.setCell ⟨gr, 0, none⟩ (.int .u16 T)).setCell ⟨gr, 1, none⟩ (.int .u16 L)).setCell ⟨gr, 2, none⟩ (.int .i64 U)).setCell ⟨gr, 3, none⟩ (.slice A5 m c5)) = WF at *
    refine wpGr_nil ?_
    simp only [getL, pickL, List.cons_append, List.nil_append]
    repeat (first | go_big_quiet_skip | (go_big_quiet_want; go_big_quiet_op; go_big_quiet_on))
    refine wpQuiet_nil ?_
    refine NoPanic.normal ?_
    go_wp2_with fail
    exact bodyPost_ret (v := .tuple #[.agg #[.int .u16 T, .int .u16 L, .int .i64 U, .slice A5 m c5], .bool true]) (by simp [results, Try.results59, go_sem, cF]) rfl ⟨A5, c5, rfl, BF, HF3.out⟩
end Go.Proofs.Ytoljdgfbkebgcaa
