/- impl.told at a header. -/
import Derived.Test.YtoljdgfbkebgcaaZzSctp
import Derived.Test.YtoljdgfbkebgcaaAsrt
namespace Go.Proofs.Ytoljdgfbkebgcaa
open Go.RowKit
set_option maxHeartbeats 4000000 in
set_option maxRecDepth 100000 in
theorem toldSctp_any (A1 A : Option Addr) (n c1 m c gl : Nat) (l p : List Int) (w : World) (hl : By l) (k : Blk w gl (sctpCells A1 n c1 l) 95) (h : Rd .u8 w A m c p) (hp : By p) (hm : m ≤ 2000) (hn : 12 ≤ l.length) :
    Calls Try.prog 49 #[.iface 90 (.pointer (some ⟨gl, 0, none⟩)), .slice A m c] w fun e w' =>
      ∃ v0 v3, e = .returned (.tuple #[.agg #[v0, .slice none 0 0, .slice none 0 0, v3], .bool true]) ∧ NumV (fun k => w.heap.size ≤ k) w' v0 [be (sub l 0 2), be (sub l 2 4), be (sub l 4 8), be (sub l 8 12)] ∧ BytV (fun k => w.heap.size ≤ k) w' v3 p ∧ Bl w w' := by
  have H := Lib.hid h
  have HP := Lib.hid hp
  have b1 := be_bd2 (sub l 0 2) (hl.sub _ _) (by rw [sub_length _ _ _ (by omega)])
  have b2 := be_bd2 (sub l 2 4) (hl.sub _ _) (by rw [sub_length _ _ _ (by omega)])
  have b3 := be_bd4 (sub l 4 8) (hl.sub _ _) (by rw [sub_length _ _ _ (by omega)])
  have b4 := be_bd4 (sub l 8 12) (hl.sub _ _) (by rw [sub_length _ _ _ (by omega)])
  unfold sctpCells at k
  generalize be (sub l 0 2) = x1 at *
  generalize be (sub l 2 4) = x2 at *
  generalize be (sub l 4 8) = x3 at *
  generalize be (sub l 8 12) = x4 at *
  clear h hp hl
  have t1 := ta_90
  go_enter Try.func49, Try.ntmps49
  go_wp2_with fail
  (with_reducible refine (clone_any _ _ _ _ _ (H.out.below (by go_grown)) (by omega)).mono ?_)
  rintro e w1 ⟨⟨A2, c2, rfl, ho⟩, hb1⟩
  have kr := Blk.keep hb1 (Blk.new w _ _)
  have kl := Blk.keep hb1 (k.alloc _)
  have OW := Lib.hid ho
  have cl := kl.cell
  have zl := kl.lt
  have cr := kr.cell
  have fr := kr.frozen
  have zr := kr.lt
  clear ho
  go_wp2_with fail
  have B1 : Bl w (w1.alloc (.cells #[.slice none 0 0, .slice none 0 0, .slice none 0 0, .slice A2 m c2] 35)) := Bl.trans (Bl.trans (by go_grown) hb1) (by go_grown)
  have kb := Blk.new w1 #[.slice none 0 0, .slice none 0 0, .slice none 0 0, .slice A2 m c2] 35
  have kl1 := kl.alloc (.cells #[.slice none 0 0, .slice none 0 0, .slice none 0 0, .slice A2 m c2] 35)
  have kr1 := kr.alloc (.cells #[.slice none 0 0, .slice none 0 0, .slice none 0 0, .slice A2 m c2] 35)
  have OW1 := Lib.hid (OW.out.alloc (.cells #[.slice none 0 0, .slice none 0 0, .slice none 0 0, .slice A2 m c2] 35))
  have hne : w.heap.size ≠ w1.heap.size := Nat.ne_of_lt zr
  have hle : w.heap.size < w1.heap.size := zr
  generalize w1.alloc (.cells #[.slice none 0 0, .slice none 0 0, .slice none 0 0, .slice A2 m c2] 35) = W at *
  generalize w1.heap.size = gb at *
  clear cl zl cr fr zr kl kr hb1 OW k
  have cl := kl1.cell
  have cr := kr1.cell
  have fr := kr1.frozen
  have cb := kb.cell
  have fb := kb.frozen
  have zl := kl1.lt
  have zr := kr1.lt
  have zb := kb.lt
  go_region
  go_wp2_with fail
  refine bodyPost_ret (v := .tuple #[.agg #[.slice (some ⟨W.heap.size, 0, none⟩) 4 4, .slice none 0 0, .slice none 0 0, .slice A2 m c2], .bool true]) (by simp [results, Try.results49, go_sem, cr, zr]) rfl ⟨_, _, rfl, ?_, ?_, ?_⟩
  · exact NumV.of_block _ (Nat.le_of_lt zr) (Blk.newAt _ _ 26 W.heap.size (by simp)).heap rfl rfl
  · have kr2 := kr1.far (p := ⟨gb, 0, none⟩) hne (.slice (some ⟨W.heap.size, 0, none⟩) 4 4)
    have kr3 := kr2.set 0 (.slice (some ⟨W.heap.size, 0, none⟩) 4 4)
    have kr4 := kr3.set 1 (.slice none 0 0)
    have kr5 := kr4.set 2 (.slice none 0 0)
    exact own_bytV ((own_same (own_set (own_set (own_set (own_set (own_set OW1.out kb (by decide) _ _) kr2 (by decide) _ _) kr3 (by decide) _ _) kr4 (by decide) _ _) kr5 (by decide) 3 (.slice A2 m c2)) rfl).alloc _) HP.out (fun k h1 _ => by simp at h1; omega)
  · have hgb : w.heap.size ≤ gb := by have := hle; omega
    exact Below.drew (Below.alloc (((((B1.setCell hgb _).setCell (Nat.le_refl _) _).setCell (Nat.le_refl _) _).setCell (Nat.le_refl _) _).setCell (Nat.le_refl _) _) (by simp; omega) _)
end Go.Proofs.Ytoljdgfbkebgcaa
