/- impl.told: sctpshutdown. -/
import Derived.Test.YtoljdgfbkebgcaaRdSctp
import Derived.Test.YtoljdgfbkebgcaaChk
import Derived.Test.YtoljdgfbkebgcaaChunkv
import Derived.Test.YtoljdgfbkebgcaaHeld
import Derived.Deep.RegionHeld3
namespace Go.Proofs.Ytoljdgfbkebgcaa
open Go.RowKit
theorem ut31 : Try.prog.underlying 31 = some (.slice 26) := by kernel_rfl
set_option maxHeartbeats 4000000 in
set_option maxRecDepth 100000 in
theorem toldShu_any (A1 A : Option Addr) (n c1 m c gl : Nat) (l p : List Int) (w : World) (hl : By l) (h4 : 4 ≤ chL l) (hup : up4 (chL l) ≤ n) (h8 : 8 ≤ n) (hn2 : n ≤ 2000) (r : Rd .u8 w A1 n c1 l) (k : Blk w gl ((chk A1 n c1 l).push (.int .u32 (be (sub l 4 8)))) 132) (h : Rd .u8 w A m c p) (hp : By p) (hm : m ≤ 2000) :
    Calls Try.prog 49 #[.iface 130 (.pointer (some ⟨gl, 0, none⟩)), .slice A m c] w fun e w' =>
      Got w w' e ⟨[l.getD 0 0, l.getD 1 0, be (sub l 2 4), (up4 (chL l) : Int), be (sub l 4 8)], [], [], p⟩ := by
  have u4 : chL l ≤ up4 (chL l) := by unfold up4; omega
  have H := Lib.hid h
  have HP := Lib.hid hp
  have hlen := r.len
  have b0 := hl.getD 0
  have b1 := hl.getD 1
  have b2 := be_bd2 (sub l 2 4) (hl.sub _ _) (by rw [sub_length _ _ _ (by omega)])
  have b4 := be_bd4 (sub l 4 8) (hl.sub _ _) (by rw [sub_length _ _ _ (by omega)])
  have b3 : (0 : Int) ≤ (up4 (chL l) : Int) ∧ (up4 (chL l) : Int) ≤ 2147483647 := by omega
  have hk : Blk w gl #[.slice A1 (up4 (chL l)) c1, .slice (cutA A1 c1 (up4 (chL l))) (n - up4 (chL l)) (c1 - up4 (chL l)), .int .u8 (l.getD 0 0), .int .u8 (l.getD 1 0), .int .u16 (be (sub l 2 4)), .int .i64 (up4 (chL l)), .int .u32 (be (sub l 4 8))] 132 := k
  generalize l.getD 0 0 = x0 at *
  generalize l.getD 1 0 = x1 at *
  generalize be (sub l 2 4) = L at *
  generalize be (sub l 4 8) = Y at *
  generalize up4 (chL l) = U at *
  generalize chL l = V at *
  clear h hp hl r k
  have t0 := ta_130_90
  have t1 := ta_130_97
  have t2 := ta_130_105
  have t3 := ta_130_115
  have t4 := ta_130_120
  have t5 := ta_130_125
  have t6 := ta_130
  go_enter Try.func49, Try.ntmps49
  go_wp2_with fail
  (with_reducible refine (clone_any _ _ _ _ _ (H.out.below (by go_grown)) (by omega)).mono ?_)
  rintro e w1 ⟨⟨A2, c2, rfl, ho⟩, hb1⟩
  have kr := Blk.keep hb1 (Blk.new w _ _)
  have kl := Blk.keep hb1 (hk.alloc _)
  have cl := kl.cell
  have zl := kl.lt
  have cr := kr.cell
  have fr := kr.frozen
  have zr := kr.lt
  have B0 : Bl w w1 := Bl.trans (by go_grown) hb1
  have v3 := Lib.hid (own_bytV (F := fun k => w.heap.size < k ∧ k ≠ w1.heap.size) ho HP.out (fun k h1 h2 => by simp at h1; exact ⟨by omega, by omega⟩))
  clear ho
  go_wp2_with fail
  have zlb : gl ≠ w1.heap.size := Nat.ne_of_lt zl
  have kb := Blk.new w1 #[.slice none 0 0, .slice none 0 0, .slice none 0 0, .slice A2 m c2] 35
  have kl1 := kl.alloc (.cells #[.slice none 0 0, .slice none 0 0, .slice none 0 0, .slice A2 m c2] 35)
  have kr1 := kr.alloc (.cells #[.slice none 0 0, .slice none 0 0, .slice none 0 0, .slice A2 m c2] 35)
  have B1 : Bl w (w1.alloc (.cells #[.slice none 0 0, .slice none 0 0, .slice none 0 0, .slice A2 m c2] 35)) := B0.trans (by go_grown)
  have v31 := Lib.hid (BytV.below v3.out (w' := w1.alloc (.cells #[.slice none 0 0, .slice none 0 0, .slice none 0 0, .slice A2 m c2] 35)) (by go_grown))
  clear v3 cl zl cr fr kl kr hb1 hk B0
  have zr' : w.heap.size < w1.heap.size := zr
  generalize w1.alloc (.cells #[.slice none 0 0, .slice none 0 0, .slice none 0 0, .slice A2 m c2] 35) = W at *
  generalize w1.heap.size = gb at *
  clear zr
  have cl := kl1.cell
  have zl := kl1.lt
  have zW : gb < W.heap.size := kb.lt
  have hgb : w.heap.size ≠ gb := Nat.ne_of_lt zr'
  have hne : ∀ (a b c g : Nat), a ≠ g → (Value.slice (some ⟨a, 0, none⟩) b c).ownBlock ≠ some g := by intro a b c g h e; simp [Value.ownBlock] at e; exact h e
  have hsz : ((W.alloc (.cells #[.int .u64 (IntKind.u64.wrap Y)] 26)).drew).heap.size = W.heap.size + 1 := by simp
  go_region_held3 (fun w' => w'.cell? ⟨gl, 0, none⟩ = some (.slice A1 U c1) ∧ w'.cell? ⟨gl, 1, none⟩ = some (.slice (cutA A1 c1 U) (n - U) (c1 - U)) ∧ w'.cell? ⟨gl, 2, none⟩ = some (.int .u8 x0) ∧ w'.cell? ⟨gl, 3, none⟩ = some (.int .u8 x1) ∧ w'.cell? ⟨gl, 4, none⟩ = some (.int .u16 L) ∧ w'.cell? ⟨gl, 5, none⟩ = some (.int .i64 U) ∧ w'.cell? ⟨gl, 6, none⟩ = some (.int .u32 Y)) (first | assumption | (refine ⟨?_, ?_, ?_, ?_, ?_, ?_, ?_⟩ <;> (first | exact Blk.cell (by assumption) _ | go_keep)))
      (first
        | (go_at_call 70; (with_reducible refine (chunkv_any _ _ _ _ _ _ _ _ _ _ _ b0 b1 b2 b3).mono ?_); rintro e w2 ⟨rfl, hb2, kn, ho⟩; have kl2 : Blk w2 gl #[.slice A1 U c1, .slice (cutA A1 c1 U) (n - U) (c1 - U), .int .u8 x0, .int .u8 x1, .int .u16 L, .int .i64 U, .int .u32 Y] 132 := Blk.keep hb2 (by first | exact (kl1.alloc (.cells #[.int .u64 (IntKind.u64.wrap Y)] 26)).same rfl | exact kl1.same rfl); try rw [hsz] at kn ho)
        | (refine step_app rfl _ _ 31 26 (.int .u64 0) 1 8 W.drew.heap.size rfl ut31 info26 rfl (by decide) (by decide) (.slice (some ⟨W.drew.heap.size + 1, 0, none⟩) 4 4) 4 _ _ 1 _ _ rfl rfl (ho.alloc (.cells #[.int .u64 (IntKind.u64.wrap Y)] 26)) (Blk.src (Blk.new w2 #[.int .u64 (IntKind.u64.wrap Y)] 26) 1 1 rfl (fun u hu => by simp at hu; subst hu; rfl)) (by omega) (Nat.le_trans hb2.size (by simp)) ?_; intro A5 c5 w3 hp; have ho5 := hp.own; have Bc : Bl W (w2.alloc (.cells #[.int .u64 (IntKind.u64.wrap Y)] 26)) := Bl.trans (Bl.trans (by go_grown) hb2) (by go_grown); have BW : Bl W w3 := Below.grown Bc hp.grown Bc.size (fun k hk => by simp [Value.ownBlock] at hk; omega); have kb3 := Blk.keep BW kb; have kr3 := Blk.keep BW kr1; have v33 := Lib.hid (BytV.below v31.out BW); have B4 := B1.trans BW; have kl2 := Blk.keep BW kl1; have kl4 := kl2.far (p := ⟨gb, 0, none⟩) zlb (.slice A5 5 c5); have S3 : w3.cell? ⟨gl, 0, none⟩ = some (.slice A1 U c1) ∧ w3.cell? ⟨gl, 1, none⟩ = some (.slice (cutA A1 c1 U) (n - U) (c1 - U)) ∧ w3.cell? ⟨gl, 2, none⟩ = some (.int .u8 x0) ∧ w3.cell? ⟨gl, 3, none⟩ = some (.int .u8 x1) ∧ w3.cell? ⟨gl, 4, none⟩ = some (.int .u16 L) ∧ w3.cell? ⟨gl, 5, none⟩ = some (.int .i64 U) ∧ w3.cell? ⟨gl, 6, none⟩ = some (.int .u32 Y) := ⟨kl2.cell 0, kl2.cell 1, kl2.cell 2, kl2.cell 3, kl2.cell 4, kl2.cell 5, kl2.cell 6⟩; have S4 : (w3.setCell ⟨gb, 0, none⟩ (.slice A5 5 c5)).cell? ⟨gl, 0, none⟩ = some (.slice A1 U c1) ∧ (w3.setCell ⟨gb, 0, none⟩ (.slice A5 5 c5)).cell? ⟨gl, 1, none⟩ = some (.slice (cutA A1 c1 U) (n - U) (c1 - U)) ∧ (w3.setCell ⟨gb, 0, none⟩ (.slice A5 5 c5)).cell? ⟨gl, 2, none⟩ = some (.int .u8 x0) ∧ (w3.setCell ⟨gb, 0, none⟩ (.slice A5 5 c5)).cell? ⟨gl, 3, none⟩ = some (.int .u8 x1) ∧ (w3.setCell ⟨gb, 0, none⟩ (.slice A5 5 c5)).cell? ⟨gl, 4, none⟩ = some (.int .u16 L) ∧ (w3.setCell ⟨gb, 0, none⟩ (.slice A5 5 c5)).cell? ⟨gl, 5, none⟩ = some (.int .i64 U) ∧ (w3.setCell ⟨gb, 0, none⟩ (.slice A5 5 c5)).cell? ⟨gl, 6, none⟩ = some (.int .u32 Y) := ⟨kl4.cell 0, kl4.cell 1, kl4.cell 2, kl4.cell 3, kl4.cell 4, kl4.cell 5, kl4.cell 6⟩; have cb3 := kb3.cell; have fb3 := kb3.frozen; have zb3 := kb3.lt; have cr3 := kr3.cell; have fr3 := kr3.frozen; have zr3 := kr3.lt)
        | (refine step_app rfl _ _ 31 26 (.int .u64 0) 1 8 (W.heap.size + 1) rfl ut31 info26 rfl (by decide) (by decide) (.slice (some ⟨W.heap.size + 1 + 1, 0, none⟩) 4 4) 4 _ _ 1 _ _ rfl rfl ho (Blk.src (Blk.keep hb2 ((Blk.new W #[.int .u64 (IntKind.u64.wrap Y)] 26).same (w' := (W.alloc (.cells #[.int .u64 (IntKind.u64.wrap Y)] 26)).drew) rfl)) 1 1 rfl (fun u hu => by simp at hu; subst hu; rfl)) (by omega) (by have := hb2.size; rw [hsz] at this; exact this) ?_; intro A5 c5 w3 hp; have ho5 := own_mono hp.own (Nat.le_succ W.heap.size); have Bc : Bl W w2 := Bl.trans (by go_grown) hb2; have BW : Bl W w3 := Below.grown Bc hp.grown Bc.size (fun k hk => by simp [Value.ownBlock] at hk; omega); have kb3 := Blk.keep BW kb; have kr3 := Blk.keep BW kr1; have v33 := Lib.hid (BytV.below v31.out BW); have B4 := B1.trans BW; have kl2 := Blk.keep BW kl1; have kl4 := kl2.far (p := ⟨gb, 0, none⟩) zlb (.slice A5 5 c5); have S3 : w3.cell? ⟨gl, 0, none⟩ = some (.slice A1 U c1) ∧ w3.cell? ⟨gl, 1, none⟩ = some (.slice (cutA A1 c1 U) (n - U) (c1 - U)) ∧ w3.cell? ⟨gl, 2, none⟩ = some (.int .u8 x0) ∧ w3.cell? ⟨gl, 3, none⟩ = some (.int .u8 x1) ∧ w3.cell? ⟨gl, 4, none⟩ = some (.int .u16 L) ∧ w3.cell? ⟨gl, 5, none⟩ = some (.int .i64 U) ∧ w3.cell? ⟨gl, 6, none⟩ = some (.int .u32 Y) := ⟨kl2.cell 0, kl2.cell 1, kl2.cell 2, kl2.cell 3, kl2.cell 4, kl2.cell 5, kl2.cell 6⟩; have S4 : (w3.setCell ⟨gb, 0, none⟩ (.slice A5 5 c5)).cell? ⟨gl, 0, none⟩ = some (.slice A1 U c1) ∧ (w3.setCell ⟨gb, 0, none⟩ (.slice A5 5 c5)).cell? ⟨gl, 1, none⟩ = some (.slice (cutA A1 c1 U) (n - U) (c1 - U)) ∧ (w3.setCell ⟨gb, 0, none⟩ (.slice A5 5 c5)).cell? ⟨gl, 2, none⟩ = some (.int .u8 x0) ∧ (w3.setCell ⟨gb, 0, none⟩ (.slice A5 5 c5)).cell? ⟨gl, 3, none⟩ = some (.int .u8 x1) ∧ (w3.setCell ⟨gb, 0, none⟩ (.slice A5 5 c5)).cell? ⟨gl, 4, none⟩ = some (.int .u16 L) ∧ (w3.setCell ⟨gb, 0, none⟩ (.slice A5 5 c5)).cell? ⟨gl, 5, none⟩ = some (.int .i64 U) ∧ (w3.setCell ⟨gb, 0, none⟩ (.slice A5 5 c5)).cell? ⟨gl, 6, none⟩ = some (.int .u32 Y) := ⟨kl4.cell 0, kl4.cell 1, kl4.cell 2, kl4.cell 3, kl4.cell 4, kl4.cell 5, kl4.cell 6⟩; have cb3 := kb3.cell; have fb3 := kb3.frozen; have zb3 := kb3.lt; have cr3 := kr3.cell; have fr3 := kr3.frozen; have zr3 := kr3.lt))
  all_goals
    go_wp2_with fail
    have hY : IntKind.u64.wrap Y = Y := by rw [IntKind.wrap_u64]; omega
    rw [hY] at ho5
    have hL : LyrV (fun k => w.heap.size < k ∧ k ≠ gb) w3 (.agg #[.slice A5 5 c5, .slice none 0 0, .slice none 0 0, .slice A2 m c2]) ⟨[x0, x1, L, (U : Int), Y], [], [], p⟩ :=
      ⟨_, _, _, _, rfl, own_numV (l := [x0, x1, L, (U : Int), Y]) ho5 (fun k h1 _ => ⟨by have : W.heap.size ≤ k := h1; omega, by have : W.heap.size ≤ k := h1; omega⟩), DataV.nil _ _, PartsV.nil _ _, v33.out⟩
    have hL1 := LyrV.keepF hL ((KeepF.refl _ w3).setCell (p := ⟨gb, 0, none⟩) (fun h => h.2 rfl) (.slice A5 5 c5))
    have hL2 := LyrV.boxed (g := w.heap.size) hL1 (fun h => Nat.lt_irrefl _ h.1) (.slice A5 5 c5) (.slice none 0 0) (.slice none 0 0) (.slice A2 m c2)
    have BF := Bl.boxed (Below.setCell B4 (p := ⟨gb, 0, none⟩) (Nat.le_of_lt zr') (.slice A5 5 c5)) (Nat.le_refl _) (.slice A5 5 c5) (.slice none 0 0) (.slice none 0 0) (.slice A2 m c2)
    have kf := ((((kr3.far (p := ⟨gb, 0, none⟩) hgb (.slice A5 5 c5)).set 0 (.slice A5 5 c5)).set 1 (.slice none 0 0)).set 2 (.slice none 0 0)).set 3 (.slice A2 m c2)
    have cf := kf.cell
    clear hL hL1 kf
    generalize (((((w3.setCell ⟨gb, 0, none⟩ (.slice A5 5 c5)).setCell ⟨w.heap.size, 0, none⟩ (.slice A5 5 c5)).setCell ⟨w.heap.size, 1, none⟩ (.slice none 0 0)).setCell ⟨w.heap.size, 2, none⟩ (.slice none 0 0)).setCell ⟨w.heap.size, 3, none⟩ (.slice A2 m c2)) = WF at *
    refine bodyPost_ret (v := .tuple #[.agg #[.slice A5 5 c5, .slice none 0 0, .slice none 0 0, .slice A2 m c2], .bool true]) (by simp [results, Try.results49, go_sem, cf]) rfl ⟨_, rfl, LyrV.mono hL2 (fun k h => Nat.le_of_lt h.1), BF⟩
end Go.Proofs.Ytoljdgfbkebgcaa
