/- spec.Read and decoded, of a chunk of the kind sctpheartbeat. impl.told: sctpshutdown. ZZDecode, called, impl.Read: sctpshutdown. -/
import Derived.Test.YtoljdgfbkebgcaaPq15
import Derived.Test.YtoljdgfbkebgcaaPq16
import Derived.Test.YtoljdgfbkebgcaaPq07
import Derived.Test.YtoljdgfbkebgcaaPq03
import Derived.Test.YtoljdgfbkebgcaaPq04
import Derived.Deep.RegionHeld3
import Derived.Test.YtoljdgfbkebgcaaPq05
namespace Go.Proofs.Ytoljdgfbkebgcaa
open Go.RowKit
set_option linter.unusedVariables false
theorem decHea_at (l : List Int) (hl : By l) (hk : kindOf (l.getD 0 0) = ⟨#[115, 99, 116, 112, 104, 101, 97, 114, 116, 98, 101, 97, 116]⟩) (h4' : 4 ≤ chL l) (hup : up4 (chL l) ≤ l.length) (h0 : l.getD 0 0 ≠ 0) (hn2 : l.length ≤ 2000) (hf : fullOf (sub l 4 (chL l)) = true) : DecAt l := by
  intro A n c w h
  have hlen := h.len
  rw [hk]
  have hc := calledHea_any l hl h4' hup h0 hn2
  rw [hf] at hc
  refine (decodedNP_ok _ l _ _ (fun A n c w w' gl h hb => by obtain ⟨v, q, B, h1, h2⟩ := h; exact ⟨v, q, B, Blk.keep hb h1, own_bl h2 hb⟩) hn2 hc (zzHea_ok l hl h4' hup h0 hn2 hf) A n c w h).mono ?_
  rintro e w1 ⟨A1, c1, gl, rfl, hb1, ⟨v, q, B, kl, ho⟩, r1, i1⟩
  exact Obj1.dec h0 rfl hup (by omega) rfl meth120 hb1 kl (by decide) rfl rfl r1 i1
theorem Hea_kind (l : List Int) (hl : By l) (hn : l.length ≤ 2147483647) (hk : kindOf (l.getD 0 0) = ⟨#[115, 99, 116, 112, 104, 101, 97, 114, 116, 98, 101, 97, 116]⟩) : KindAt l := by
  have hs : ((⟨#[115, 99, 116, 112, 104, 101, 97, 114, 116, 98, 101, 97, 116]⟩ : ByteArray).toList == [115, 99, 116, 112]) = false := by simp [go_sem]
  have hd : ((⟨#[115, 99, 116, 112, 104, 101, 97, 114, 116, 98, 101, 97, 116]⟩ : ByteArray).toList == [115, 99, 116, 112, 100, 97, 116, 97]) = false := by simp [go_sem]
  by_cases h4 : l.length < 4
  · exact KindAt.no hk nilLyr false true (sr_short _ l hs h4) rfl
  have hk' : ((kindOf (l.getD 0 0)).toList == (⟨#[115, 99, 116, 112, 104, 101, 97, 114, 116, 98, 101, 97, 116]⟩ : ByteArray).toList) = true := by rw [hk]; simp
  have h0 : l.getD 0 0 ≠ 0 := by
    intro h0
    rw [h0] at hk
    rw [← hk] at hd
    simp [kindOf, kDat, go_sem] at hd
  by_cases hL : chL l < 4
  · exact KindAt.no hk nilLyr false true (sr_low _ l hl hs (by omega) (by omega) hk' hL) rfl
  by_cases hlong : l.length < chL l
  · exact KindAt.no hk nilLyr false true (sr_long _ l hl hs (by omega) (by omega) hk' hd hlong) rfl
  by_cases hup : l.length < up4 (chL l)
  · exact KindAt.no hk nilLyr false false (sr_full _ l hl hs (by omega) (by omega) hk' hd (by omega) (by omega) hup) rfl
  by_cases hm : chL l % 4 ≠ 0
  · exact KindAt.no hk nilLyr false false (srHea_odd l hl (by omega) (by omega) (by omega) hm hk) rfl
  have hm : chL l % 4 = 0 := by omega
  have hsl : (sub l 4 (chL l)).length = chL l - 4 := sub_length _ _ _ (by omega)
  have hfp := full_prms _ (sub l 4 (chL l)) (Nat.le_refl _) (by omega)
  cases hp : prmsOf (sub l 4 (chL l)) with
  | none => exact KindAt.no hk nilLyr false true (srHea_bad l hl (by omega) (by omega) (by omega) hm hp hk) rfl
  | some ps =>
    rw [hp] at hfp
    exact ⟨_, true, true, by rw [hk]; exact srHea_some l hl (by omega) (by omega) (by omega) hm ps hp hk, fun _ _ => ⟨by omega, by omega, ⟨_, rfl⟩, fun h => absurd h h0, fun h2 => decHea_at l hl hk (by omega) (by omega) h0 h2 hfp⟩⟩
end Go.Proofs.Ytoljdgfbkebgcaa
namespace Go.Proofs.Ytoljdgfbkebgcaa
open Go.RowKit
set_option linter.unusedVariables false
theorem ut31 : Try.prog.underlying 31 = some (.slice 26) := by kernel_rfl
set_option maxHeartbeats 4000000 in
set_option maxRecDepth 100000 in
theorem toldShu_any (A1 A : Option Addr) (n c1 m c gl : Nat) (l p : List Int) (w : World) (hl : By l) (h4 : 4 ≤ chL l) (hup : up4 (chL l) ≤ n) (h8 : 8 ≤ n) (hn2 : n ≤ 2000) (r : Rd .u8 w A1 n c1 l) (k : Blk w gl ((chk A1 n c1 l).push (.int .u32 (be (sub l 4 8)))) 132) (h : Rd .u8 w A m c p) (hp : By p) (hm : m ≤ 2000) :
    Calls Try.prog 49 #[.iface 130 (.pointer (some ⟨gl, 0, none⟩)), .slice A m c] w fun e w' =>
      Got w w' e ⟨[l.getD 0 0, l.getD 1 0, be (sub l 2 4), (up4 (chL l) : Int), be (sub l 4 8)], [], [], p⟩ := by
  have u4 : chL l ≤ up4 (chL l) := by unfold up4; omega
  have H := Lib.hid h
  have HP := Lib.hid hp
  have hlen := r.len
  have b0 := hl.getD 0
  have b1 := hl.getD 1
  have b2 := be_bd2 (sub l 2 4) (hl.sub _ _) (by rw [sub_length _ _ _ (by omega)])
  have b4 := be_bd4 (sub l 4 8) (hl.sub _ _) (by rw [sub_length _ _ _ (by omega)])
  have b3 : (0 : Int) ≤ (up4 (chL l) : Int) ∧ (up4 (chL l) : Int) ≤ 2147483647 := by omega
  have hk : Blk w gl #[.slice A1 (up4 (chL l)) c1, .slice (cutA A1 c1 (up4 (chL l))) (n - up4 (chL l)) (c1 - up4 (chL l)), .int .u8 (l.getD 0 0), .int .u8 (l.getD 1 0), .int .u16 (be (sub l 2 4)), .int .i64 (up4 (chL l)), .int .u32 (be (sub l 4 8))] 132 := k
  generalize l.getD 0 0 = x0 at *
  generalize l.getD 1 0 = x1 at *
  generalize be (sub l 2 4) = L at *
  generalize be (sub l 4 8) = Y at *
  generalize up4 (chL l) = U at *
  generalize chL l = V at *
  clear h hp hl r k
  have t0 := ta_130_90
  have t1 := ta_130_97
  have t2 := ta_130_105
  have t3 := ta_130_115
  have t4 := ta_130_120
  have t5 := ta_130_125
  have t6 := ta_130
  go_enter Try.func49, Try.ntmps49
  go_wp2_with fail
  (with_reducible refine (clone_any _ _ _ _ _ (H.out.below (by go_grown)) (by omega)).mono ?_)
  rintro e w1 ⟨⟨A2, c2, rfl, ho⟩, hb1⟩
  have kr := Blk.keep hb1 (Blk.new w _ _)
  have kl := Blk.keep hb1 (hk.alloc _)
  have cl := kl.cell
  have zl := kl.lt
  have cr := kr.cell
  have fr := kr.frozen
  have zr := kr.lt
  have B0 : Bl w w1 := Bl.trans (by go_grown) hb1
  have v3 := Lib.hid (own_bytV (F := fun k => w.heap.size < k ∧ k ≠ w1.heap.size) ho HP.out (fun k h1 h2 => by simp at h1; exact ⟨by omega, by omega⟩))
  clear ho
  go_wp2_with fail
  have zlb : gl ≠ w1.heap.size := Nat.ne_of_lt zl
  have kb := Blk.new w1 #[.slice none 0 0, .slice none 0 0, .slice none 0 0, .slice A2 m c2] 35
  have kl1 := kl.alloc (.cells #[.slice none 0 0, .slice none 0 0, .slice none 0 0, .slice A2 m c2] 35)
  have kr1 := kr.alloc (.cells #[.slice none 0 0, .slice none 0 0, .slice none 0 0, .slice A2 m c2] 35)
  have B1 : Bl w (w1.alloc (.cells #[.slice none 0 0, .slice none 0 0, .slice none 0 0, .slice A2 m c2] 35)) := B0.trans (by go_grown)
  have v31 := Lib.hid (BytV.below v3.out (w' := w1.alloc (.cells #[.slice none 0 0, .slice none 0 0, .slice none 0 0, .slice A2 m c2] 35)) (by go_grown))
  clear v3 cl zl cr fr kl kr hb1 hk B0
  have zr' : w.heap.size < w1.heap.size := zr
  generalize w1.alloc (.cells #[.slice none 0 0, .slice none 0 0, .slice none 0 0, .slice A2 m c2] 35) = W at *
  generalize w1.heap.size = gb at *
  clear zr
  have cl := kl1.cell
  have zl := kl1.lt
  have zW : gb < W.heap.size := kb.lt
  have hgb : w.heap.size ≠ gb := Nat.ne_of_lt zr'
  have hne : ∀ (a b c g : Nat), a ≠ g → (Value.slice (some ⟨a, 0, none⟩) b c).ownBlock ≠ some g := by intro a b c g h e; simp [Value.ownBlock] at e; exact h e
  have hsz : ((W.alloc (.cells #[.int .u64 (IntKind.u64.wrap Y)] 26)).drew).heap.size = W.heap.size + 1 := by simp
  go_region_held3 (fun w' => w'.cell? ⟨gl, 0, none⟩ = some (.slice A1 U c1) ∧ w'.cell? ⟨gl, 1, none⟩ = some (.slice (cutA A1 c1 U) (n - U) (c1 - U)) ∧ w'.cell? ⟨gl, 2, none⟩ = some (.int .u8 x0) ∧ w'.cell? ⟨gl, 3, none⟩ = some (.int .u8 x1) ∧ w'.cell? ⟨gl, 4, none⟩ = some (.int .u16 L) ∧ w'.cell? ⟨gl, 5, none⟩ = some (.int .i64 U) ∧ w'.cell? ⟨gl, 6, none⟩ = some (.int .u32 Y)) (first | assumption | (refine ⟨?_, ?_, ?_, ?_, ?_, ?_, ?_⟩ <;> (first | exact Blk.cell (by assumption) _ | go_keep)))
      (first
        | (go_at_call 70; (with_reducible refine (chunkv_any _ _ _ _ _ _ _ _ _ _ _ b0 b1 b2 b3).mono ?_); rintro e w2 ⟨rfl, hb2, kn, ho⟩; have kl2 : Blk w2 gl #[.slice A1 U c1, .slice (cutA A1 c1 U) (n - U) (c1 - U), .int .u8 x0, .int .u8 x1, .int .u16 L, .int .i64 U, .int .u32 Y] 132 := Blk.keep hb2 (by first | exact (kl1.alloc (.cells #[.int .u64 (IntKind.u64.wrap Y)] 26)).same rfl | exact kl1.same rfl); try rw [hsz] at kn ho)
        | (refine step_app rfl _ _ 31 26 (.int .u64 0) 1 8 W.drew.heap.size rfl ut31 info26 rfl (by decide) (by decide) (.slice (some ⟨W.drew.heap.size + 1, 0, none⟩) 4 4) 4 _ _ 1 _ _ rfl rfl (ho.alloc (.cells #[.int .u64 (IntKind.u64.wrap Y)] 26)) (Blk.src (Blk.new w2 #[.int .u64 (IntKind.u64.wrap Y)] 26) 1 1 rfl (fun u hu => by simp at hu; subst hu; rfl)) (by omega) (Nat.le_trans hb2.size (by simp)) ?_; intro A5 c5 w3 hp; have ho5 := hp.own; have Bc : Bl W (w2.alloc (.cells #[.int .u64 (IntKind.u64.wrap Y)] 26)) := Bl.trans (Bl.trans (by go_grown) hb2) (by go_grown); have BW : Bl W w3 := Below.grown Bc hp.grown Bc.size (fun k hk => by simp [Value.ownBlock] at hk; omega); have kb3 := Blk.keep BW kb; have kr3 := Blk.keep BW kr1; have v33 := Lib.hid (BytV.below v31.out BW); have B4 := B1.trans BW; have kl2 := Blk.keep BW kl1; have kl4 := kl2.far (p := ⟨gb, 0, none⟩) zlb (.slice A5 5 c5); have S3 : w3.cell? ⟨gl, 0, none⟩ = some (.slice A1 U c1) ∧ w3.cell? ⟨gl, 1, none⟩ = some (.slice (cutA A1 c1 U) (n - U) (c1 - U)) ∧ w3.cell? ⟨gl, 2, none⟩ = some (.int .u8 x0) ∧ w3.cell? ⟨gl, 3, none⟩ = some (.int .u8 x1) ∧ w3.cell? ⟨gl, 4, none⟩ = some (.int .u16 L) ∧ w3.cell? ⟨gl, 5, none⟩ = some (.int .i64 U) ∧ w3.cell? ⟨gl, 6, none⟩ = some (.int .u32 Y) := ⟨kl2.cell 0, kl2.cell 1, kl2.cell 2, kl2.cell 3, kl2.cell 4, kl2.cell 5, kl2.cell 6⟩; have S4 : (w3.setCell ⟨gb, 0, none⟩ (.slice A5 5 c5)).cell? ⟨gl, 0, none⟩ = some (.slice A1 U c1) ∧ (w3.setCell ⟨gb, 0, none⟩ (.slice A5 5 c5)).cell? ⟨gl, 1, none⟩ = some (.slice (cutA A1 c1 U) (n - U) (c1 - U)) ∧ (w3.setCell ⟨gb, 0, none⟩ (.slice A5 5 c5)).cell? ⟨gl, 2, none⟩ = some (.int .u8 x0) ∧ (w3.setCell ⟨gb, 0, none⟩ (.slice A5 5 c5)).cell? ⟨gl, 3, none⟩ = some (.int .u8 x1) ∧ (w3.setCell ⟨gb, 0, none⟩ (.slice A5 5 c5)).cell? ⟨gl, 4, none⟩ = some (.int .u16 L) ∧ (w3.setCell ⟨gb, 0, none⟩ (.slice A5 5 c5)).cell? ⟨gl, 5, none⟩ = some (.int .i64 U) ∧ (w3.setCell ⟨gb, 0, none⟩ (.slice A5 5 c5)).cell? ⟨gl, 6, none⟩ = some (.int .u32 Y) := ⟨kl4.cell 0, kl4.cell 1, kl4.cell 2, kl4.cell 3, kl4.cell 4, kl4.cell 5, kl4.cell 6⟩; have cb3 := kb3.cell; have fb3 := kb3.frozen; have zb3 := kb3.lt; have cr3 := kr3.cell; have fr3 := kr3.frozen; have zr3 := kr3.lt)
        | (refine step_app rfl _ _ 31 26 (.int .u64 0) 1 8 (W.heap.size + 1) rfl ut31 info26 rfl (by decide) (by decide) (.slice (some ⟨W.heap.size + 1 + 1, 0, none⟩) 4 4) 4 _ _ 1 _ _ rfl rfl ho (Blk.src (Blk.keep hb2 ((Blk.new W #[.int .u64 (IntKind.u64.wrap Y)] 26).same (w' := (W.alloc (.cells #[.int .u64 (IntKind.u64.wrap Y)] 26)).drew) rfl)) 1 1 rfl (fun u hu => by simp at hu; subst hu; rfl)) (by omega) (by have := hb2.size; rw [hsz] at this; exact this) ?_; intro A5 c5 w3 hp; have ho5 := own_mono hp.own (Nat.le_succ W.heap.size); have Bc : Bl W w2 := Bl.trans (by go_grown) hb2; have BW : Bl W w3 := Below.grown Bc hp.grown Bc.size (fun k hk => by simp [Value.ownBlock] at hk; omega); have kb3 := Blk.keep BW kb; have kr3 := Blk.keep BW kr1; have v33 := Lib.hid (BytV.below v31.out BW); have B4 := B1.trans BW; have kl2 := Blk.keep BW kl1; have kl4 := kl2.far (p := ⟨gb, 0, none⟩) zlb (.slice A5 5 c5); have S3 : w3.cell? ⟨gl, 0, none⟩ = some (.slice A1 U c1) ∧ w3.cell? ⟨gl, 1, none⟩ = some (.slice (cutA A1 c1 U) (n - U) (c1 - U)) ∧ w3.cell? ⟨gl, 2, none⟩ = some (.int .u8 x0) ∧ w3.cell? ⟨gl, 3, none⟩ = some (.int .u8 x1) ∧ w3.cell? ⟨gl, 4, none⟩ = some (.int .u16 L) ∧ w3.cell? ⟨gl, 5, none⟩ = some (.int .i64 U) ∧ w3.cell? ⟨gl, 6, none⟩ = some (.int .u32 Y) := ⟨kl2.cell 0, kl2.cell 1, kl2.cell 2, kl2.cell 3, kl2.cell 4, kl2.cell 5, kl2.cell 6⟩; have S4 : (w3.setCell ⟨gb, 0, none⟩ (.slice A5 5 c5)).cell? ⟨gl, 0, none⟩ = some (.slice A1 U c1) ∧ (w3.setCell ⟨gb, 0, none⟩ (.slice A5 5 c5)).cell? ⟨gl, 1, none⟩ = some (.slice (cutA A1 c1 U) (n - U) (c1 - U)) ∧ (w3.setCell ⟨gb, 0, none⟩ (.slice A5 5 c5)).cell? ⟨gl, 2, none⟩ = some (.int .u8 x0) ∧ (w3.setCell ⟨gb, 0, none⟩ (.slice A5 5 c5)).cell? ⟨gl, 3, none⟩ = some (.int .u8 x1) ∧ (w3.setCell ⟨gb, 0, none⟩ (.slice A5 5 c5)).cell? ⟨gl, 4, none⟩ = some (.int .u16 L) ∧ (w3.setCell ⟨gb, 0, none⟩ (.slice A5 5 c5)).cell? ⟨gl, 5, none⟩ = some (.int .i64 U) ∧ (w3.setCell ⟨gb, 0, none⟩ (.slice A5 5 c5)).cell? ⟨gl, 6, none⟩ = some (.int .u32 Y) := ⟨kl4.cell 0, kl4.cell 1, kl4.cell 2, kl4.cell 3, kl4.cell 4, kl4.cell 5, kl4.cell 6⟩; have cb3 := kb3.cell; have fb3 := kb3.frozen; have zb3 := kb3.lt; have cr3 := kr3.cell; have fr3 := kr3.frozen; have zr3 := kr3.lt))
  all_goals
    go_wp2_with fail
    have hY : IntKind.u64.wrap Y = Y := by rw [IntKind.wrap_u64]; omega
    rw [hY] at ho5
    have hL : LyrV (fun k => w.heap.size < k ∧ k ≠ gb) w3 (.agg #[.slice A5 5 c5, .slice none 0 0, .slice none 0 0, .slice A2 m c2]) ⟨[x0, x1, L, (U : Int), Y], [], [], p⟩ :=
      ⟨_, _, _, _, rfl, own_numV (l := [x0, x1, L, (U : Int), Y]) ho5 (fun k h1 _ => ⟨by have : W.heap.size ≤ k := h1; omega, by have : W.heap.size ≤ k := h1; omega⟩), DataV.nil _ _, PartsV.nil _ _, v33.out⟩
    have hL1 := LyrV.keepF hL ((KeepF.refl _ w3).setCell (p := ⟨gb, 0, none⟩) (fun h => h.2 rfl) (.slice A5 5 c5))
    have hL2 := LyrV.boxed (g := w.heap.size) hL1 (fun h => Nat.lt_irrefl _ h.1) (.slice A5 5 c5) (.slice none 0 0) (.slice none 0 0) (.slice A2 m c2)
    have BF := Bl.boxed (Below.setCell B4 (p := ⟨gb, 0, none⟩) (Nat.le_of_lt zr') (.slice A5 5 c5)) (Nat.le_refl _) (.slice A5 5 c5) (.slice none 0 0) (.slice none 0 0) (.slice A2 m c2)
    have kf := ((((kr3.far (p := ⟨gb, 0, none⟩) hgb (.slice A5 5 c5)).set 0 (.slice A5 5 c5)).set 1 (.slice none 0 0)).set 2 (.slice none 0 0)).set 3 (.slice A2 m c2)
    have cf := kf.cell
    clear hL hL1 kf
    generalize (((((w3.setCell ⟨gb, 0, none⟩ (.slice A5 5 c5)).setCell ⟨w.heap.size, 0, none⟩ (.slice A5 5 c5)).setCell ⟨w.heap.size, 1, none⟩ (.slice none 0 0)).setCell ⟨w.heap.size, 2, none⟩ (.slice none 0 0)).setCell ⟨w.heap.size, 3, none⟩ (.slice A2 m c2)) = WF at *
    refine bodyPost_ret (v := .tuple #[.agg #[.slice A5 5 c5, .slice none 0 0, .slice none 0 0, .slice A2 m c2], .bool true]) (by simp [results, Try.results49, go_sem, cf]) rfl ⟨_, rfl, LyrV.mono hL2 (fun k h => Nat.le_of_lt h.1), BF⟩
end Go.Proofs.Ytoljdgfbkebgcaa
namespace Go.Proofs.Ytoljdgfbkebgcaa
open Go.RowKit
set_option linter.unusedVariables false
def sShu : ByteArray := ⟨#[115, 99, 116, 112, 115, 104, 117, 116, 100, 111, 119, 110]⟩
set_option maxHeartbeats 1000000 in
theorem zzShu_ok (l : List Int) (hl : By l) (h4' : 4 ≤ chL l) (hup : up4 (chL l) ≤ l.length) (h0 : l.getD 0 0 ≠ 0) (hn2 : l.length ≤ 2000) (h8 : 8 ≤ l.length) : ZzOk ⟨#[115, 99, 116, 112, 115, 104, 117, 116, 100, 111, 119, 110]⟩ l 130 132 (fun A n c => (chk A n c l).push (.int .u32 (be (sub l 4 8)))) := by
  intro A n c w h
  have hlen := h.len
  have hup' : up4 (chL l) ≤ n := by omega
  have h5 : n ≤ 2147483647 := by omega
  have H := Lib.hid h
  have HB := Lib.hid hl
  have H0 := Lib.hid h0
  clear h hl h0
  go_enter Try.func69, Try.ntmps69
  go_wp2_with fail
  (with_reducible refine (errNew_any _ _).mono ?_)
  rintro e w1 ⟨rfl, hb1⟩
  have k1 := Blk.keep hb1 (Blk.new w _ _)
  have hz : w.heap.size < w1.heap.size := k1.lt
  go_wp2_with fail
  (with_reducible refine (decShu_any _ _ _ _ _ _ (H.out.below (Bl.trans (by go_grown) hb1)) HB.out h4' hup' H0.out h5 (by omega) _ k1).mono ?_)
  rintro e w2 ⟨rfl, gl, kp⟩
  have c2 := kp.keeper.cell
  go_wp2_with fail
  go_ret2
  exact ⟨gl, rfl, Below.trans (Bl.trans (by go_grown) hb1) kp.low, kp.layer⟩
theorem zzShu_err (l : List Int) (hl : By l) (h4 : 4 ≤ l.length) (hL : chL l < 4) : ZzErr ⟨#[115, 99, 116, 112, 115, 104, 117, 116, 100, 111, 119, 110]⟩ l := by
  intro A n c w h
  have hlen := h.len
  have h4n : 4 ≤ n := by omega
  have H := Lib.hid h
  have HB := Lib.hid hl
  clear h hl
  go_enter Try.func69, Try.ntmps69
  go_wp2_with fail
  (with_reducible refine (errNew_any _ _).mono ?_)
  rintro e w1 ⟨rfl, hb1⟩
  have hz : w.heap.size < w1.heap.size := by have := hb1.size; simp at this; omega
  go_wp2_with fail
  (with_reducible refine (decShu_short _ _ _ _ _ (H.out.below (Bl.trans (by go_grown) hb1)) HB.out h4n hL _).mono ?_)
  rintro e w2 ⟨⟨u, rfl⟩, hb2⟩
  go_wp2_with fail
  go_ret2
  exact ⟨⟨_, rfl⟩, Bl.trans (Bl.trans (by go_grown) hb1) hb2⟩
set_option maxHeartbeats 1000000 in
theorem calledShu_yes (l : List Int) (hl : By l) (h4' : 4 ≤ chL l) (hup : up4 (chL l) ≤ l.length) (h0 : l.getD 0 0 ≠ 0) (hn2 : l.length ≤ 2000) (h8 : 8 ≤ l.length) : CallAt ⟨#[115, 99, 116, 112, 115, 104, 117, 116, 100, 111, 119, 110]⟩ l true := by
  intro A n c w h
  have hlen := h.len
  have u4 : chL l ≤ up4 (chL l) := by unfold up4; omega
  have HH := Lib.hid h
  have HB := Lib.hid hl
  obtain ⟨g, o, rfl, hg, hc⟩ := h.at (by omega)
  have d0 := hc 0 (by omega)
  simp only [Nat.add_zero] at d0
  have h4 : 4 ≤ n := by omega
  have h5 : n ≤ 2000 := by omega
  have h8 : 8 ≤ n := by omega
  have e1 : be (sub l 2 (2 + 2)) = (chL l : Int) := chL_int l hl
  have b1 : 4 ≤ be (sub l 2 (2 + 2)) := by omega
  have b2 : be (sub l 2 (2 + 2)) ≤ 65535 := by have := chL_le l hl (by omega); omega
  have b3 : (be (sub l 2 (2 + 2)) + 3) / 4 * 4 ≤ (n : Int) := by rw [e1]; unfold up4 at hup; omega
  have b4 : be (sub l 2 (2 + 2)) ≤ (n : Int) := by omega
  generalize l.getD 0 0 = x0 at *
  have H0 := Lib.hid h0
  have d0' : ∀ q, (w.drewN q).cell? ⟨g, o, none⟩ = some (.int .u8 x0) := fun q => d0
  clear h hlen hn2 hl e1 hc h4' hup h0 d0 u4
  go_enter Try.func68, Try.ntmps68
  go_wp2_with fail
  (with_reducible refine (number_any _ _ _ 2 _ _ HH.out HB.out (by omega) (by omega) 2 rfl).mono ?_)
  rintro e w1 ⟨rfl, q, rfl⟩
  generalize be (sub l 2 (2 + 2)) = L at *
  go_wp2_with fail
  (with_reducible refine (iup_any _ (by omega) (by omega) _).mono ?_)
  rintro e w1 ⟨rfl, rfl⟩
  generalize (L + 3) / 4 * 4 = U at *
  have h0 := H0.out
  go_wp2_with fail
  go_ret
  exact ⟨ret_bool (by simp; try omega), (Bl.refl _).drewN _⟩
theorem readShu_no (l : List Int) (hd : ∀ (A : Option Addr) (n c : Nat) (w : World), Rd .u8 w A n c l → Calls Try.prog 48 #[.string ⟨#[115, 99, 116, 112, 115, 104, 117, 116, 100, 111, 119, 110]⟩, .slice A n c] w fun e w' => e = .returned (.tuple #[.nilIface, .bool false]) ∧ Bl w w') : NoReadAt ⟨#[115, 99, 116, 112, 115, 104, 117, 116, 100, 111, 119, 110]⟩ l := by
  intro A n c w h
  have H := Lib.hid h
  have HD := Lib.hid hd
  clear h hd
  go_enter Try.func33, Try.ntmps33
  go_wp2_with fail
  (with_reducible refine (HD.out _ _ _ _ (H.out.below (by go_grown))).mono ?_)
  rintro e w1 ⟨rfl, hb1⟩
  have kr := Blk.keep hb1 (Blk.new w _ _)
  have cr := kr.cell
  have fr := kr.frozen
  have zr := kr.lt
  have B2 := Lib.hid (Bl.trans (Below.alloc (Below.refl _ w) (Nat.le_refl _) _) hb1)
  go_wp2_with fail
  refine bodyPost_ret (v := .tuple #[.agg #[.slice none 0 0, .slice none 0 0, .slice none 0 0, .slice none 0 0], .bool false]) (by simp [results, Try.results33, go_sem, cr]) rfl
    ⟨rfl, Bl.boxed B2.out (Nat.le_refl _) _ _ _ _⟩
set_option maxHeartbeats 1000000 in
theorem readShu_ok (l : List Int) (hl : By l) (h4' : 4 ≤ chL l) (hup : up4 (chL l) ≤ l.length) (h0 : l.getD 0 0 ≠ 0) (hn2 : l.length ≤ 2000) (h8 : 8 ≤ l.length) :
    ReadAt ⟨#[115, 99, 116, 112, 115, 104, 117, 116, 100, 111, 119, 110]⟩ l ⟨[l.getD 0 0, l.getD 1 0, be (sub l 2 4), (up4 (chL l) : Int), be (sub l 4 8)], [], [], sub l (up4 (chL l)) l.length⟩ := by
  intro A n c w h
  have H := Lib.hid h
  have HB := Lib.hid hl
  have hlen := h.len
  have hup' : up4 (chL l) ≤ n := by omega
  have hn2' : n ≤ 2000 := by omega
  have HC := Lib.hid (calledShu_yes l hl h4' hup h0 hn2 (by omega))
  have HZ := Lib.hid (zzShu_ok l hl h4' hup h0 hn2 (by omega))
  clear h hl h0
  go_enter Try.func33, Try.ntmps33
  go_wp2_with fail
  (with_reducible refine (decoded_ok _ _ _ _ _ hn2 HC.out HZ.out _ _ _ _ (H.out.below (by go_grown))).mono ?_)
  rintro e w1 ⟨A1, c1, gl, rfl, ho, r1⟩
  have R1 := Lib.hid r1
  have kl := ho.layer
  have kr := Blk.keep ho.bl (Blk.new w _ _)
  have cl : w1.cell? ⟨gl, 1, none⟩ = some (.slice (cutA A1 c1 (up4 (chL l))) (n - up4 (chL l)) (c1 - up4 (chL l))) := by rw [kl.cell]; rfl
  have HO := Lib.hid ho.bl
  have zr := kr.lt
  clear r1 ho
  go_wp2_with fail
  (with_reducible refine (payload_any _ _ _ _ _ cl).mono ?_)
  rintro e w2 ⟨rfl, rfl⟩
  go_wp2_with fail
  have q := (R1.out.cut (up4 (chL l)) n (by omega) (by omega))
  (with_reducible refine (toldShu_any _ _ _ _ _ _ _ _ _ _ HB.out h4' hup' (by omega) hn2' R1.out kl q (HB.out.sub _ _) (by omega)).mono ?_)
  rintro e w2 ⟨v, rfl, hL, hb2⟩
  obtain ⟨A4, c4, A5, c5, A6, c6, A7, c7, rfl⟩ := hL.form
  have HL := Lib.hid hL
  clear hL
  have kr2 := Blk.keep hb2 kr
  have cr := kr2.cell
  have fr := kr2.frozen
  have zr2 := kr2.lt
  have B2 := Lib.hid ((Bl.trans (Below.alloc (Below.refl _ w) (Nat.le_refl _) _) HO.out).trans hb2)
  have hz : w.heap.size ≤ w1.heap.size := Nat.le_of_lt zr
  subst hlen
  go_wp2_with fail
  refine bodyPost_ret (v := .tuple #[.agg #[.slice A4 5 c4, .slice A5 0 c5, .slice A6 0 c6, .slice A7 (sub l (up4 (chL l)) l.length).length c7], .bool true]) (by simp [results, Try.results33, go_sem, cr]) rfl
    ⟨_, rfl, LyrV.mono (LyrV.boxed HL.out (by show ¬ (w1.heap.size ≤ w.heap.size); omega) _ _ _ _) (fun k hk => Nat.le_trans hz hk), Bl.boxed B2.out (Nat.le_refl _) _ _ _ _⟩
end Go.Proofs.Ytoljdgfbkebgcaa
