/- impl.Write: sctp. -/
import Derived.Test.YtoljdgfbkebgcaaMaSctp
import Derived.Test.YtoljdgfbkebgcaaSeSctp
import Derived.Test.YtoljdgfbkebgcaaBuf2
import Derived.Test.YtoljdgfbkebgcaaCopy
import Derived.Test.YtoljdgfbkebgcaaMeth
import Derived.LoopTactic
namespace Go.Proofs.Ytoljdgfbkebgcaa
open Go.RowKit
theorem splice_whole {α : Type} (L cs : List α) (h : cs.length = L.length) : splice L 0 cs = cs := by
  unfold splice; simp [h]
/-- A block written whole. -/
theorem blk_rds {w : World} {h n : Nat} {cs : List Value} {l : List Int} (K : Blk w h (splice cs 0 (l.map (Value.int .u8))).toArray 5) (hl : l.length = n) (hc : cs.length = n) : Rd .u8 w (some ⟨h, 0, none⟩) n n l := by
  refine ⟨hl, Nat.le_refl _, fun i hi => ⟨h, 0, rfl, ?_⟩⟩
  rw [Nat.zero_add, K.cell, List.getElem?_toArray, splice_whole _ _ (by simp; omega), List.getElem?_map, List.getElem?_eq_getElem (show i < l.length by omega)]
  simp [List.getD_eq_getElem?_getD, List.getElem?_eq_getElem (show i < l.length by omega)]
set_option maxHeartbeats 4000000 in
set_option maxRecDepth 100000 in
theorem wrSctp0 (A0 A1 A2 A3 : Option Addr) (c0 c1 c2 n c3 : Nat) (S D T C : Int) (p : List Int) (fix sum : Bool) (w : World) (h : Rd .u64 w A0 4 c0 [S, D, T, C]) (hS : 0 ≤ S ∧ S ≤ 65535) (hD : 0 ≤ D ∧ D ≤ 65535) (hT : 0 ≤ T ∧ T ≤ 4294967295) (hC : 0 ≤ C ∧ C ≤ 4294967295) (hp : Rd .u8 w A3 n c3 p) (hn0 : n = 0) (hn : n ≤ 1000) :
    Calls Try.prog 28 #[.string ⟨#[115, 99, 116, 112]⟩, .agg #[.slice A0 4 c0, .slice A1 0 c1, .slice A2 0 c2, .slice A3 n c3], .bool fix, .bool sum] w fun e w' =>
      ∃ A c, e = .returned (.tuple #[.slice A (12 + n) c, .bool true]) ∧ Rd .u8 w' A (12 + n) c (sctpOut sum S D T p) ∧ Bl w w' := by
  obtain rfl := hn0
  have H := Lib.hid h
  have hpl := hp.len
  obtain rfl : p = [] := List.eq_nil_of_length_eq_zero hpl
  clear h hp hn hpl
  go_enter Try.func28, Try.ntmps28
  go_wp2_with fail
  go_loop [32] (fun i => i = .int .i64 0) (fun _ => 0)
  case atStart => rfl
  case round =>
    subst hrel
    go_wp2_with fail
    go_loop [43] (fun i => i = .int .i64 0) (fun _ => 0)
    case atStart => rfl
    case round =>
      subst hrel
      go_wp2_with fail
      (with_reducible refine (maSctp_any _ _ _ _ _ _ _ _ _ S D T C _ (H.out.below (by go_grown)) hS hD hT hC).mono ?_)
      rintro e w1 ⟨gx, rfl, hb1, kx1⟩
      have kw1 := Blk.keep hb1 (Blk.new w _ _)
      have B1 : Bl w w1 := Bl.trans (by go_grown) hb1
      have cw := kw1.cell
      clear hb1
      go_wp2_with fail
      (with_reducible refine (newBuf_any _).mono ?_)
      rintro e w2 ⟨rfl, hb2, kb2⟩
      have kw2 := Blk.keep hb2 kw1
      have kx2 := Blk.keep hb2 kx1
      have B2 := B1.trans hb2
      have cw := kw2.cell
      have hzb : w.heap.size < w1.heap.size := kw1.lt
      have hxb : gx ≠ w1.heap.size := Nat.ne_of_lt kx1.lt
      have hwb : w.heap.size ≠ w1.heap.size := Nat.ne_of_lt hzb
      clear kw1 kx1 B1 hb2
      generalize w1.heap.size = gb at *
      go_wp2_with fail
      (with_reducible refine (appendB0 gb _ kb2).mono ?_)
      rintro e w3 ⟨rfl, ch3, kb3⟩
      have kw3 := kw2.chg ch3 hwb
      have kx3 := kx2.chg ch3 hxb
      have B3 : Bl w w3 := ch3.bl B2 (Nat.le_of_lt hzb)
      have cw := kw3.cell
      have KB3 := Lib.hid kb3
      have KX3 := Lib.hid kx3
      clear kw2 kx2 kb2 B2 ch3 kb3 kx3
      have hcp : ∀ W, (Builtin.copy_ #[24, 24] 3 #[.slice none 0 0, .slice A3 0 c3]).run Try.prog W = .ok (goInt 0) W := fun W => run_copy_none (P := Try.prog) W 24 24 3 5 none A3 0 0 0 c3 Try.underlying24 info5s rfl
      have hmt := recvSctp gx w3 _ _ _ _ _ _ KX3.out
      go_wp2_with fail
      clear hmt hcp cw
      (with_reducible refine (seSctp_any gb none 0 0 0 [] S D T C fix sum w3 KB3.out (Rd.nil _ _ _ _) (InF.zero _ _) (by omega) hS hD hT).mono ?_)
      rintro e w4 ⟨h', rfl, hle, ch4, kb4, r4⟩
      have B4 : Bl w w4 := ch4.bl B3 (Nat.le_of_lt hzb)
      have R4 := Lib.hid r4
      clear r4 ch4 kw3 KX3 KB3
      go_wp2_with fail
      (with_reducible refine (bytesB gb _ _ _ _ _ _ kb4).mono ?_)
      rintro e w5 ⟨rfl, q, rfl⟩
      go_wp2_with fail
      (with_reducible refine (bclone_any _ _ _ _ _ (R4.out.below ((Bl.refl _).drewN _)) (by omega)).mono ?_)
      rintro e w6 ⟨⟨A8, c8, rfl, r6⟩, hb6⟩
      have B6 : Bl w w6 := (B4.drewN q).trans hb6
      have R6 := Lib.hid r6
      clear r6 hb6 kb4
      go_wp2_with fail
      go_ret2
      exact ⟨A8, c8, rfl, R6.out, B6⟩
set_option maxHeartbeats 4000000 in
set_option maxRecDepth 100000 in
theorem wrSctp1 (A0 A1 A2 A3 : Option Addr) (c0 c1 c2 n c3 : Nat) (S D T C : Int) (p : List Int) (fix sum : Bool) (w : World) (h : Rd .u64 w A0 4 c0 [S, D, T, C]) (hS : 0 ≤ S ∧ S ≤ 65535) (hD : 0 ≤ D ∧ D ≤ 65535) (hT : 0 ≤ T ∧ T ≤ 4294967295) (hC : 0 ≤ C ∧ C ≤ 4294967295) (hp : Rd .u8 w A3 n c3 p) (hn0 : 0 < n) (hn : n ≤ 1000) :
    Calls Try.prog 28 #[.string ⟨#[115, 99, 116, 112]⟩, .agg #[.slice A0 4 c0, .slice A1 0 c1, .slice A2 0 c2, .slice A3 n c3], .bool fix, .bool sum] w fun e w' =>
      ∃ A c, e = .returned (.tuple #[.slice A (12 + n) c, .bool true]) ∧ Rd .u8 w' A (12 + n) c (sctpOut sum S D T p) ∧ Bl w w' := by
  have H := Lib.hid h
  have HP := Lib.hid hp
  have hpl := hp.len
  have hn2 : (n : Int) ≤ 2000 := by omega
  clear h hp
  go_enter Try.func28, Try.ntmps28
  go_wp2_with fail
  go_loop [32] (fun i => i = .int .i64 0) (fun _ => 0)
  case atStart => rfl
  case round =>
    subst hrel
    go_wp2_with fail
    go_loop [43] (fun i => i = .int .i64 0) (fun _ => 0)
    case atStart => rfl
    case round =>
      subst hrel
      go_wp2_with fail
      (with_reducible refine (maSctp_any _ _ _ _ _ _ _ _ _ S D T C _ (H.out.below (by go_grown)) hS hD hT hC).mono ?_)
      rintro e w1 ⟨gx, rfl, hb1, kx1⟩
      have kw1 := Blk.keep hb1 (Blk.new w _ _)
      have B1 : Bl w w1 := Bl.trans (by go_grown) hb1
      have RP1 := Lib.hid (HP.out.below B1)
      have HI := Lib.hid (show InF (· ≠ w1.heap.size) A3 n from fun _ x hx => by
        obtain ⟨g, o, rfl, hg, _⟩ := RP1.out.at hn0
        simp at hx
        subst hx
        exact Nat.ne_of_lt hg)
      have cw := kw1.cell
      clear hb1
      go_wp2_with fail
      (with_reducible refine (newBuf_any _).mono ?_)
      rintro e w2 ⟨rfl, hb2, kb2⟩
      have kw2 := Blk.keep hb2 kw1
      have kx2 := Blk.keep hb2 kx1
      have B2 := B1.trans hb2
      have RP2 := Lib.hid (RP1.out.below hb2)
      have cw := kw2.cell
      have hzb : w.heap.size < w1.heap.size := kw1.lt
      have hxb : gx ≠ w1.heap.size := Nat.ne_of_lt kx1.lt
      have hwb : w.heap.size ≠ w1.heap.size := Nat.ne_of_lt hzb
      clear kw1 kx1 B1 hb2
      generalize w1.heap.size = gb at *
      have kbl := kb2.lt
      go_wp2_with fail
      (with_reducible refine (appendB gb none 0 0 n 0 _ [] _ kb2 (Rd.nil _ _ _ _) (InF.zero _ _) rfl hn0 (by omega) (by omega) (by omega) (by omega) n (by omega)).mono ?_)
      rintro e w3 ⟨rfl, ch3, kb3, kd3⟩
      have kw3 := kw2.chg ch3 hwb
      have kx3 := kx2.chg ch3 hxb
      have B3 : Bl w w3 := ch3.bl B2 (Nat.le_of_lt hzb)
      have RP3 := Lib.hid (RP2.out.chg ch3 HI.out)
      have cw := kw3.cell
      have KB3 := Lib.hid kb3
      have KX3 := Lib.hid kx3
      have KW3 := Lib.hid kw3
      have hgb2 : gb ≠ w2.heap.size := Nat.ne_of_lt kbl
      have hw2 : w.heap.size < w2.heap.size := by have := kw2.lt; omega
      have hx2 : gx < w2.heap.size := kx2.lt
      have hzs : (splice (zs (0 + n)).toList 0 ([] |>.map (Value.int .u8))).length = n := by simp [splice, zs]
      have KD3 := Lib.hid kd3
      clear kw2 kx2 kb2 B2 ch3 kb3 kx3 kw3 kd3
      generalize w2.heap.size = h2 at *
      generalize splice (zs (0 + n)).toList 0 ([] |>.map (Value.int .u8)) = cs at *
      obtain ⟨w4, hcp, hb4, kd4⟩ : ∃ w4, (Builtin.copy_ #[24, 24] 3 #[.slice (some ⟨h2, 0, none⟩) n n, .slice A3 n c3]).run Try.prog w3 = .ok (goInt n) w4 ∧ Below h2 w3 w4 ∧ Blk w4 h2 (splice cs 0 (p.map (Value.int .u8))).toArray 5 := by
        obtain ⟨g, o, rfl, _, hc⟩ := RP3.out.at hn0
        have e := run_copy_row (P := Try.prog) w3 24 24 3 5 h2 0 n n ⟨g, o, none⟩ n c3 cs.toArray 5 (p.map (Value.int .u8)) Try.underlying24 info5s KD3.out.heap (by rw [List.length_map, hpl]; exact (Nat.min_self n).symm) (fun j u hj => RP3.out.src.cell _ rfl j u hj) (by simp [hpl, hzs]) (fun u hu => by simp at hu; obtain ⟨x, _, rfl⟩ := hu; rfl)
        rw [List.length_map, hpl] at e
        refine ⟨_, e, below_setRow (Below.refl _ _) (Nat.le_refl _) _, ⟨?_⟩⟩
        have := setRow_heap w3 h2 cs.toArray (splice cs 0 (p.map (Value.int .u8))).toArray 5 _ KD3.out.heap
        simpa [splice, hpl] using this
      have kb4 : Blk w4 gb (bfC (some ⟨h2, 0, none⟩) (0 + n) (0 + n) 0 ((0 + n : Nat) : Int)) 144 := ⟨(hb4.block gb kbl).trans KB3.out.heap⟩
      have rd4 := blk_rds kd4 hpl hzs
      have kx4 : Blk w4 gx _ 95 := ⟨(hb4.block gx hx2).trans KX3.out.heap⟩
      have B4 : Bl w w4 := Below.trans B3 (hb4.mono (Nat.le_of_lt hw2))
      rw [Nat.zero_add] at kb4
      have hIF : InF (· ≠ gb) (some ⟨h2, 0, none⟩) n := fun _ x hx => by simp at hx; subst hx; exact Ne.symm hgb2
      have hmt := recvSctp gx w4 _ _ _ _ _ _ kx4
      have KB4 := Lib.hid kb4
      have KD4 := Lib.hid rd4
      clear kd4 rd4 hb4 kb4 kx4 KX3 KB3 KD3 B3 KW3 hzs
      go_wp2_with fail
      clear hmt hcp
      (with_reducible refine (seSctp_any gb (some ⟨h2, 0, none⟩) n n _ p S D T C fix sum w4 KB4.out KD4.out hIF (by omega) hS hD hT).mono ?_)
      rintro e w5 ⟨h', rfl, hle, ch5, kb5, r5⟩
      have B5 : Bl w w5 := ch5.bl B4 (Nat.le_of_lt hzb)
      have R5 := Lib.hid r5
      clear r5 ch5
      go_wp2_with fail
      (with_reducible refine (bytesB gb _ _ _ _ _ _ kb5).mono ?_)
      rintro e w6 ⟨rfl, q, rfl⟩
      go_wp2_with fail
      (with_reducible refine (bclone_any _ _ _ _ _ (R5.out.below ((Bl.refl _).drewN _)) (by omega)).mono ?_)
      rintro e w7 ⟨⟨A8, c8, rfl, r6⟩, hb6⟩
      have B6 : Bl w w7 := (B5.drewN q).trans hb6
      have R6 := Lib.hid r6
      clear r6 hb6 kb5
      go_wp2_with fail
      go_ret2
      exact ⟨A8, c8, rfl, R6.out, B6⟩
theorem wrSctp_any (A0 A1 A2 A3 : Option Addr) (c0 c1 c2 n c3 : Nat) (S D T C : Int) (p : List Int) (fix sum : Bool) (w : World) (h : Rd .u64 w A0 4 c0 [S, D, T, C]) (hS : 0 ≤ S ∧ S ≤ 65535) (hD : 0 ≤ D ∧ D ≤ 65535) (hT : 0 ≤ T ∧ T ≤ 4294967295) (hC : 0 ≤ C ∧ C ≤ 4294967295) (hp : Rd .u8 w A3 n c3 p) (hn : n ≤ 1000) :
    Calls Try.prog 28 #[.string ⟨#[115, 99, 116, 112]⟩, .agg #[.slice A0 4 c0, .slice A1 0 c1, .slice A2 0 c2, .slice A3 n c3], .bool fix, .bool sum] w fun e w' =>
      ∃ A c, e = .returned (.tuple #[.slice A (12 + n) c, .bool true]) ∧ Rd .u8 w' A (12 + n) c (sctpOut sum S D T p) ∧ Bl w w' := by
  rcases Nat.eq_zero_or_pos n with h0 | h0
  · exact wrSctp0 A0 A1 A2 A3 c0 c1 c2 n c3 S D T C p fix sum w h hS hD hT hC hp h0 hn
  · exact wrSctp1 A0 A1 A2 A3 c0 c1 c2 n c3 S D T C p fix sum w h hS hD hT hC hp h0 hn
end Go.Proofs.Ytoljdgfbkebgcaa
