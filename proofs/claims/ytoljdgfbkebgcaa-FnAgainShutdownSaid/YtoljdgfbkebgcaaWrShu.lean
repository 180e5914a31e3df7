/- impl.Write: sctpshutdown. -/
import Derived.Test.YtoljdgfbkebgcaaMaShu
import Derived.Test.YtoljdgfbkebgcaaSeShu
import Derived.Test.YtoljdgfbkebgcaaCopy
import Derived.Test.YtoljdgfbkebgcaaMeth
import Derived.LoopTactic
namespace Go.Proofs.Ytoljdgfbkebgcaa
open Go.RowKit
set_option maxHeartbeats 4000000 in
set_option maxRecDepth 100000 in
theorem wrShu_any (A0 A1 A2 A3 : Option Addr) (c0 c1 c2 c3 : Nat) (x0 x1 L U Y : Int) (fix : Bool) (w : World) (h : Rd .u64 w A0 5 c0 [x0, x1, L, U, Y]) (b0 : 0 ≤ x0 ∧ x0 ≤ 255) (b1 : 0 ≤ x1 ∧ x1 ≤ 255) (b2 : 0 ≤ L ∧ L ≤ 65535) (b3 : 0 ≤ U ∧ U ≤ 4294967295) (hY : 0 ≤ Y ∧ Y ≤ 4294967295) :
    Calls Try.prog 28 #[.string ⟨#[115, 99, 116, 112, 115, 104, 117, 116, 100, 111, 119, 110]⟩, .agg #[.slice A0 5 c0, .slice A1 0 c1, .slice A2 0 c2, .slice A3 0 c3], .bool fix, .bool false] w fun e w' =>
      ∃ A c, e = .returned (.tuple #[.slice A 8 c, .bool true]) ∧ Rd .u8 w' A 8 c [x0, x1, 0, 8, Y / 16777216, Y / 65536 % 256, Y / 256 % 256, Y % 256] ∧ Bl w w' := by
  have H := Lib.hid h
  clear h
  go_enter Try.func28, Try.ntmps28
  go_wp2_with fail
  go_loop [32] (fun i => i = .int .i64 0) (fun _ => 0)
  case atStart => rfl
  case round =>
    subst hrel
    go_wp2_with fail
    go_loop [43] (fun i => i = .int .i64 0) (fun _ => 0)
    case atStart => rfl
    case round =>
      subst hrel
      go_wp2_with fail
      (with_reducible refine (maShu_any _ _ _ _ _ _ _ _ _ x0 x1 L U Y _ (H.out.below (by go_grown)) b0 b1 b2 b3 hY).mono ?_)
      rintro e w1 ⟨gx, rfl, hb1, kx1⟩
      have kw1 := Blk.keep hb1 (Blk.new w _ _)
      have B1 : Bl w w1 := Bl.trans (by go_grown) hb1
      have cw := kw1.cell
      clear hb1
      go_wp2_with fail
      (with_reducible refine (newBuf_any _).mono ?_)
      rintro e w2 ⟨rfl, hb2, kb2⟩
      have kw2 := Blk.keep hb2 kw1
      have kx2 := Blk.keep hb2 kx1
      have B2 := B1.trans hb2
      have cw := kw2.cell
      have hzb : w.heap.size < w1.heap.size := kw1.lt
      have hxb : gx ≠ w1.heap.size := Nat.ne_of_lt kx1.lt
      have hwb : w.heap.size ≠ w1.heap.size := Nat.ne_of_lt hzb
      clear kw1 kx1 B1 hb2
      generalize w1.heap.size = gb at *
      go_wp2_with fail
      (with_reducible refine (appendB0 gb _ kb2).mono ?_)
      rintro e w3 ⟨rfl, ch3, kb3⟩
      have kw3 := kw2.chg ch3 hwb
      have kx3 := kx2.chg ch3 hxb
      have B3 : Bl w w3 := ch3.bl B2 (Nat.le_of_lt hzb)
      have cw := kw3.cell
      have cx := kx3.cell
      have KB3 := Lib.hid kb3
      have KX3 := Lib.hid kx3
      clear kw2 kx2 kb2 B2 ch3 kb3 kx3
      have hcp : ∀ W, (Builtin.copy_ #[24, 24] 3 #[.slice none 0 0, .slice A3 0 c3]).run Try.prog W = .ok (goInt 0) W := fun W => run_copy_none (P := Try.prog) W 24 24 3 5 none A3 0 0 0 c3 Try.underlying24 info5s rfl
      have hmt := recvShu gx w3 _ _ _ _ _ _ _ KX3.out
      go_wp2_with fail
      clear hmt hcp cw cx
      (with_reducible refine (seShu_any gb none 0 0 0 [] x0 x1 L U Y fix false w3 KB3.out (Rd.nil _ _ _ _) (InF.zero _ _) (by omega) b0 b1 hY).mono ?_)
      rintro e w4 ⟨h', rfl, hle, ch4, kb4, r4⟩
      have B4 : Bl w w4 := ch4.bl B3 (Nat.le_of_lt hzb)
      have R4 : Hid (Rd .u8 w4 (some ⟨h', 0, none⟩) (8 + 0) (0 + 8) [x0, x1, 0, 8, Y / 16777216, Y / 65536 % 256, Y / 256 % 256, Y % 256]) := Lib.hid (by simpa using r4)
      clear r4 ch4 kw3 KX3 KB3
      go_wp2_with fail
      (with_reducible refine (bytesB gb _ _ _ _ _ _ kb4).mono ?_)
      rintro e w5 ⟨rfl, q, rfl⟩
      go_wp2_with fail
      (with_reducible refine (bclone_any _ _ _ _ _ (R4.out.below ((Bl.refl _).drewN _)) (by omega)).mono ?_)
      rintro e w6 ⟨⟨A6, c6, rfl, r6⟩, hb6⟩
      have B6 : Bl w w6 := (B4.drewN q).trans hb6
      have R6 := Lib.hid r6
      clear r6 hb6 kb4
      go_wp2_with fail
      go_ret2
      exact ⟨A6, c6, rfl, R6.out, B6⟩
end Go.Proofs.Ytoljdgfbkebgcaa
