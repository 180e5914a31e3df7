/- impl.Write: sctpcookieecho. -/
import Derived.Test.YtoljdgfbkebgcaaMaCoo
import Derived.Test.YtoljdgfbkebgcaaSeCoo
import Derived.Test.YtoljdgfbkebgcaaCopy
import Derived.Test.YtoljdgfbkebgcaaMeth
import Derived.LoopTactic
import Derived.Test.YtoljdgfbkebgcaaChk
namespace Go.Proofs.Ytoljdgfbkebgcaa
open Go.RowKit
set_option maxHeartbeats 4000000 in
set_option maxRecDepth 100000 in
theorem wrCoo_any (A0 A2 A3 : Option Addr) (g1 o1 : Nat) (A5 : Option Addr) (m c5 : Nat) (p : List Int) (c0 c1 c2 c3 : Nat) (x0 x1 L U : Int) (fix : Bool) (w : World) (h : Rd .u64 w A0 4 c0 [x0, x1, L, U]) (b0 : 0 ≤ x0 ∧ x0 ≤ 255) (b1 : 0 ≤ x1 ∧ x1 ≤ 255) (b2 : 0 ≤ L ∧ L ≤ 65535) (b3 : 0 ≤ U ∧ U ≤ 4294967295) (hg1 : w.cell? ⟨g1, o1, none⟩ = some (.slice A5 m c5)) (hp : Rd .u8 w A5 m c5 p) (hm : m ≤ 1000) (hk4 : up4 (4 + m) = 4 + m) :
    Calls Try.prog 28 #[.string ⟨#[115, 99, 116, 112, 99, 111, 111, 107, 105, 101, 101, 99, 104, 111]⟩, .agg #[.slice A0 4 c0, .slice (some ⟨g1, o1, none⟩) 1 c1, .slice A2 0 c2, .slice A3 0 c3], .bool fix, .bool false] w fun e w' =>
      ∃ A c, e = .returned (.tuple #[.slice A (4 + m) c, .bool true]) ∧ Rd .u8 w' A (4 + m) c ([x0, x1, (4 + (m : Int)) / 256, (4 + (m : Int)) % 256] ++ p) ∧ Bl w w' := by
  have H := Lib.hid h
  have HP := Lib.hid hp
  have HK4 := Lib.hid hk4
  have HG := Lib.hid hg1
  have hm' : (m : Int) ≤ 2000 := by omega
  clear h hp hk4 hg1
  go_enter Try.func28, Try.ntmps28
  go_wp2_with fail
  have BA : Bl w (w.alloc (.cells #[.slice A0 4 c0, .slice (some ⟨g1, o1, none⟩) 1 c1, .slice A2 0 c2, .slice A3 0 c3] 35)) := by go_grown
  have hg2 := Bl.keeps BA HG.out
  go_loop [32] (fun i => ∃ k : Nat, k ≤ 1 ∧ i = .int .i64 k) (fun i => 1 - (intOf i).toNat)
  case atStart => exact ⟨0, by omega, rfl⟩
  case round =>
    obtain ⟨k, hk, rfl⟩ := hrel
    rcases (show k = 0 ∨ k = 1 by omega) with rfl | rfl
    · go_wp2_with fail
      go_round
      case rel => exact ⟨1, by omega, rfl⟩
      case measure => simp [intOf]
    clear hg2
    go_wp2_with fail
    go_loop [43] (fun i => i = .int .i64 0) (fun _ => 0)
    case atStart => rfl
    case round =>
      subst hrel
      go_wp2_with fail
      (with_reducible refine (maCoo_any _ _ _ _ _ _ _ _ x0 x1 L U p A5 m c5 g1 o1 _ (H.out.below (by go_grown)) b0 b1 b2 b3 (Bl.keeps BA HG.out) (HP.out.below (by go_grown)) (by omega)).mono ?_)
      rintro e w1 ⟨gx, rfl, hb1, A6, c6, kx1, ho1⟩
      obtain ⟨A6', c6', e6, r1⟩ := own_rd ho1
      simp at e6
      obtain ⟨rfl, rfl⟩ := e6
      have RP1 := Lib.hid r1
      have HI := Lib.hid (own_inF (F := (· ≠ w1.heap.size)) ho1 (fun k _ h => Nat.ne_of_lt h) m)
      clear ho1 r1
      have kw1 := Blk.keep hb1 (Blk.new w _ _)
      have B1 : Bl w w1 := Bl.trans (by go_grown) hb1
      have cw := kw1.cell
      clear hb1
      go_wp2_with fail
      (with_reducible refine (newBuf_any _).mono ?_)
      rintro e w2 ⟨rfl, hb2, kb2⟩
      have kw2 := Blk.keep hb2 kw1
      have kx2 := Blk.keep hb2 kx1
      have B2 := B1.trans hb2
      have RP2 := Lib.hid (RP1.out.below hb2)
      have cw := kw2.cell
      have hzb : w.heap.size < w1.heap.size := kw1.lt
      have hxb : gx ≠ w1.heap.size := Nat.ne_of_lt kx1.lt
      have hwb : w.heap.size ≠ w1.heap.size := Nat.ne_of_lt hzb
      clear kw1 kx1 B1 hb2
      generalize w1.heap.size = gb at *
      go_wp2_with fail
      (with_reducible refine (appendB0 gb _ kb2).mono ?_)
      rintro e w3 ⟨rfl, ch3, kb3⟩
      have kw3 := kw2.chg ch3 hwb
      have kx3 := kx2.chg ch3 hxb
      have B3 : Bl w w3 := ch3.bl B2 (Nat.le_of_lt hzb)
      have RP3 := Lib.hid (RP2.out.chg ch3 HI.out)
      have cw := kw3.cell
      have cx := kx3.cell
      have KB3 := Lib.hid kb3
      have KX3 := Lib.hid kx3
      clear kw2 kx2 kb2 B2 ch3 kb3 kx3
      have hcp : ∀ W, (Builtin.copy_ #[24, 24] 3 #[.slice none 0 0, .slice A3 0 c3]).run Try.prog W = .ok (goInt 0) W := fun W => run_copy_none (P := Try.prog) W 24 24 3 5 none A3 0 0 0 c3 Try.underlying24 info5s rfl
      have hmt := recvCoo gx w3 _ _ _ _ _ _ _ KX3.out
      go_wp2_with fail
      clear hmt hcp cw cx
      (with_reducible refine (seCoo_any gb none 0 0 0 [] x0 x1 L U A6 m c6 p fix false w3 KB3.out (Rd.nil _ _ _ _) (InF.zero _ _) (by omega) b0 b1 RP3.out HI.out hm HK4.out).mono ?_)
      rintro e w4 ⟨h', rfl, hle, ch4, kb4, r4⟩
      have B4 : Bl w w4 := ch4.bl B3 (Nat.le_of_lt hzb)
      have R4 : Hid (Rd .u8 w4 (some ⟨h', 0, none⟩) (4 + m) (4 + m) ([x0, x1, (4 + (m : Int)) / 256, (4 + (m : Int)) % 256] ++ p)) := Lib.hid (by simpa using r4)
      clear r4 ch4 kw3 KX3 KB3
      go_wp2_with fail
      (with_reducible refine (bytesB gb _ _ _ _ _ _ kb4).mono ?_)
      rintro e w5 ⟨rfl, q, rfl⟩
      go_wp2_with fail
      (with_reducible refine (bclone_any _ _ _ _ _ (R4.out.below ((Bl.refl _).drewN _)) (by omega)).mono ?_)
      rintro e w6 ⟨⟨A8, c8, rfl, r6⟩, hb6⟩
      have B6 : Bl w w6 := (B4.drewN q).trans hb6
      have R6 := Lib.hid r6
      clear r6 hb6 kb4
      go_wp2_with fail
      go_ret2
      exact ⟨A8, c8, rfl, R6.out, B6⟩
end Go.Proofs.Ytoljdgfbkebgcaa
