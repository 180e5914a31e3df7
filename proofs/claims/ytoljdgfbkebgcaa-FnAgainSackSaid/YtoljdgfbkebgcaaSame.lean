/- laws.same: of one layer twice it is true. -/
import Derived.Test.YtoljdgfbkebgcaaEq
namespace Go.Proofs.Ytoljdgfbkebgcaa
open Go.RowKit
structure Small (L : Lyr) : Prop where
  nums : L.nums.length ≤ 2147483647
  data : L.data.length ≤ 2147483647
  parts : L.parts.length ≤ 2147483647
  each : ∀ p ∈ L.parts, p.nums.length ≤ 2147483647

set_option maxHeartbeats 1000000 in
theorem same_any {F G : Nat → Prop} (a b : Value) (L : Lyr) (w : World) (ha : LyrV F w a L) (hb : LyrV G w b L) (hs : Small L) :
    Calls Try.prog 34 #[a, b] w fun e w' => e = .returned (.bool true) ∧ Bl w w' := by
  obtain ⟨a0, a1, a2, a3, rfl, ⟨A0, x0, rfl, _, r0⟩, ra1, ra2, ⟨⟨A3, x3, rfl, _, r3⟩, _⟩⟩ := ha
  obtain ⟨b0, b1, b2, b3, rfl, ⟨B0, y0, rfl, _, s0⟩, sb1, sb2, ⟨⟨B3, y3, rfl, _, s3⟩, _⟩⟩ := hb
  have ra1' := ra1
  have ra2' := ra2
  have sb1' := sb1
  have sb2' := sb2
  obtain ⟨A1, x1, rfl, _, _, _⟩ := ra1
  obtain ⟨A2, x2, rfl, _, _, _⟩ := ra2
  obtain ⟨B1, y1, rfl, _, _, _⟩ := sb1
  obtain ⟨B2, y2, rfl, _, _, _⟩ := sb2
  have N0 := hs.nums
  have N1 := hs.data
  have N2 := hs.parts
  have N3 := Lib.hid hs.each
  have R0 := Lib.hid (And.intro r0 s0)
  have R1 := Lib.hid (And.intro ra1' sb1')
  have R2 := Lib.hid (And.intro ra2' sb2')
  have R3 := Lib.hid (And.intro r3 s3)
  clear r0 s0 ra1' sb1' ra2' sb2' r3 s3 hs
  go_enter Try.func34, Try.ntmps34
  go_wp2_with fail
  (with_reducible refine (seq_any _ _ _ _ _ _ _ (R0.out.1.below (by go_grown)) (R0.out.2.below (by go_grown)) N0).mono ?_)
  rintro e w1 ⟨rfl, q1, rfl⟩
  go_wp2_with fail
  (with_reducible refine (eqData_any _ _ _ _ (R1.out.1.below (Bl.drewN (by go_grown) _)) (R1.out.2.below (Bl.drewN (by go_grown) _)) N1).mono ?_)
  rintro e w2 ⟨rfl, hb2⟩
  have B2 : Bl w w2 := Bl.trans (Bl.drewN (by go_grown) _) hb2
  have k1 : Blk w2 w.heap.size _ 35 := Blk.keep hb2 (Blk.same (Blk.alloc (Blk.new w _ _) _) rfl)
  have k2 : Blk w2 (w.heap.size + 1) _ 35 := Blk.keep hb2 (Blk.same (Blk.newAt (w.alloc _) _ _ _ (by simp)) rfl)
  have c1 := k1.cell
  have c2 := k2.cell
  go_wp2_with fail
  (with_reducible refine (eqParts_any _ _ _ _ (R2.out.1.below B2) (R2.out.2.below B2) N2 N3.out).mono ?_)
  rintro e w3 ⟨rfl, hb3⟩
  have c3 := (Blk.keep hb3 k1).cell
  have c4 := (Blk.keep hb3 k2).cell
  have B3 := B2.trans hb3
  go_wp2_with fail
  (with_reducible refine (bequal_any _ _ _ _ _ _ _ _ (R3.out.1.below B3) (R3.out.2.below B3)).mono ?_)
  rintro e w4 ⟨rfl, rfl⟩
  go_wp2_with fail
  go_ret
  exact ⟨rfl, B3⟩
end Go.Proofs.Ytoljdgfbkebgcaa
