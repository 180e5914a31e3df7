/- laws.alive is true. -/
import Derived.Test.YtoljdgfbkebgcaaRdSctp
namespace Go.Proofs.Ytoljdgfbkebgcaa
open Go.RowKit
def aliveBytes : List Int := [0, 7, 0, 8, 0, 0, 0, 9, 0, 0, 0, 0]
theorem aliveBytes_by : By aliveBytes := by
  intro x hx
  simp [aliveBytes] at hx
  omega
theorem alive_rd (w : World) : Rd .u8 (w.alloc (.cells #[.int .u8 0, .int .u8 7, .int .u8 0, .int .u8 8, .int .u8 0, .int .u8 0, .int .u8 0, .int .u8 9, .int .u8 0, .int .u8 0, .int .u8 0, .int .u8 0] 5)) (some ⟨w.heap.size, 0, none⟩) 12 12 aliveBytes := by
  refine Blk.rd .u8 (Blk.new w _ 5) aliveBytes (by decide) ?_
  intro i hi
  have : i < 12 := hi
  rcases i with _ | _ | _ | _ | _ | _ | _ | _ | _ | _ | _ | _ | i <;> first | rfl | omega
set_option maxHeartbeats 1000000 in
theorem alive_any (w : World) : Calls Try.prog 35 #[] w fun e w' => e = .returned (.bool true) ∧ Bl w w' := by
  go_enter Try.func35, Try.ntmps35
  go_wp2_with fail
  (with_reducible refine (readSctp_any _ _ _ aliveBytes _ (alive_rd w) aliveBytes_by (by decide) (by decide)).mono ?_)
  rintro e w1 ⟨v, rfl, hL, hb⟩
  obtain ⟨v0, v1, v2, v3, rfl, ⟨A0, c0, rfl, _, r0⟩, ⟨A1, c1, rfl, -⟩, ⟨A2, c2, rfl, -⟩, ⟨⟨A3, c3, rfl, -⟩, -⟩⟩ := hL
  obtain ⟨g, o, rfl, hg, hc⟩ := r0.at (by decide)
  have d0 : w1.cell? ⟨g, o + 0, none⟩ = some (.int .u64 7) := hc 0 (by decide)
  have e0 : (specSctp aliveBytes).nums.length = 4 := rfl
  have e1 : (specSctp aliveBytes).data.length = 0 := rfl
  have e2 : (specSctp aliveBytes).parts.length = 0 := rfl
  have e3 : (specSctp aliveBytes).payload.length = 0 := rfl
  simp only [Nat.add_zero] at d0
  rw [e0, e1, e2, e3]
  have B1 := Lib.hid (Bl.trans (Below.alloc (Below.refl _ w) (Nat.le_refl _) _) hb)
  clear hc r0 hb
  go_wp2_with fail
  go_ret
  exact ⟨rfl, B1.out.trans (by go_grown)⟩
end Go.Proofs.Ytoljdgfbkebgcaa
