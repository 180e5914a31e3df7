/- impl.chunk: the numbers of a chunk's head. -/
import Derived.Test.YtoljdgfbkebgcaaApp
namespace Go.Proofs.Ytoljdgfbkebgcaa
open Go.RowKit
theorem chunkv_any (A0 A1 : Option Addr) (n0 c0 n1 c1 : Nat) (x0 x1 L U : Int) (w : World) (h0 : 0 ≤ x0 ∧ x0 ≤ 255) (h1 : 0 ≤ x1 ∧ x1 ≤ 255) (h2 : 0 ≤ L ∧ L ≤ 65535) (h3 : 0 ≤ U ∧ U ≤ 2147483647) :
    Calls Try.prog 70 #[.agg #[.slice A0 n0 c0, .slice A1 n1 c1, .int .u8 x0, .int .u8 x1, .int .u16 L, .int .i64 U]] w fun e w' =>
      e = .returned (.slice (some ⟨w.heap.size + 1, 0, none⟩) 4 4) ∧ Bl w w' ∧ Blk w' (w.heap.size + 1) #[.int .u64 x0, .int .u64 x1, .int .u64 L, .int .u64 U] 26 ∧ w'.ownsRow w.heap.size 26 1 (.slice (some ⟨w.heap.size + 1, 0, none⟩) 4 4) 4 ([x0, x1, L, U].map (Value.int .u64)) := by
  go_enter Try.func70, Try.ntmps70
  go_wp2
  have k := Blk.newAt (w.alloc (.cells #[.slice A0 n0 c0, .slice A1 n1 c1, .int .u8 x0, .int .u8 x1, .int .u16 L, .int .i64 U] 100)) #[.int .u64 x0, .int .u64 x1, .int .u64 L, .int .u64 U] 26 (w.heap.size + 1) (by simp)
  go_ret
  exact ⟨rfl, by go_grown, k, rfl, .inr ⟨w.heap.size + 1, 4, _, rfl, by omega, k.heap, Nat.le_refl _, by decide, rfl, rfl⟩⟩
theorem chunkv_g (A0 A1 : Option Addr) (n0 c0 n1 c1 : Nat) (x0 x1 L U : Int) (w : World) (h0 : 0 ≤ x0 ∧ x0 ≤ 255) (h1 : 0 ≤ x1 ∧ x1 ≤ 255) (h2 : 0 ≤ L ∧ L ≤ 65535) (h3 : 0 ≤ U ∧ U ≤ 2147483647) :
    Calls Try.prog 70 #[.agg #[.slice A0 n0 c0, .slice A1 n1 c1, .int .u8 x0, .int .u8 x1, .int .u16 L, .int .i64 U]] w fun e w' =>
      ∃ gn, e = .returned (.slice (some ⟨gn, 0, none⟩) 4 4) ∧ Bl w w' ∧ w'.ownsRow w.heap.size 26 1 (.slice (some ⟨gn, 0, none⟩) 4 4) 4 ([x0, x1, L, U].map (Value.int .u64)) :=
  (chunkv_any A0 A1 n0 c0 n1 c1 x0 x1 L U w h0 h1 h2 h3).mono fun _ _ ⟨h, hb, _, ho⟩ => ⟨_, h, hb, ho⟩
end Go.Proofs.Ytoljdgfbkebgcaa
