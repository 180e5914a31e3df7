/- spec.Bytes: a number written, the highest byte first. -/
import Derived.Test.YtoljdgfbkebgcaaApp
import Derived.LoopTactic
namespace Go.Proofs.Ytoljdgfbkebgcaa
open Go.RowKit
set_option maxHeartbeats 2000000 in
theorem byt2 (x : Int) (w : World) (hx : 0 ≤ x ∧ x ≤ 65535) :
    Calls Try.prog 26 #[.int .u64 x, .int .i64 2] w fun e w' => (∃ A c, e = .returned (.slice A 2 c) ∧ w'.ownsRow w.heap.size 5 1 (.slice A 2 c) 2 (([x / 256, x % 256] : List Int).map (Value.int .u8))) ∧ Bl w w' := by
  go_enter Try.func26, Try.ntmps26
  go_wp2_with fail
  go_loopw [5, 6] (fun v i wr => ∃ (k : Nat) (A : Option Addr) (c : Nat), k ≤ 2 ∧ i = .int .i64 (1 - (k : Int)) ∧ v = .slice A k c ∧ wr.ownsRow w.heap.size 5 1 v k ((([x / 256, x % 256] : List Int).take k).map (Value.int .u8)) ∧ Bl w wr) (fun _ i _ => (intOf i + 1).toNat)
  case atStart => exact ⟨0, _, _, by omega, rfl, rfl, World.ownsRow_lit w #[] 0 (Nat.le_refl _) (by decide) rfl, by go_grown⟩
  case round =>
    obtain ⟨k, A, c, hk, rfl, rfl, ho, hb⟩ := hrel
    have HO := Lib.hid ho
    have hsz := hb.size
    clear ho
    match k, hk with
    | 0, _ =>
      go_wp2_with (at_builtin; refine wpList_app rfl (.tmp 14) (.tmp 20) 24 5 (.int .u8 0) 1 1 w.heap.size rfl Try.underlying24 info5 rfl (by decide) (by decide) (.slice A 0 c) 0 [] (some ⟨wr.heap.size, 0, none⟩) 1 1 [.int .u8 (x / 256)] rfl rfl ?_ ?_ (by omega) ?_ ?_; exact own_bl HO.out (by go_grown); exact Blk.src (Blk.newAt _ _ _ _ (by simp)) 1 1 rfl (by simp [Value.oneCell']); simp; omega; intro A1 c1 w1 hp)
      exact ⟨⟨1, A1, c1, by omega, by rfl, rfl, hp.own, hp.bl (own_bl HO.out (by go_grown)) (Bl.trans hb (by go_grown))⟩, by simp [intOf]⟩
    | 1, _ =>
      go_wp2_with (at_builtin; refine wpList_app rfl (.tmp 14) (.tmp 20) 24 5 (.int .u8 0) 1 1 w.heap.size rfl Try.underlying24 info5 rfl (by decide) (by decide) (.slice A 1 c) 1 [.int .u8 (x / 256)] (some ⟨wr.heap.size, 0, none⟩) 1 1 [.int .u8 (x % 256)] rfl rfl ?_ ?_ (by omega) ?_ ?_; exact own_bl HO.out (by go_grown); exact Blk.src (Blk.newAt _ _ _ _ (by simp)) 1 1 rfl (by simp [Value.oneCell']); simp; omega; intro A1 c1 w1 hp)
      exact ⟨⟨2, A1, c1, by omega, by rfl, rfl, hp.own, hp.bl (own_bl HO.out (by go_grown)) (Bl.trans hb (by go_grown))⟩, by simp [intOf]⟩
    | 2, _ =>
      go_wp2_with fail
      go_ret
      exact ⟨⟨A, c, rfl, HO.out⟩, hb⟩
set_option maxHeartbeats 2000000 in
theorem byt4 (x : Int) (w : World) (hx : 0 ≤ x ∧ x ≤ 4294967295) :
    Calls Try.prog 26 #[.int .u64 x, .int .i64 4] w fun e w' => (∃ A c, e = .returned (.slice A 4 c) ∧ w'.ownsRow w.heap.size 5 1 (.slice A 4 c) 4 (([x / 16777216, x / 65536 % 256, x / 256 % 256, x % 256] : List Int).map (Value.int .u8))) ∧ Bl w w' := by
  go_enter Try.func26, Try.ntmps26
  go_wp2_with fail
  go_loopw [5, 6] (fun v i wr => ∃ (k : Nat) (A : Option Addr) (c : Nat), k ≤ 4 ∧ i = .int .i64 (3 - (k : Int)) ∧ v = .slice A k c ∧ wr.ownsRow w.heap.size 5 1 v k ((([x / 16777216, x / 65536 % 256, x / 256 % 256, x % 256] : List Int).take k).map (Value.int .u8)) ∧ Bl w wr) (fun _ i _ => (intOf i + 1).toNat)
  case atStart => exact ⟨0, _, _, by omega, rfl, rfl, World.ownsRow_lit w #[] 0 (Nat.le_refl _) (by decide) rfl, by go_grown⟩
  case round =>
    obtain ⟨k, A, c, hk, rfl, rfl, ho, hb⟩ := hrel
    have HO := Lib.hid ho
    have hsz := hb.size
    clear ho
    match k, hk with
    | 0, _ =>
      go_wp2_with (at_builtin; refine wpList_app rfl (.tmp 14) (.tmp 20) 24 5 (.int .u8 0) 1 1 w.heap.size rfl Try.underlying24 info5 rfl (by decide) (by decide) (.slice A 0 c) 0 [] (some ⟨wr.heap.size, 0, none⟩) 1 1 [.int .u8 (x / 16777216)] rfl rfl ?_ ?_ (by omega) ?_ ?_; exact own_bl HO.out (by go_grown); exact Blk.src (Blk.newAt _ _ _ _ (by simp)) 1 1 rfl (by simp [Value.oneCell']); simp; omega; intro A1 c1 w1 hp)
      exact ⟨⟨1, A1, c1, by omega, by rfl, rfl, hp.own, hp.bl (own_bl HO.out (by go_grown)) (Bl.trans hb (by go_grown))⟩, by simp [intOf]⟩
    | 1, _ =>
      go_wp2_with (at_builtin; refine wpList_app rfl (.tmp 14) (.tmp 20) 24 5 (.int .u8 0) 1 1 w.heap.size rfl Try.underlying24 info5 rfl (by decide) (by decide) (.slice A 1 c) 1 [.int .u8 (x / 16777216)] (some ⟨wr.heap.size, 0, none⟩) 1 1 [.int .u8 (x / 65536 % 256)] rfl rfl ?_ ?_ (by omega) ?_ ?_; exact own_bl HO.out (by go_grown); exact Blk.src (Blk.newAt _ _ _ _ (by simp)) 1 1 rfl (by simp [Value.oneCell']); simp; omega; intro A1 c1 w1 hp)
      exact ⟨⟨2, A1, c1, by omega, by rfl, rfl, hp.own, hp.bl (own_bl HO.out (by go_grown)) (Bl.trans hb (by go_grown))⟩, by simp [intOf]⟩
    | 2, _ =>
      go_wp2_with (at_builtin; refine wpList_app rfl (.tmp 14) (.tmp 20) 24 5 (.int .u8 0) 1 1 w.heap.size rfl Try.underlying24 info5 rfl (by decide) (by decide) (.slice A 2 c) 2 [.int .u8 (x / 16777216), .int .u8 (x / 65536 % 256)] (some ⟨wr.heap.size, 0, none⟩) 1 1 [.int .u8 (x / 256 % 256)] rfl rfl ?_ ?_ (by omega) ?_ ?_; exact own_bl HO.out (by go_grown); exact Blk.src (Blk.newAt _ _ _ _ (by simp)) 1 1 rfl (by simp [Value.oneCell']); simp; omega; intro A1 c1 w1 hp)
      exact ⟨⟨3, A1, c1, by omega, by rfl, rfl, hp.own, hp.bl (own_bl HO.out (by go_grown)) (Bl.trans hb (by go_grown))⟩, by simp [intOf]⟩
    | 3, _ =>
      go_wp2_with (at_builtin; refine wpList_app rfl (.tmp 14) (.tmp 20) 24 5 (.int .u8 0) 1 1 w.heap.size rfl Try.underlying24 info5 rfl (by decide) (by decide) (.slice A 3 c) 3 [.int .u8 (x / 16777216), .int .u8 (x / 65536 % 256), .int .u8 (x / 256 % 256)] (some ⟨wr.heap.size, 0, none⟩) 1 1 [.int .u8 (x % 256)] rfl rfl ?_ ?_ (by omega) ?_ ?_; exact own_bl HO.out (by go_grown); exact Blk.src (Blk.newAt _ _ _ _ (by simp)) 1 1 rfl (by simp [Value.oneCell']); simp; omega; intro A1 c1 w1 hp)
      exact ⟨⟨4, A1, c1, by omega, by rfl, rfl, hp.own, hp.bl (own_bl HO.out (by go_grown)) (Bl.trans hb (by go_grown))⟩, by simp [intOf]⟩
    | 4, _ =>
      go_wp2_with fail
      go_ret
      exact ⟨⟨A, c, rfl, HO.out⟩, hb⟩
end Go.Proofs.Ytoljdgfbkebgcaa
