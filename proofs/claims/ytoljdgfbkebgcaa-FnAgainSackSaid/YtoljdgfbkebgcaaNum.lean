/- spec.Number: the number in bytes. -/
import Derived.Test.YtoljdgfbkebgcaaLeaf
namespace Go.Proofs.Ytoljdgfbkebgcaa
open Go.RowKit

theorem u64_or8' (x y : Int) (hy₀ : 0 ≤ y) (hy : y < 256) (hx₀ : 0 ≤ x) (hx : x % 256 = 0) (hx₁ : x < 18446744073709551616) : bits .or .u64 x y = x + y :=
  bits_join .u64 64 (by decide) (fun n h0 h1 => by rw [IntKind.wrap_u64]; omega) 8 x y hx₀ hx hx₁ hy₀ hy (by omega)
theorem be_snoc (l : List Int) (k : Nat) (h : k < l.length) : be (l.take (k + 1)) = be (l.take k) * 256 + l.getD k 0 := by
  rw [List.take_succ_eq_append_getElem h, List.getD_eq_getElem?_getD, List.getElem?_eq_getElem h]
  unfold be
  rw [List.foldl_append]
  rfl
theorem be_take_bd (l : List Int) (hl : By l) (k : Nat) (hk : k ≤ 7) : 0 ≤ be (l.take k) ∧ be (l.take k) < 72057594037927936 := by
  have h1 : By (l.take k) := fun x hx => hl x (List.mem_of_mem_take hx)
  refine ⟨be_nonneg _ h1, Int.lt_of_lt_of_le (be_lt _ h1) ?_⟩
  have : (l.take k).length ≤ 7 := by simp; omega
  exact (by decide : ∀ m : Fin 8, (256 : Int) ^ m.val ≤ 72057594037927936) ⟨_, by omega⟩

theorem num_any (A : Option Addr) (n c : Nat) (l : List Int) (w : World) (h : Rd .u8 w A n c l) (hl : By l) (h0 : 0 < n) (hn : n ≤ 8) :
    Calls Try.prog 38 #[.slice A n c] w fun e w' => e = .returned (.int .u64 (be l)) ∧ w = w' := by
  obtain ⟨g, o, rfl, hg, hc⟩ := h.at (by omega)
  have HC := Lib.hid hc
  have HL := Lib.hid h.len
  have hlen : l.length = n := h.len
  clear hc h hlen
  go_enter Try.func38, Try.ntmps38
  go_wp2
  go_loop [3, 8] (fun t i => ∃ k : Nat, k ≤ n ∧ i = .int .i64 k ∧ t = .int .u64 (be (l.take k))) (fun _ i => n - (intOf i).toNat)
  case atStart => exact ⟨0, Nat.zero_le _, rfl, by simp [be]⟩
  case round =>
    obtain ⟨k, hk, rfl, rfl⟩ := hrel
    by_cases hlt : k < n
    · have hcell := HC.out k hlt
      have hb := hl.getD k
      have hd := be_take_bd l hl k (by omega)
      have hs : bits .or .u64 (be (l.take k) * 256) (l.getD k 0) = be (l.take (k + 1)) := by
        rw [be_snoc l k (by rw [HL.out]; exact hlt), u64_or8' _ _ (by omega) (by omega) (by omega) (by omega) (by omega)]
      generalize l.getD k 0 = x at *
      have HS := Lib.hid hs
      clear hs
      go_wp2
      go_round
      case rel => exact ⟨k + 1, by omega, by go_num, by rw [← HS.out]⟩
      case measure => simp [intOf]; omega
    · have hkn : be (l.take k) = be l := by rw [List.take_of_length_le (by rw [HL.out]; omega)]
      have HK := Lib.hid hkn
      clear hkn
      go_wp2
      go_ret
      exact ⟨ret_int HK.out, rfl⟩
end Go.Proofs.Ytoljdgfbkebgcaa
