/- The smallest functions: numbers out of bytes, lengths filled up, copies. -/
import Derived.Test.YtoljdgfbkebgcaaBase
import Derived.Lib.EndianBits
namespace Go.Proofs.Ytoljdgfbkebgcaa
open Go.RowKit

/-- encoding/binary: two bytes. -/
theorem be16_any (A : Option Addr) (c : Nat) (l : List Int) (w : World) (h : Rd .u8 w A 2 c l) (hl : By l) :
    Calls Try.prog 91 #[.agg #[], .slice A 2 c] w fun e w' => e = .returned (.int .u16 (be l)) ∧ Bl w w' := by
  obtain ⟨g, o, rfl, hg, hc⟩ := h.at (by omega)
  have c0 := hc 0 (by omega)
  have c1 := hc 1 (by omega)
  have b0 := hl.getD 0
  have b1 := hl.getD 1
  have e := be2 l h.len
  generalize l.getD 0 0 = x at *
  generalize l.getD 1 0 = y at *
  have hv : bits .or .u16 y (x * 256) = be l := by rw [e, u16_or8 y (x * 256) (by omega) (by omega) (by omega) (by omega) (by omega)]; omega
  have HV := Lib.hid hv
  clear hv e hc h
  simp only [Nat.add_zero] at c0
  go_enter Try.func91, Try.ntmps91
  go_wp2
  go_quiet (fail)
  go_wp2
  go_ret
  exact ⟨ret_int HV.out, Bl.drewN ((Below.refl _ _).alloc (Nat.le_refl _) _) _⟩

/-- encoding/binary: four bytes. -/
theorem be32_any (A : Option Addr) (c : Nat) (l : List Int) (w : World) (h : Rd .u8 w A 4 c l) (hl : By l) :
    Calls Try.prog 90 #[.agg #[], .slice A 4 c] w fun e w' => e = .returned (.int .u32 (be l)) ∧ Bl w w' := by
  obtain ⟨g, o, rfl, hg, hc⟩ := h.at (by omega)
  have c0 := hc 0 (by omega)
  have c1 := hc 1 (by omega)
  have c2 := hc 2 (by omega)
  have c3 := hc 3 (by omega)
  have b0 := hl.getD 0
  have b1 := hl.getD 1
  have b2 := hl.getD 2
  have b3 := hl.getD 3
  have e := be4 l h.len
  generalize l.getD 0 0 = x at *
  generalize l.getD 1 0 = y at *
  generalize l.getD 2 0 = z at *
  generalize l.getD 3 0 = u at *
  have hv : bits .or .u32 (bits .or .u32 (bits .or .u32 u (z * 256)) (y * 65536)) (x * 16777216) = be l := by
    rw [u32_or8 u (z * 256) (by omega) (by omega) (by omega) (by omega) (by omega), u32_or16 _ (y * 65536) (by omega) (by omega) (by omega) (by omega) (by omega), u32_or24 _ (x * 16777216) (by omega) (by omega) (by omega) (by omega) (by omega), e]; omega
  have HV := Lib.hid hv
  clear hv e hc h
  simp only [Nat.add_zero] at c0
  go_enter Try.func90, Try.ntmps90
  go_wp2
  go_quiet (fail)
  go_wp2
  go_ret
  exact ⟨ret_int HV.out, Bl.drewN ((Below.refl _ _).alloc (Nat.le_refl _) _) _⟩

theorem i64_or8 (x y : Int) (hy₀ : 0 ≤ y) (hy : y < 256) (hx₀ : 0 ≤ x) (hx : x % 256 = 0) (hx₁ : x < 65536) : bits .or .i64 x y = x + y :=
  bits_join .i64 16 (by decide) (fun n h0 h1 => by rw [IntKind.wrap_i64]; omega) 8 x y hx₀ hx hx₁ hy₀ hy (by omega)

/-- impl.number -/
theorem number_any (A : Option Addr) (n c : Nat) (i : Nat) (l : List Int) (w : World) (h : Rd .u8 w A n c l) (hl : By l) (hi : i + 1 < n) (hn : n ≤ 2147483647) (ii : Int) (hii : ii = i) :
    Calls Try.prog 66 #[.slice A n c, .int .i64 ii] w fun e w' => e = .returned (.int .i64 (be (sub l i (i + 2)))) ∧ ∃ q, w' = w.drewN q := by
  subst hii
  obtain ⟨g, o, rfl, hg, hc⟩ := h.at (by omega)
  have c0 := hc i (by omega)
  have c1 := hc (i + 1) (by omega)
  have b0 := hl.getD i
  have b1 := hl.getD (i + 1)
  have e := be2 (sub l i (i + 2)) (by rw [sub_length]; omega; have := h.len; omega)
  rw [sub_getD _ _ _ _ (by omega), sub_getD _ _ _ _ (by omega)] at e
  simp only [Nat.add_zero] at e
  generalize l.getD i 0 = x at *
  generalize l.getD (i + 1) 0 = y at *
  have hv : bits .or .i64 (x * 256) y = be (sub l i (i + 2)) := by rw [e, i64_or8 (x * 256) y (by omega) (by omega) (by omega) (by omega) (by omega)]
  have HV := Lib.hid hv
  clear hv e hc h
  go_enter Try.func66, Try.ntmps66
  go_wp2
  go_quiet (fail)
  go_wp2
  go_ret
  exact ⟨ret_int HV.out, _, rfl⟩

theorem iup_any (n : Int) (h0 : 0 ≤ n) (h1 : n ≤ 65535) (w : World) :
    Calls Try.prog 74 #[.int .i64 n] w fun e w' => e = .returned (.int .i64 ((n + 3) / 4 * 4)) ∧ w = w' := by
  go_enter Try.func74, Try.ntmps74
  go_wp2
  go_ret
  exact ⟨rfl, rfl⟩
theorem sup_any (n : Int) (h0 : 0 ≤ n) (h1 : n ≤ 65535) (w : World) :
    Calls Try.prog 46 #[.int .i64 n] w fun e w' => e = .returned (.int .i64 ((n + 3) / 4 * 4)) ∧ w = w' := by
  go_enter Try.func46, Try.ntmps46
  go_wp2
  go_ret
  exact ⟨rfl, rfl⟩
theorem round_any (n : Int) (h0 : 0 ≤ n) (h1 : n ≤ 65535) (w : World) :
    Calls Try.prog 93 #[.int .i64 n] w fun e w' => e = .returned (.int .i64 ((n + 3) / 4 * 4)) ∧ w = w' := by
  by_cases h : n % 4 = 0
  · go_enter Try.func93, Try.ntmps93
    go_wp2
    go_ret
    exact ⟨ret_int (by omega), rfl⟩
  · go_enter Try.func93, Try.ntmps93
    go_wp2
    go_ret
    exact ⟨ret_int (by omega), rfl⟩
theorem bit_any (b : Bool) (w : World) :
    Calls Try.prog 71 #[.bool b] w fun e w' => e = .returned (.int .u64 (if b then 1 else 0)) ∧ w = w' := by
  cases b
  · go_enter Try.func71, Try.ntmps71
    go_wp2
    go_ret
    exact ⟨rfl, rfl⟩
  · go_enter Try.func71, Try.ntmps71
    go_wp2
    go_ret
    exact ⟨rfl, rfl⟩
/-- errors.New: some error, not nil. -/
theorem errNew_any (s : ByteArray) (w : World) :
    Calls Try.prog 76 #[.string s] w fun e w' => e = .returned (.iface 167 (.pointer (some ⟨w.heap.size, 0, none⟩))) ∧ Bl w w' := by
  go_enter Try.func76, Try.ntmps76
  go_wp2
  go_ret
  exact ⟨rfl, (Below.refl _ _).alloc (Nat.le_refl _) _⟩
end Go.Proofs.Ytoljdgfbkebgcaa
