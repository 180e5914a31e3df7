/- The sum CRC-32C, the reference's and the package's: one pure sum. -/
import Derived.Test.YtoljdgfbkebgcaaBase
import Derived.LoopTactic
import Derived.Deep.DeepCutAuto
import Derived.Laws.Bits64b
import Derived.Laws.Closers25b
namespace Go.Proofs.Ytoljdgfbkebgcaa
open Go.RowKit
theorem and1_nat (a : Nat) (h : a < 4294967296) : bits .and .u32 (a : Int) 1 = ((a % 2 : Nat) : Int) := by
  have e1 : (BitVec.ofInt 32 (a : Int)).toNat = a := by rw [BitVec.toNat_ofInt]; omega
  have e2 : (BitVec.ofInt 32 1).toNat = 1 := by decide
  show IntKind.u32.wrap (((BitVec.ofInt 32 (a : Int) &&& BitVec.ofInt 32 1).toNat : Nat) : Int) = _
  rw [BitVec.toNat_and, e1, e2, Nat.and_one_is_mod]
  simp [IntKind.wrap, IntKind.bits, IntKind.signed]
  omega
theorem and1_32 (x : Int) (h0 : 0 ≤ x) (h1 : x ≤ 4294967295) : bits .and .u32 x 1 = x % 2 := by
  have := and1_nat x.toNat (by omega)
  rw [show ((x.toNat : Nat) : Int) = x by omega] at this
  rw [this]; omega
/-- One bit of the sum; a byte of it; the whole. -/
def crcBit (x : Int) : Int := if x % 2 = 1 then bits .xor .u32 (x / 2) 2197175160 else x / 2
def crcBits : Nat → Int → Int
  | 0, x => x
  | k + 1, x => crcBit (crcBits k x)
def crcByte (x y : Int) : Int := crcBits 8 (bits .xor .u32 x (y % 4294967296))
def crcRow (l : List Int) : Int := l.foldl crcByte 4294967295
def crcSum (l : List Int) : Int := bits .xor .u32 4294967295 (crcRow l)
theorem crcBit_bd (x : Int) (h : 0 ≤ x ∧ x ≤ 4294967295) : 0 ≤ crcBit x ∧ crcBit x ≤ 4294967295 := by
  unfold crcBit
  split
  · exact bits_within .xor .u32 _ _
  · omega
theorem crcBits_bd (k : Nat) (x : Int) (h : 0 ≤ x ∧ x ≤ 4294967295) : 0 ≤ crcBits k x ∧ crcBits k x ≤ 4294967295 := by
  induction k with
  | zero => exact h
  | succ k ih => exact crcBit_bd _ ih
theorem crcByte_bd (x y : Int) : 0 ≤ crcByte x y ∧ crcByte x y ≤ 4294967295 := crcBits_bd 8 _ (bits_within .xor .u32 _ _)
theorem crcSum_bd (l : List Int) : 0 ≤ crcSum l ∧ crcSum l ≤ 4294967295 := bits_within .xor .u32 _ _
theorem crcRow_take (l : List Int) (k : Nat) (h : k < l.length) : crcRow (l.take (k + 1)) = crcByte (crcRow (l.take k)) (l.getD k 0) := by
  unfold crcRow
  rw [List.take_add_one, List.foldl_append, List.getD_eq_getElem?_getD, List.getElem?_eq_getElem h]
  rfl
theorem crcRow_bd (l : List Int) (k : Nat) (h : k ≤ l.length) : 0 ≤ crcRow (l.take k) ∧ crcRow (l.take k) ≤ 4294967295 := by
  cases k with
  | zero => rw [List.take_zero]; exact ⟨by decide, by decide⟩
  | succ k => rw [crcRow_take l k (by omega)]; exact crcByte_bd _ _
set_option maxHeartbeats 2000000 in
theorem crc_any (A : Option Addr) (n c : Nat) (l : List Int) (w : World) (h : Rd .u8 w A n c l) (hn : n ≤ 2147483647) :
    Calls Try.prog 27 #[.slice A n c] w fun e w' => e = .returned (.int .u32 (crcSum l)) ∧ w = w' := by
  have H := Lib.hid h
  have hlen := h.len
  clear h
  go_enter Try.func27, Try.ntmps27
  go_wp2_with fail
  go_loop [8, 3] (fun i v => ∃ k : Nat, k ≤ n ∧ i = .int .i64 k ∧ v = .int .u32 (crcRow (l.take k))) (fun i _ => n - (intOf i).toNat)
  case atStart => exact ⟨0, Nat.zero_le _, rfl, rfl⟩
  case round =>
    obtain ⟨k, hk, rfl, rfl⟩ := hrel
    by_cases hlt : k < n
    · have hlt' : (k : Int) < (n : Int) := by omega
      obtain ⟨g, o, rfl, hg, hc⟩ := H.out.at (by omega)
      have ck := hc k hlt
      have HS := Lib.hid (crcRow_take l k (by omega))
      clear hc
      generalize l.getD k 0 = y at *
      generalize crcRow (l.take k) = x at *
      go_wp2_with fail
      go_loop [16, 3] (fun i v => ∃ j : Nat, j ≤ 8 ∧ i = .int .i64 j ∧ v = .int .u32 (crcBits j (bits .xor .u32 x (y % 4294967296)))) (fun i _ => 8 - (intOf i).toNat)
      case atStart => exact ⟨0, Nat.zero_le _, rfl, rfl⟩
      case round =>
        obtain ⟨j, hj, rfl, rfl⟩ := hrel
        by_cases hlt2 : j < 8
        · have hlt2' : (j : Int) < 8 := by omega
          have hs : crcBits (j + 1) (bits .xor .u32 x (y % 4294967296)) = crcBit (crcBits j (bits .xor .u32 x (y % 4294967296))) := rfl
          have hb := crcBits_bd j (bits .xor .u32 x (y % 4294967296)) (bits_within .xor .u32 _ _)
          have HS2 := Lib.hid hs
          clear hs
          generalize crcBits j (bits .xor .u32 x (y % 4294967296)) = z at *
          have ha := and1_32 z hb.1 hb.2
          by_cases hp : z % 2 = 1
          · have ha' : (bits .and .u32 z 1 == 1) = true := by rw [ha, hp]; rfl
            go_wp2_with fail
            go_round
            case rel => exact ⟨j + 1, by omega, by go_num, by rw [HS2.out]; unfold crcBit; rw [if_pos hp]⟩
            case measure => simp [intOf]; omega
          · have hp' : z % 2 = 0 := by omega
            have ha' : (bits .and .u32 z 1 == 1) = false := by rw [ha, hp']; rfl
            go_wp2_with fail
            go_round
            case rel => exact ⟨j + 1, by omega, by go_num, by rw [HS2.out]; unfold crcBit; rw [if_neg hp]⟩
            case measure => simp [intOf]; omega
        · obtain rfl : j = 8 := by omega
          go_wp2_with fail
          go_round
          case rel => exact ⟨k + 1, by omega, by go_num, by rw [HS.out]; rfl⟩
          case measure => simp [intOf]; omega
    · have hge : (n : Int) ≤ (k : Int) := by omega
      have hkn : l.take k = l := List.take_of_length_le (by omega)
      rw [hkn]
      go_wp2_with fail
      go_ret
      refine ⟨?_, rfl⟩
      simp
      rfl
set_option maxHeartbeats 2000000 in
theorem zcrc_any (A : Option Addr) (n c : Nat) (l : List Int) (w : World) (h : Rd .u8 w A n c l) (hn : n ≤ 2147483647) :
    Calls Try.prog 116 #[.slice A n c] w fun e w' => e = .returned (.int .u32 (crcSum l)) ∧ w = w' := by
  have H := Lib.hid h
  have hlen := h.len
  clear h
  go_enter Try.func116, Try.ntmps116
  go_wp2_with fail
  go_loop [9, 3] (fun i v => ∃ k : Nat, k ≤ n ∧ i = .int .i64 k ∧ v = .int .u32 (crcRow (l.take k))) (fun i _ => n - (intOf i).toNat)
  case atStart => exact ⟨0, Nat.zero_le _, rfl, rfl⟩
  case round =>
    obtain ⟨k, hk, rfl, rfl⟩ := hrel
    by_cases hlt : k < n
    · have hlt' : (k : Int) < (n : Int) := by omega
      obtain ⟨g, o, rfl, hg, hc⟩ := H.out.at (by omega)
      have ck := hc k hlt
      have HS := Lib.hid (crcRow_take l k (by omega))
      clear hc
      generalize l.getD k 0 = y at *
      generalize crcRow (l.take k) = x at *
      go_wp2_with fail
      go_loop [6, 3] (fun i v => ∃ j : Nat, j ≤ 8 ∧ i = .int .i64 j ∧ v = .int .u32 (crcBits j (bits .xor .u32 x (y % 4294967296)))) (fun i _ => 8 - (intOf i).toNat)
      case atStart => exact ⟨0, Nat.zero_le _, rfl, rfl⟩
      case round =>
        obtain ⟨j, hj, rfl, rfl⟩ := hrel
        by_cases hlt2 : j < 8
        · have hlt2' : (j : Int) < 8 := by omega
          have hs : crcBits (j + 1) (bits .xor .u32 x (y % 4294967296)) = crcBit (crcBits j (bits .xor .u32 x (y % 4294967296))) := rfl
          have hb := crcBits_bd j (bits .xor .u32 x (y % 4294967296)) (bits_within .xor .u32 _ _)
          have HS2 := Lib.hid hs
          clear hs
          generalize crcBits j (bits .xor .u32 x (y % 4294967296)) = z at *
          have ha := and1_32 z hb.1 hb.2
          by_cases hp : z % 2 = 1
          · have ha' : (bits .and .u32 z 1 != 0) = true := by rw [ha, hp]; rfl
            go_wp2_with fail
            go_round
            case rel => exact ⟨j + 1, by omega, by go_num, by rw [HS2.out]; unfold crcBit; rw [if_pos hp]⟩
            case measure => simp [intOf]; omega
          · have hp' : z % 2 = 0 := by omega
            have ha' : (bits .and .u32 z 1 != 0) = false := by rw [ha, hp']; rfl
            go_wp2_with fail
            go_round
            case rel => exact ⟨j + 1, by omega, by go_num, by rw [HS2.out]; unfold crcBit; rw [if_neg hp]⟩
            case measure => simp [intOf]; omega
        · obtain rfl : j = 8 := by omega
          go_wp2_with fail
          go_round
          case rel => exact ⟨k + 1, by omega, by go_num, by rw [HS.out]; rfl⟩
          case measure => simp [intOf]; omega
    · have hge : (n : Int) ≤ (k : Int) := by omega
      have hkn : l.take k = l := List.take_of_length_le (by omega)
      rw [hkn]
      go_wp2_with fail
      go_ret
      refine ⟨?_, rfl⟩
      simp
      rfl
end Go.Proofs.Ytoljdgfbkebgcaa
