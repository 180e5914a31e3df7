/- laws.FnSum is true. -/
import Derived.Test.YtoljdgfbkebgcaaByt
import Derived.Test.YtoljdgfbkebgcaaCrc
import Derived.Test.YtoljdgfbkebgcaaWrSctp
import Derived.Test.YtoljdgfbkebgcaaRow
namespace Go.Proofs.Ytoljdgfbkebgcaa
open Go.RowKit
theorem by_hd8 (S D T : Int) : hd8 S D T = [S / 256, S % 256] ++ [D / 256, D % 256] ++ [T / 16777216, T / 65536 % 256, T / 256 % 256, T % 256] := rfl
theorem row4_rd (w : World) (S D T : Int) : Rd .u64 (w.alloc (.cells #[.int .u64 S, .int .u64 D, .int .u64 T, .int .u64 0] 26)) (some ⟨w.heap.size, 0, none⟩) 4 4 [S, D, T, 0] := by
  have k : Blk (w.alloc (.cells #[.int .u64 S, .int .u64 D, .int .u64 T, .int .u64 0] 26)) w.heap.size #[.int .u64 S, .int .u64 D, .int .u64 T, .int .u64 0] 26 := Blk.newAt _ _ _ _ rfl
  refine ⟨rfl, Nat.le_refl _, fun i hi => ⟨_, 0, rfl, ?_⟩⟩
  rw [Nat.zero_add, k.cell]
  match i, hi with
  | 0, _ => rfl
  | 1, _ => rfl
  | 2, _ => rfl
  | 3, _ => rfl
theorem set4_rd {w : World} {g n c : Nat} {cs : Array Value} {S D T X : Int} {l : List Int} (hn : l.length = n) (hc : cs.size = c) (hcap : 12 + n ≤ cs.size) (hcs : ∀ i, i < 12 + n → cs[i]? = ((hd8 S D T ++ [0, 0, 0, 0] ++ l).map (Value.int .u8))[i]?)
    (k : Blk w g ((((cs.setIfInBounds 8 (.int .u8 (X % 256))).setIfInBounds 9 (.int .u8 (X / 256 % 256))).setIfInBounds 10 (.int .u8 (X / 65536 % 256))).setIfInBounds 11 (.int .u8 (X / 16777216))) 5) : Rd .u8 w (some ⟨g, 0, none⟩) (12 + n) c (hd8 S D T ++ le4 X ++ l) := by
  refine ⟨by simp [hd8, le4, hn]; omega, by omega, fun i hi => ⟨g, 0, rfl, ?_⟩⟩
  rw [Nat.zero_add, k.cell]
  match i, hi with
  | 0, hi =>
    repeat rw [Array.getElem?_setIfInBounds_ne (by omega)]
    rw [hcs _ hi]
    rfl
  | 1, hi =>
    repeat rw [Array.getElem?_setIfInBounds_ne (by omega)]
    rw [hcs _ hi]
    rfl
  | 2, hi =>
    repeat rw [Array.getElem?_setIfInBounds_ne (by omega)]
    rw [hcs _ hi]
    rfl
  | 3, hi =>
    repeat rw [Array.getElem?_setIfInBounds_ne (by omega)]
    rw [hcs _ hi]
    rfl
  | 4, hi =>
    repeat rw [Array.getElem?_setIfInBounds_ne (by omega)]
    rw [hcs _ hi]
    rfl
  | 5, hi =>
    repeat rw [Array.getElem?_setIfInBounds_ne (by omega)]
    rw [hcs _ hi]
    rfl
  | 6, hi =>
    repeat rw [Array.getElem?_setIfInBounds_ne (by omega)]
    rw [hcs _ hi]
    rfl
  | 7, hi =>
    repeat rw [Array.getElem?_setIfInBounds_ne (by omega)]
    rw [hcs _ hi]
    rfl
  | 8, _ =>
    repeat rw [Array.getElem?_setIfInBounds_ne (by omega)]
    rw [Array.getElem?_setIfInBounds_self_of_lt (by first | omega | (simp only [Array.size_setIfInBounds]; omega))]
    rfl
  | 9, _ =>
    repeat rw [Array.getElem?_setIfInBounds_ne (by omega)]
    rw [Array.getElem?_setIfInBounds_self_of_lt (by first | omega | (simp only [Array.size_setIfInBounds]; omega))]
    rfl
  | 10, _ =>
    repeat rw [Array.getElem?_setIfInBounds_ne (by omega)]
    rw [Array.getElem?_setIfInBounds_self_of_lt (by first | omega | (simp only [Array.size_setIfInBounds]; omega))]
    rfl
  | 11, _ =>
    rw [Array.getElem?_setIfInBounds_self_of_lt (by first | omega | (simp only [Array.size_setIfInBounds]; omega))]
    rfl
  | i + 12, hi =>
    repeat rw [Array.getElem?_setIfInBounds_ne (by omega)]
    rw [hcs _ hi]
    show (l.map (Value.int .u8))[i]? = some (.int .u8 (l.getD i 0))
    rw [List.getElem?_map, List.getElem?_eq_getElem (show i < l.length by omega), List.getD_eq_getElem?_getD, List.getElem?_eq_getElem (show i < l.length by omega)]
    rfl
set_option maxHeartbeats 4000000 in
set_option maxRecDepth 100000 in
theorem sum_any (A : Option Addr) (n c : Nat) (l : List Int) (S D T : Int) (sum : Bool) (w : World) (h : Rd .u8 w A n c l) (hS : 0 ≤ S ∧ S ≤ 65535) (hD : 0 ≤ D ∧ D ≤ 65535) (hT : 0 ≤ T ∧ T ≤ 4294967295) (hn : n ≤ 300) :
    Calls Try.prog 3 #[.int .u16 S, .int .u16 D, .int .u32 T, .slice A n c, .bool sum] w fun e w' => e = .returned (.bool true) ∧ Bl w w' := by
  have H := Lib.hid h
  have hlen := h.len
  have hn' : (n : Int) ≤ 300 := by omega
  clear h
  go_enter Try.func3, Try.ntmps3
  go_wp2_with fail
  (with_reducible refine (byt2 S w hS).mono ?_)
  rintro e w1 ⟨⟨A1, c1, rfl, ho1⟩, hb1⟩
  have HO1 := Lib.hid ho1
  clear ho1
  go_wp2_with fail
  (with_reducible refine (byt2 D w1 hD).mono ?_)
  rintro e w2 ⟨⟨A2, c2, rfl, ho2⟩, hb2⟩
  obtain ⟨A2', c2', e2, r2⟩ := own_rd ho2
  simp at e2
  obtain ⟨rfl, rfl⟩ := e2
  have B2 := hb1.trans hb2
  have hz2 := B2.size
  have HO2 := Lib.hid (own_bl HO1.out hb2)
  have R2 := Lib.hid r2
  clear ho2 r2 HO1 hb1 hb2
  go_wp2_with (at_builtin; refine wpList_app rfl (.tmp 23) (.tmp 26) 24 5 (.int .u8 0) 1 1 w.heap.size rfl Try.underlying24 info5 rfl (by decide) (by decide) (.slice A1 2 c1) 2 _ A2 2 c2 _ rfl rfl HO2.out R2.out.src (by omega) hz2 ?_; intro A3 c3 w3 hp3)
  have B3 := hp3.bl HO2.out B2
  have HO3 : Hid (w3.ownsRow w.heap.size 5 1 (.slice A3 4 c3) 4 (([S / 256, S % 256, D / 256, D % 256] : List Int).map (Value.int .u8))) := Lib.hid hp3.own
  clear hp3 HO2 R2 B2 hz2
  (with_reducible refine (byt4 T w3 hT).mono ?_)
  rintro e w4 ⟨⟨A4, c4, rfl, ho4⟩, hb4⟩
  obtain ⟨A4', c4', e4, r4⟩ := own_rd ho4
  simp at e4
  obtain ⟨rfl, rfl⟩ := e4
  have B4 := B3.trans hb4
  have hz4 := B4.size
  have HO4 := Lib.hid (own_bl HO3.out hb4)
  have R4 := Lib.hid r4
  clear ho4 r4 HO3 hb4 B3
  go_wp2_with (at_builtin; first
    | (refine wpList_app rfl (.tmp 27) (.tmp 30) 24 5 (.int .u8 0) 1 1 w.heap.size rfl Try.underlying24 info5 rfl (by decide) (by decide) (.slice A3 4 c3) 4 _ A4 4 c4 _ rfl rfl HO4.out R4.out.src (by omega) hz4 ?_; intro A5 c5 w5 hp5; have B5 := hp5.bl HO4.out B4; have HO5 := Lib.hid hp5.own; clear hp5)
    | (refine wpList_app rfl (.tmp 31) (.tmp 32) 24 5 (.int .u8 0) 1 1 w.heap.size rfl Try.underlying24 info5 rfl (by decide) (by decide) (.slice A5 8 c5) 8 _ (some ⟨w5.heap.size, 0, none⟩) 4 4 [.int .u8 0, .int .u8 0, .int .u8 0, .int .u8 0] rfl rfl (own_bl HO5.out (by go_grown)) (Blk.src (Blk.newAt _ _ _ _ (by simp)) 4 1 rfl (by simp [Value.oneCell'])) (by omega) (Nat.le_trans B5.size (by simp)) ?_; intro A6 c6 w6 hp6; have B6 := hp6.bl (own_bl HO5.out (by go_grown)) (Bl.trans B5 (by go_grown)); have HO6 := Lib.hid hp6.own; clear hp6)
    | (refine wpList_app rfl (.tmp 34) (.tmp 35) 24 5 (.int .u8 0) 1 1 w.heap.size rfl Try.underlying24 info5 rfl (by decide) (by decide) (.slice A6 12 c6) 12 _ A n c _ rfl rfl HO6.out (H.out.below B6).src (by omega) B6.size ?_; intro A7 c7 w7 hp7; have B7 := hp7.bl HO6.out B6; have HO7 := Lib.hid hp7.own; clear hp7))
  · have HO : Hid (w7.ownsRow w.heap.size 5 1 (.slice A7 (12 + n) c7) (12 + n) ((hd8 S D T ++ [0, 0, 0, 0] ++ l).map (Value.int .u8))) := Lib.hid HO7.out
    obtain ⟨A7', c7', e7, r7⟩ := own_rd HO.out
    simp at e7
    obtain ⟨rfl, rfl⟩ := e7
    have R7 := Lib.hid r7
    obtain ⟨g, cs, rfl, hg, kd, hcap, hcz, hcs⟩ := own_split HO.out (by omega)
    have HCS := Lib.hid hcs
    have hX := crcSum_bd (hd8 S D T ++ [0, 0, 0, 0] ++ l)
    have hXE : Hid (sctpOut true S D T l = hd8 S D T ++ le4 (crcSum (hd8 S D T ++ [0, 0, 0, 0] ++ l)) ++ l) := Lib.hid rfl
    clear r7 HO HO7 HO6 HO5 HO4 R4 hcs
    (with_reducible refine (crc_any _ _ _ _ _ R7.out (by omega)).mono ?_)
    rintro e w8 ⟨rfl, rfl⟩
    generalize crcSum (hd8 S D T ++ [0, 0, 0, 0] ++ l) = X at *
    obtain ⟨u0, e0⟩ : ∃ u, cs[8]? = some u := ⟨_, Array.getElem?_eq_getElem (by omega)⟩
    obtain ⟨u1, e1⟩ : ∃ u, cs[9]? = some u := ⟨_, Array.getElem?_eq_getElem (by omega)⟩
    obtain ⟨u2, e2⟩ : ∃ u, cs[10]? = some u := ⟨_, Array.getElem?_eq_getElem (by omega)⟩
    obtain ⟨u3, e3⟩ : ∃ u, cs[11]? = some u := ⟨_, Array.getElem?_eq_getElem (by omega)⟩
    have d0 : w7.cell? ⟨g, 8, none⟩ = some u0 := (kd.cell 8).trans e0
    have d1 : w7.cell? ⟨g, 9, none⟩ = some u1 := (kd.cell 9).trans e1
    have d2 : w7.cell? ⟨g, 10, none⟩ = some u2 := (kd.cell 10).trans e2
    have d3 : w7.cell? ⟨g, 11, none⟩ = some u3 := (kd.cell 11).trans e3
    have f0 := kd.frozen 8
    have f1 := kd.frozen 9
    have f2 := kd.frozen 10
    have f3 := kd.frozen 11
    have kz := kd.lt
    have KD := Lib.hid kd
    clear kd e0 e1 e2 e3
    have i8 : (8 : Int) < ((12 + n : Nat) : Int) := by omega
    have i9 : (9 : Int) < ((12 + n : Nat) : Int) := by omega
    have i10 : (10 : Int) < ((12 + n : Nat) : Int) := by omega
    have i11 : (11 : Int) < ((12 + n : Nat) : Int) := by omega
    go_wp2_with fail
    clear d0 d1 d2 d3 f0 f1 f2 f3
    have kd8 := (((KD.out.set 8 (.int .u8 (X % 256))).set 9 (.int .u8 (X / 256 % 256))).set 10 (.int .u8 (X / 65536 % 256))).set 11 (.int .u8 (X / 16777216))
    have r8 := set4_rd hlen hcz hcap HCS.out kd8
    rw [← hXE.out] at r8
    have B8 : Bl w ((((w7.setCell ⟨g, 8, none⟩ (.int .u8 (X % 256))).setCell ⟨g, 9, none⟩ (.int .u8 (X / 256 % 256))).setCell ⟨g, 10, none⟩ (.int .u8 (X / 65536 % 256))).setCell ⟨g, 11, none⟩ (.int .u8 (X / 16777216))) := (((B7.setCell hg _).setCell hg _).setCell hg _).setCell hg _
    have hz8 : w7.heap.size = ((((w7.setCell ⟨g, 8, none⟩ (.int .u8 (X % 256))).setCell ⟨g, 9, none⟩ (.int .u8 (X / 256 % 256))).setCell ⟨g, 10, none⟩ (.int .u8 (X / 65536 % 256))).setCell ⟨g, 11, none⟩ (.int .u8 (X / 16777216))).heap.size := by simp
    clear kd8 KD HCS R7 hXE
    generalize ((((w7.setCell ⟨g, 8, none⟩ (.int .u8 (X % 256))).setCell ⟨g, 9, none⟩ (.int .u8 (X / 256 % 256))).setCell ⟨g, 10, none⟩ (.int .u8 (X / 65536 % 256))).setCell ⟨g, 11, none⟩ (.int .u8 (X / 16777216))) = W8 at *
    have R7 := Lib.hid (r8.below (show Bl W8 (W8.alloc (.cells #[.int .u64 S, .int .u64 D, .int .u64 T, .int .u64 0] 26)) by go_grown))
    have B8' : Bl w (W8.alloc (.cells #[.int .u64 S, .int .u64 D, .int .u64 T, .int .u64 0] 26)) := Bl.trans B8 (by go_grown)
    clear r8
    rw [hz8]
    (with_reducible refine (wrSctp_any _ _ _ _ _ _ _ _ _ S D T 0 l true true _ (row4_rd W8 S D T) hS hD hT (by omega) (H.out.below B8') (by omega)).mono ?_)
    rintro e w9 ⟨A8, c8, rfl, r8, hb8⟩
    have R8 := Lib.hid r8
    have R7' := Lib.hid (R7.out.below hb8)
    have B9 := B8'.trans hb8
    clear r8 hb8
    go_wp2_with fail
    (with_reducible refine (bequal_any _ _ _ _ _ _ (sctpOut true S D T l) _ R8.out R7'.out).mono ?_)
    rintro e w10 ⟨rfl, rfl⟩
    go_wp2_with fail
    go_ret
    exact ⟨rfl, B9⟩
  · have HO : Hid (w7.ownsRow w.heap.size 5 1 (.slice A7 (12 + n) c7) (12 + n) ((hd8 S D T ++ [0, 0, 0, 0] ++ l).map (Value.int .u8))) := Lib.hid HO7.out
    obtain ⟨A7', c7', e7, r7⟩ := own_rd HO.out
    simp at e7
    obtain ⟨rfl, rfl⟩ := e7
    have R7 := Lib.hid (r7.below (show Bl w7 (w7.alloc (.cells #[.int .u64 S, .int .u64 D, .int .u64 T, .int .u64 0] 26)) by go_grown))
    have B8 : Bl w (w7.alloc (.cells #[.int .u64 S, .int .u64 D, .int .u64 T, .int .u64 0] 26)) := Bl.trans B7 (by go_grown)
    clear r7 HO HO7 HO6 HO5 HO4 R4
    (with_reducible refine (wrSctp_any _ _ _ _ _ _ _ _ _ S D T 0 l true false _ (row4_rd w7 S D T) hS hD hT (by omega) (H.out.below B8) (by omega)).mono ?_)
    rintro e w8 ⟨A8, c8, rfl, r8, hb8⟩
    have R8 := Lib.hid r8
    have R7' := Lib.hid (R7.out.below hb8)
    have B9 := B8.trans hb8
    clear r8 hb8
    go_wp2_with fail
    (with_reducible refine (bequal_any _ _ _ _ _ _ (sctpOut false S D T l) _ R8.out R7'.out).mono ?_)
    rintro e w9 ⟨rfl, rfl⟩
    go_wp2_with fail
    go_ret
    exact ⟨rfl, B9⟩
theorem sum_law (A : Option Addr) (n c : Nat) (l : List Int) (S D T : Int) (sum : Bool) (w : World) (h : Rd .u8 w A n c l) (w0 : (Lit.int .u16 S).wf = true) (w1 : (Lit.int .u16 D).wf = true) (w2 : (Lit.int .u32 T).wf = true) :
    Calls Try.prog 3 #[.int .u16 S, .int .u16 D, .int .u32 T, .slice A n c, .bool sum] w fun e w' => e = .returned (.bool true) ∧ Bl w w' := by
  by_cases hz : (2147483647 : Int) < (n : Int)
  · clear h w0 w1 w2
    go_enter Try.func3, Try.ntmps3
    go_wp2
    go_ret
    exact ⟨rfl, Bl.refl _⟩
  by_cases h3 : (300 : Int) < (n : Int)
  · clear h w0 w1 w2
    go_enter Try.func3, Try.ntmps3
    go_wp2
    go_ret
    exact ⟨rfl, Bl.refl _⟩
  · simp [Lit.wf, IntKind.min, IntKind.max, IntKind.signed, IntKind.bits] at w0 w1 w2
    exact sum_any A n c l S D T sum w h (by omega) (by omega) (by omega) (by omega)
end Go.Proofs.Ytoljdgfbkebgcaa
