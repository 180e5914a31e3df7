/- slices.Equal at numbers. -/
import Derived.Test.YtoljdgfbkebgcaaCopy
import Derived.Outline
namespace Go.Proofs.Ytoljdgfbkebgcaa
open Go.RowKit
def Drawn (w w' : World) : Prop := ∃ q, w' = w.drewN q
theorem Drawn.refl (w : World) : Drawn w w := ⟨0, rfl⟩
theorem Drawn.more {w w' : World} (h : Drawn w w') (n : Nat) : Drawn w (w'.drewN n) := by
  obtain ⟨q, rfl⟩ := h
  exact ⟨q + n, by simp [World.drewN, Nat.add_assoc]⟩
theorem Drawn.bl {w w' : World} (h : Drawn w w') : Bl w w' := by
  obtain ⟨q, rfl⟩ := h
  exact (Bl.refl w).drewN q

theorem seq_any (A1 A2 : Option Addr) (n c1 c2 : Nat) (l : List Int) (w : World) (h1 : Rd .u64 w A1 n c1 l) (h2 : Rd .u64 w A2 n c2 l) (hn : n ≤ 2147483647) :
    Calls Try.prog 51 #[.slice A1 n c1, .slice A2 n c2] w fun e w' => e = .returned (.bool true) ∧ Drawn w w' := by
  by_cases h0 : 0 < n
  · obtain ⟨g1, o1, rfl, _, hc1⟩ := h1.at h0
    obtain ⟨g2, o2, rfl, _, hc2⟩ := h2.at h0
    have H1 := Lib.hid hc1
    have H2 := Lib.hid hc2
    clear hc1 hc2 h1 h2
    go_enter Try.func51, Try.ntmps51
    go_wp2
    go_loopw [13] (fun i wr => ∃ k : Nat, k ≤ n ∧ i = .int .i64 k ∧ Drawn w wr) (fun i _ => n - (intOf i).toNat)
    case atStart => exact ⟨0, Nat.zero_le _, rfl, Drawn.refl _⟩
    case round =>
      obtain ⟨k, hk, rfl, hd⟩ := hrel
      obtain ⟨q, rfl⟩ := hd
      by_cases hlt : k < n
      · have d1 := H1.out k hlt
        have d2 := H2.out k hlt
        go_wp2
        go_quiet (fail)
        go_wp2
        go_roundw
        case rel => exact ⟨k + 1, by omega, by go_num, _, rfl⟩
        case measure => simp [intOf]; omega
      · go_wp2
        go_ret
        exact ⟨rfl, q, rfl⟩
  · obtain rfl : n = 0 := by omega
    go_enter Try.func51, Try.ntmps51
    go_wp2
    refine wp_loop_rounds 1 ?_
    rw [rounds_succ]
    go_wp2
    go_ret
    exact ⟨rfl, Drawn.refl _⟩
theorem part_any {F G : Nat → Prop} (u0 u1 v0 v1 : Value) (p : Prt) (w : World) (h1 : NumV F w u0 p.nums) (h2 : BytV F w u1 p.data) (h3 : NumV G w v0 p.nums) (h4 : BytV G w v1 p.data) (hn : p.nums.length ≤ 2147483647) :
    Calls Try.prog 50 #[.agg #[u0, u1], .agg #[v0, v1]] w fun e w' => e = .returned (.bool true) ∧ Bl w w' := by
  obtain ⟨A0, c0, rfl, _, r0⟩ := h1
  obtain ⟨⟨A1, c1, rfl, _, r1⟩, _⟩ := h2
  obtain ⟨B0, d0, rfl, _, s0⟩ := h3
  obtain ⟨⟨B1, d1, rfl, _, s1⟩, _⟩ := h4
  have R0 := Lib.hid r0
  have R1 := Lib.hid r1
  have S0 := Lib.hid s0
  have S1 := Lib.hid s1
  clear r0 r1 s0 s1
  go_enter Try.func50, Try.ntmps50
  go_wp2_with (first | (go_at_call 51; (with_reducible refine (seq_any _ _ _ _ _ _ _ (R0.out.below (by go_grown)) (S0.out.below (by go_grown)) hn).mono ?_); rintro e w1 ⟨rfl, q1, rfl⟩) | (go_at_call 29; (with_reducible refine (bequal_any _ _ _ _ _ _ _ _ (R1.out.below (Bl.drewN (by go_grown) _)) (S1.out.below (Bl.drewN (by go_grown) _))).mono ?_); rintro e w1 ⟨rfl, rfl⟩))
  go_ret
  exact ⟨rfl, Bl.drewN (by go_grown) _⟩

theorem eqData_any {F G : Nat → Prop} (v1 v2 : Value) (d : List (List Int)) (w : World) (h1 : DataV F w v1 d) (h2 : DataV G w v2 d) (hn : d.length ≤ 2147483647) :
    Calls Try.prog 52 #[v1, v2, .func (.func 29) #[] #[]] w fun e w' => e = .returned (.bool true) ∧ Bl w w' := by
  obtain ⟨A1, c1, rfl, _, _, r1⟩ := h1
  obtain ⟨A2, c2, rfl, _, _, r2⟩ := h2
  by_cases h0 : 0 < d.length
  · obtain ⟨g1, o1, _, rfl, _⟩ := r1 0 h0
    obtain ⟨g2, o2, _, rfl, _⟩ := r2 0 h0
    have R1 := Lib.hid r1
    have R2 := Lib.hid r2
    clear r1 r2
    generalize hm : d.length = n at *
    have HM := Lib.hid hm
    clear hm
    go_enter Try.func52, Try.ntmps52
    go_wp2
    go_loop [17] (fun i => ∃ k : Nat, k ≤ n ∧ i = .int .i64 k) (fun i => n - (intOf i).toNat)
    case atStart => exact ⟨0, Nat.zero_le _, rfl⟩
    case round =>
      obtain ⟨k, hk, rfl⟩ := hrel
      by_cases hlt : k < n
      · obtain ⟨g1', o1', u1, e1, k1, b1⟩ := R1.out k hlt
        obtain ⟨g2', o2', u2, e2, k2, b2⟩ := R2.out k hlt
        simp only [Option.some.injEq, Addr.mk.injEq, and_true] at e1 e2
        obtain ⟨rfl, rfl⟩ := e1
        obtain ⟨rfl, rfl⟩ := e2
        generalize d.getD k [] = x at *
        obtain ⟨⟨B1, d1, rfl, _, s1⟩, _⟩ := b1
        obtain ⟨⟨B2, d2, rfl, _, s2⟩, _⟩ := b2
        have S1 := Lib.hid s1
        have S2 := Lib.hid s2
        clear s1 s2
        go_wp2_with (go_at_call 29; (with_reducible refine (bequal_any _ _ _ _ _ _ _ _ S1.out S2.out).mono ?_); rintro e w1 ⟨rfl, rfl⟩)
        go_round
        case rel => exact ⟨k + 1, by omega, by go_num⟩
        case measure => simp [intOf]; omega
      · go_wp2
        go_ret
        exact ⟨rfl, Bl.refl _⟩
  · have h0' : d.length = 0 := by omega
    rw [h0']
    go_enter Try.func52, Try.ntmps52
    go_wp2
    refine wp_loop_rounds 1 ?_
    rw [rounds_succ]
    go_wp2
    go_ret
    exact ⟨rfl, Bl.refl _⟩

theorem eqParts_any {F G : Nat → Prop} (v1 v2 : Value) (d : List Prt) (w : World) (h1 : PartsV F w v1 d) (h2 : PartsV G w v2 d) (hn : d.length ≤ 2147483647) (hnn : ∀ p ∈ d, p.nums.length ≤ 2147483647) :
    Calls Try.prog 53 #[v1, v2, .func (.func 50) #[] #[]] w fun e w' => e = .returned (.bool true) ∧ Bl w w' := by
  obtain ⟨A1, c1, rfl, _, _, r1⟩ := h1
  obtain ⟨A2, c2, rfl, _, _, r2⟩ := h2
  by_cases h0 : 0 < d.length
  · obtain ⟨g1, o1, _, _, rfl, _⟩ := r1 0 h0
    obtain ⟨g2, o2, _, _, rfl, _⟩ := r2 0 h0
    have R1 := Lib.hid r1
    have R2 := Lib.hid r2
    have HN := Lib.hid hnn
    clear r1 r2 hnn
    generalize hm : d.length = n at *
    have HM := Lib.hid hm
    clear hm
    go_enter Try.func53, Try.ntmps53
    go_wp2
    go_loopw [17] (fun i wr => ∃ k : Nat, k ≤ n ∧ i = .int .i64 k ∧ Bl w wr) (fun i _ => n - (intOf i).toNat)
    case atStart => exact ⟨0, Nat.zero_le _, rfl, Bl.refl _⟩
    case round =>
      obtain ⟨k, hk, rfl, hbl⟩ := hrel
      by_cases hlt : k < n
      · obtain ⟨g1', o1', u10, u11, e1, k10, k11, b10, b11⟩ := R1.out k hlt
        obtain ⟨g2', o2', u20, u21, e2, k20, k21, b20, b21⟩ := R2.out k hlt
        simp only [Option.some.injEq, Addr.mk.injEq, and_true] at e1 e2
        obtain ⟨rfl, rfl⟩ := e1
        obtain ⟨rfl, rfl⟩ := e2
        have z1 := World.block_lt_of_cell? _ _ (hbl.keeps k10)
        have z2 := World.block_lt_of_cell? _ _ (hbl.keeps k20)
        have j10 := hbl.keeps k10
        have j11 := hbl.keeps k11
        have j20 := hbl.keeps k20
        have j21 := hbl.keeps k21
        have N := HN.out (d.getD k Prt.nil) (by rw [List.getD_eq_getElem?_getD, List.getElem?_eq_getElem (by rw [HM.out]; exact hlt)]; exact List.getElem_mem _)
        generalize d.getD k Prt.nil = p at *
        have P := Lib.hid (part_any (F := F) (G := G) u10 u11 u20 u21 p)
        have B := Lib.hid (And.intro (b10.below hbl) (And.intro (b11.below hbl) (And.intro (b20.below hbl) (b21.below hbl))))
        have HBL := Lib.hid hbl
        clear k10 k11 k20 k21 b10 b11 b20 b21 hbl
        obtain ⟨C10, cc10, E10, _, _⟩ := B.out.1
        obtain ⟨⟨C11, cc11, E11, _, _⟩, _⟩ := B.out.2.1
        obtain ⟨C20, cc20, E20, _, _⟩ := B.out.2.2.1
        obtain ⟨⟨C21, cc21, E21, _, _⟩, _⟩ := B.out.2.2.2
        subst E10 E11 E20 E21
        go_wp2_with (go_at_call 50; (with_reducible refine (P.out _ (B.out.1.below (by go_grown)) (B.out.2.1.below (by go_grown)) (B.out.2.2.1.below (by go_grown)) (B.out.2.2.2.below (by go_grown)) N).mono ?_); rintro e w1 ⟨rfl, hb1⟩)
        go_roundw
        case rel => exact ⟨k + 1, by omega, by go_num, (Bl.trans HBL.out (by go_grown)).trans hb1⟩
        case measure => simp [intOf]; omega
      · go_wp2
        go_ret
        exact ⟨rfl, hbl⟩
  · have h0' : d.length = 0 := by omega
    rw [h0']
    go_enter Try.func53, Try.ntmps53
    go_wp2
    refine wp_loop_rounds 1 ?_
    rw [rounds_succ]
    go_wp2
    go_ret
    exact ⟨rfl, Bl.refl _⟩
end Go.Proofs.Ytoljdgfbkebgcaa
