/- slices.Equal at numbers. A region that draws its order, where two operations that act may come in either order, and all others behind them in one. A region that draws its order: a plan by which what only looks is taken as soon as it can be, and what acts in the one order that is left. A region that draws its order: what looks and one operation that acts come first; then another that acts may come at any place among some that have one order; at last the rest, the last of it unwatched. -/
import Derived.Test.YtoljdgfbkebgcaaPq02
import Derived.Outline
import Derived.Test.YtoljdgfbkebgcaaPq04
namespace Go.Proofs.Ytoljdgfbkebgcaa
open Go.RowKit
set_option linter.unusedVariables false
def Drawn (w w' : World) : Prop := ∃ q, w' = w.drewN q
theorem Drawn.refl (w : World) : Drawn w w := ⟨0, rfl⟩
theorem Drawn.more {w w' : World} (h : Drawn w w') (n : Nat) : Drawn w (w'.drewN n) := by
  obtain ⟨q, rfl⟩ := h
  exact ⟨q + n, by simp [World.drewN, Nat.add_assoc]⟩
theorem Drawn.bl {w w' : World} (h : Drawn w w') : Bl w w' := by
  obtain ⟨q, rfl⟩ := h
  exact (Bl.refl w).drewN q

theorem seq_any (A1 A2 : Option Addr) (n c1 c2 : Nat) (l : List Int) (w : World) (h1 : Rd .u64 w A1 n c1 l) (h2 : Rd .u64 w A2 n c2 l) (hn : n ≤ 2147483647) :
    Calls Try.prog 51 #[.slice A1 n c1, .slice A2 n c2] w fun e w' => e = .returned (.bool true) ∧ Drawn w w' := by
  by_cases h0 : 0 < n
  · obtain ⟨g1, o1, rfl, _, hc1⟩ := h1.at h0
    obtain ⟨g2, o2, rfl, _, hc2⟩ := h2.at h0
    have H1 := Lib.hid hc1
    have H2 := Lib.hid hc2
    clear hc1 hc2 h1 h2
    go_enter Try.func51, Try.ntmps51
    go_wp2
    go_loopw [13] (fun i wr => ∃ k : Nat, k ≤ n ∧ i = .int .i64 k ∧ Drawn w wr) (fun i _ => n - (intOf i).toNat)
    case atStart => exact ⟨0, Nat.zero_le _, rfl, Drawn.refl _⟩
    case round =>
      obtain ⟨k, hk, rfl, hd⟩ := hrel
      obtain ⟨q, rfl⟩ := hd
      by_cases hlt : k < n
      · have d1 := H1.out k hlt
        have d2 := H2.out k hlt
        go_wp2
        go_quiet (fail)
        go_wp2
        go_roundw
        case rel => exact ⟨k + 1, by omega, by go_num, _, rfl⟩
        case measure => simp [intOf]; omega
      · go_wp2
        go_ret
        exact ⟨rfl, q, rfl⟩
  · obtain rfl : n = 0 := by omega
    go_enter Try.func51, Try.ntmps51
    go_wp2
    refine wp_loop_rounds 1 ?_
    rw [rounds_succ]
    go_wp2
    go_ret
    exact ⟨rfl, Drawn.refl _⟩
theorem part_any {F G : Nat → Prop} (u0 u1 v0 v1 : Value) (p : Prt) (w : World) (h1 : NumV F w u0 p.nums) (h2 : BytV F w u1 p.data) (h3 : NumV G w v0 p.nums) (h4 : BytV G w v1 p.data) (hn : p.nums.length ≤ 2147483647) :
    Calls Try.prog 50 #[.agg #[u0, u1], .agg #[v0, v1]] w fun e w' => e = .returned (.bool true) ∧ Bl w w' := by
  obtain ⟨A0, c0, rfl, _, r0⟩ := h1
  obtain ⟨⟨A1, c1, rfl, _, r1⟩, _⟩ := h2
  obtain ⟨B0, d0, rfl, _, s0⟩ := h3
  obtain ⟨⟨B1, d1, rfl, _, s1⟩, _⟩ := h4
  have R0 := Lib.hid r0
  have R1 := Lib.hid r1
  have S0 := Lib.hid s0
  have S1 := Lib.hid s1
  clear r0 r1 s0 s1
  go_enter Try.func50, Try.ntmps50
  go_wp2_with (first | (go_at_call 51; (with_reducible refine (seq_any _ _ _ _ _ _ _ (R0.out.below (by go_grown)) (S0.out.below (by go_grown)) hn).mono ?_); rintro e w1 ⟨rfl, q1, rfl⟩) | (go_at_call 29; (with_reducible refine (bequal_any _ _ _ _ _ _ _ _ (R1.out.below (Bl.drewN (by go_grown) _)) (S1.out.below (Bl.drewN (by go_grown) _))).mono ?_); rintro e w1 ⟨rfl, rfl⟩))
  go_ret
  exact ⟨rfl, Bl.drewN (by go_grown) _⟩

theorem eqData_any {F G : Nat → Prop} (v1 v2 : Value) (d : List (List Int)) (w : World) (h1 : DataV F w v1 d) (h2 : DataV G w v2 d) (hn : d.length ≤ 2147483647) :
    Calls Try.prog 52 #[v1, v2, .func (.func 29) #[] #[]] w fun e w' => e = .returned (.bool true) ∧ Bl w w' := by
  obtain ⟨A1, c1, rfl, _, _, r1⟩ := h1
  obtain ⟨A2, c2, rfl, _, _, r2⟩ := h2
  by_cases h0 : 0 < d.length
  · obtain ⟨g1, o1, _, rfl, _⟩ := r1 0 h0
    obtain ⟨g2, o2, _, rfl, _⟩ := r2 0 h0
    have R1 := Lib.hid r1
    have R2 := Lib.hid r2
    clear r1 r2
    generalize hm : d.length = n at *
    have HM := Lib.hid hm
    clear hm
    go_enter Try.func52, Try.ntmps52
    go_wp2
    go_loop [17] (fun i => ∃ k : Nat, k ≤ n ∧ i = .int .i64 k) (fun i => n - (intOf i).toNat)
    case atStart => exact ⟨0, Nat.zero_le _, rfl⟩
    case round =>
      obtain ⟨k, hk, rfl⟩ := hrel
      by_cases hlt : k < n
      · obtain ⟨g1', o1', u1, e1, k1, b1⟩ := R1.out k hlt
        obtain ⟨g2', o2', u2, e2, k2, b2⟩ := R2.out k hlt
        simp only [Option.some.injEq, Addr.mk.injEq, and_true] at e1 e2
        obtain ⟨rfl, rfl⟩ := e1
        obtain ⟨rfl, rfl⟩ := e2
        generalize d.getD k [] = x at *
        obtain ⟨⟨B1, d1, rfl, _, s1⟩, _⟩ := b1
        obtain ⟨⟨B2, d2, rfl, _, s2⟩, _⟩ := b2
        have S1 := Lib.hid s1
        have S2 := Lib.hid s2
        clear s1 s2
        go_wp2_with (go_at_call 29; (with_reducible refine (bequal_any _ _ _ _ _ _ _ _ S1.out S2.out).mono ?_); rintro e w1 ⟨rfl, rfl⟩)
        go_round
        case rel => exact ⟨k + 1, by omega, by go_num⟩
        case measure => simp [intOf]; omega
      · go_wp2
        go_ret
        exact ⟨rfl, Bl.refl _⟩
  · have h0' : d.length = 0 := by omega
    rw [h0']
    go_enter Try.func52, Try.ntmps52
    go_wp2
    refine wp_loop_rounds 1 ?_
    rw [rounds_succ]
    go_wp2
    go_ret
    exact ⟨rfl, Bl.refl _⟩

theorem eqParts_any {F G : Nat → Prop} (v1 v2 : Value) (d : List Prt) (w : World) (h1 : PartsV F w v1 d) (h2 : PartsV G w v2 d) (hn : d.length ≤ 2147483647) (hnn : ∀ p ∈ d, p.nums.length ≤ 2147483647) :
    Calls Try.prog 53 #[v1, v2, .func (.func 50) #[] #[]] w fun e w' => e = .returned (.bool true) ∧ Bl w w' := by
  obtain ⟨A1, c1, rfl, _, _, r1⟩ := h1
  obtain ⟨A2, c2, rfl, _, _, r2⟩ := h2
  by_cases h0 : 0 < d.length
  · obtain ⟨g1, o1, _, _, rfl, _⟩ := r1 0 h0
    obtain ⟨g2, o2, _, _, rfl, _⟩ := r2 0 h0
    have R1 := Lib.hid r1
    have R2 := Lib.hid r2
    have HN := Lib.hid hnn
    clear r1 r2 hnn
    generalize hm : d.length = n at *
    have HM := Lib.hid hm
    clear hm
    go_enter Try.func53, Try.ntmps53
    go_wp2
    go_loopw [17] (fun i wr => ∃ k : Nat, k ≤ n ∧ i = .int .i64 k ∧ Bl w wr) (fun i _ => n - (intOf i).toNat)
    case atStart => exact ⟨0, Nat.zero_le _, rfl, Bl.refl _⟩
    case round =>
      obtain ⟨k, hk, rfl, hbl⟩ := hrel
      by_cases hlt : k < n
      · obtain ⟨g1', o1', u10, u11, e1, k10, k11, b10, b11⟩ := R1.out k hlt
        obtain ⟨g2', o2', u20, u21, e2, k20, k21, b20, b21⟩ := R2.out k hlt
        simp only [Option.some.injEq, Addr.mk.injEq, and_true] at e1 e2
        obtain ⟨rfl, rfl⟩ := e1
        obtain ⟨rfl, rfl⟩ := e2
        have z1 := World.block_lt_of_cell? _ _ (hbl.keeps k10)
        have z2 := World.block_lt_of_cell? _ _ (hbl.keeps k20)
        have j10 := hbl.keeps k10
        have j11 := hbl.keeps k11
        have j20 := hbl.keeps k20
        have j21 := hbl.keeps k21
        have N := HN.out (d.getD k Prt.nil) (by rw [List.getD_eq_getElem?_getD, List.getElem?_eq_getElem (by rw [HM.out]; exact hlt)]; exact List.getElem_mem _)
        generalize d.getD k Prt.nil = p at *
        have P := Lib.hid (part_any (F := F) (G := G) u10 u11 u20 u21 p)
        have B := Lib.hid (And.intro (b10.below hbl) (And.intro (b11.below hbl) (And.intro (b20.below hbl) (b21.below hbl))))
        have HBL := Lib.hid hbl
        clear k10 k11 k20 k21 b10 b11 b20 b21 hbl
        obtain ⟨C10, cc10, E10, _, _⟩ := B.out.1
        obtain ⟨⟨C11, cc11, E11, _, _⟩, _⟩ := B.out.2.1
        obtain ⟨C20, cc20, E20, _, _⟩ := B.out.2.2.1
        obtain ⟨⟨C21, cc21, E21, _, _⟩, _⟩ := B.out.2.2.2
        subst E10 E11 E20 E21
        go_wp2_with (go_at_call 50; (with_reducible refine (P.out _ (B.out.1.below (by go_grown)) (B.out.2.1.below (by go_grown)) (B.out.2.2.1.below (by go_grown)) (B.out.2.2.2.below (by go_grown)) N).mono ?_); rintro e w1 ⟨rfl, hb1⟩)
        go_roundw
        case rel => exact ⟨k + 1, by omega, by go_num, (Bl.trans HBL.out (by go_grown)).trans hb1⟩
        case measure => simp [intOf]; omega
      · go_wp2
        go_ret
        exact ⟨rfl, hbl⟩
  · have h0' : d.length = 0 := by omega
    rw [h0']
    go_enter Try.func53, Try.ntmps53
    go_wp2
    refine wp_loop_rounds 1 ?_
    rw [rounds_succ]
    go_wp2
    go_ret
    exact ⟨rfl, Bl.refl _⟩
end Go.Proofs.Ytoljdgfbkebgcaa
namespace Go.Proofs.Ytoljdgfbkebgcaa
open Go Go.RowKit
section
variable {P : Program} {ops : Array Oper} {Q : Exit → Act → World → Prop} {S : World → Prop} {md : Region.Mode} {T : Nat}
/-- The operation of a number, alone. -/
def pickL : Nat → List Oper → List Oper
  | _, [] => []
  | 0, o :: _ => [o]
  | k + 1, _ :: l => pickL k l
theorem pickL_of : ∀ (k : Nat) (l : List Oper) (o : Oper), l[k]? = some o → pickL k l = [o]
  | k, [], o, h => by simp at h
  | 0, x :: l, o, h => by simp at h; simp [pickL, h]
  | k + 1, x :: l, o, h => by simp only [pickL]; exact pickL_of k l o (by simpa using h)
theorem stepN {k m : Nat} {o : Oper} {l : List Oper} {a : Act} {w : World} (h0 : ops[k]? = some o) (h : wpN P ops Q S (m + 1) (o :: l) a w) :
    wpOp P ops Q k (fun a' w' => S w' ∧ wpN P ops Q S m l a' w') a w := by
  have h' : if Region.wanted o (yielded ops a.tmps) then o.wp P a w (fun a' w' => S w' ∧ wpN P ops Q S m l a' w') Q else S w ∧ wpN P ops Q S m l (a.put o.dst undef) w := h
  unfold wpOp
  simp only [h0]
  split
  · rename_i hw
    rw [if_pos hw] at h'
    exact .inl h'
  · rename_i hw
    rw [if_neg hw] at h'
    exact h'
def rest2B (md : Region.Mode) (ops : Array Oper) (q' : List Bool) (i j : Nat) (listed : Array Bool) : Bool :=
  decide (i ≠ j) && decide (Region.ready md ops listed = [i, j]) && decide (Region.ready md ops (listed.setIfInBounds i true) = [j]) && decide (Region.ready md ops (listed.setIfInBounds j true) = [i]) &&
    restB md ops q' 0 ((listed.setIfInBounds i true).setIfInBounds j true)
theorem rest_walk2 {i j : Nat} {oi oj : Oper} (hi : ops[i]? = some oi) (hj : ops[j]? = some oj) (q' : List Bool) (l : List Oper) (listed : Array Bool) (a : Act) (w : World) (hl : ∀ k, l[k]? = ops[0 + k]?) (hlen : q'.length = l.length)
    (hB : rest2B md ops q' i j listed = true)
    (h1 : wpN P ops Q S (earlyN T q' 0 + 1 + 1) (oi :: oj :: selN q' l) a w) (h2 : wpN P ops Q S (earlyN T q' 0 + 1 + 1) (oj :: oi :: selN q' l) a w) :
    wpAnyK P md ops Q S T (cntN q' + 1 + 1) listed a w := by
  simp only [rest2B, Bool.and_eq_true, decide_eq_true_eq] at hB
  obtain ⟨⟨⟨⟨hij, hr⟩, hri⟩, hrj⟩, hB⟩ := hB
  refine ⟨fun h => (by rw [hr] at h; cases h), fun k hk => ?_⟩
  rw [hr] at hk
  rcases List.mem_cons.1 hk with rfl | hk
  · refine wpOp_mono (fun a' w' h' => ⟨fun _ => h'.1, ⟨fun h => (by rw [hri] at h; cases h), fun k hk => ?_⟩⟩) (stepN hi h1)
    rw [hri] at hk
    obtain rfl : k = j := by simpa using hk
    exact wpOp_mono (fun a'' w'' h'' => ⟨fun _ => h''.1, rest_walk q' l 0 _ a'' w'' hl hlen hB (.inl h''.1) h''.2⟩) (stepN hj h'.2)
  · obtain rfl : k = j := by simpa using hk
    refine wpOp_mono (fun a' w' h' => ⟨fun _ => h'.1, ⟨fun h => (by rw [hrj] at h; cases h), fun k hk => ?_⟩⟩) (stepN hj h2)
    rw [hrj] at hk
    obtain rfl : k = i := by simpa using hk
    refine wpOp_mono (fun a'' w'' h'' => ⟨fun _ => h''.1, ?_⟩) (stepN hi h'.2)
    rw [Array.setIfInBounds_comm _ _ (Ne.symm hij)]
    exact rest_walk q' l 0 _ a'' w'' hl hlen hB (.inl h''.1) h''.2
def float2B (md : Region.Mode) (ops : Array Oper) (q q' : List Bool) (i j T : Nat) : Bool :=
  Region.noSelect ops && decide (q.length = ops.size) && decide (q'.length = ops.size) && decide (i < ops.size) && decide (j < ops.size) && decide (cntN q = cntN q' + 1 + 1) && takeB md ops T q 0 (Array.replicate ops.size false) && latesB md ops T (idxQ q 0) && rest2B md ops q' i j (endL q 0 (Array.replicate ops.size false))
theorem wp_region_float2 {id : Nat} {a : Act} {w : World} {l : List Oper} (q q' : List Bool) (i j T : Nat) (hm : P.follows .mixedOrders = true) (hB : float2B .any l.toArray q q' i j T = true) (hS : S w.drew)
    (h : wpQuiet P l.toArray S (fun a' => wpN P l.toArray (NoPanic Q) S (earlyN T q' 0 + 1 + 1) (pickL i l ++ (pickL j l ++ selN q' l)) a' w.drew ∧ wpN P l.toArray (NoPanic Q) S (earlyN T q' 0 + 1 + 1) (pickL j l ++ (pickL i l ++ selN q' l)) a' w.drew) (selQ q l) a) :
    (Code.region id l.toArray true).wp P Q a w := by
  simp only [float2B, Bool.and_eq_true, decide_eq_true_eq] at hB
  obtain ⟨⟨⟨⟨⟨⟨⟨⟨hs, hlen⟩, hlen2⟩, hi⟩, hj⟩, hcn⟩, ht⟩, hl⟩, hr⟩ := hB
  have hlen' : q.length = l.length := by simpa using hlen
  have hlen2' : q'.length = l.length := by simpa using hlen2
  have hi' : l[i]? = some (l[i]'(by simpa using hi)) := List.getElem?_eq_getElem _
  have hj' : l[j]? = some (l[j]'(by simpa using hj)) := List.getElem?_eq_getElem _
  rw [pickL_of i l _ hi', pickL_of j l _ hj'] at h
  refine wp_region_noPanic (wp_region_any hm (wpAny_of_K (S := S) (T := T) _ _ _ _ ?_))
  have H := take_walk (P := P) (md := .any) (T := T) (Q := NoPanic Q) (Region.noSelect_spec hs) (fun _ _ _ _ _ h => h) hS (cntN q) q l 0 (Array.replicate l.toArray.size false) a (by simp) hlen' (clo_none _) ht (fun i hi => latesB_spec hl hi)
    (fun a' h' => by rw [hcn]; exact rest_walk2 (by simp) (by simp) q' l _ a' w.drew (by simp) hlen2' hr h'.1 h'.2) h
  rw [cnt_add, hlen] at H
  exact H
end
end Go.Proofs.Ytoljdgfbkebgcaa
namespace Go.Proofs.Ytoljdgfbkebgcaa
open Go Go.RowKit
section
variable {P : Program} {ops : Array Oper} {Q : Exit → Act → World → Prop} {S : World → Prop} {md : Region.Mode} {T : Nat}
/-- The operations of some numbers. -/
def getL (l : List Oper) : List Nat → List Oper
  | [] => []
  | k :: ks => pickL k l ++ getL l ks
/-- One operation that acts, alone in its list; S is to be shown behind it. -/
def wpAct (P : Program) (ops : Array Oper) (Q : Exit → Act → World → Prop) (S : World → Prop) (K : Act → World → Prop) : List Oper → Act → World → Prop
  | [o], a, w => if Region.wanted o (yielded ops a.tmps) then o.wp P a w (fun a' w' => S w' ∧ K a' w') Q else S w ∧ K (a.put o.dst undef) w
  | _, _, _ => False
/-- The plan's walk: groups of what looks, each with one operation that acts behind it. -/
def wpGr (P : Program) (ops : Array Oper) (Q : Exit → Act → World → Prop) (S : World → Prop) (l : List Oper) : List (List Nat × Nat) → List Nat → Act → World → Prop
  | [], qs, a, w => wpQuiet P ops S (fun a' => Q .normal a' w) (getL l qs) a
  | (q, k) :: g, qs, a, w => wpQuiet P ops S (fun a' => wpAct P ops Q S (wpGr P ops Q S l g qs) (pickL k l) a' w) (getL l q) a
def qsB (md : Region.Mode) (ops : Array Oper) : List Nat → Array Bool → Bool
  | [], _ => true
  | k :: ks, listed => (Region.ready md ops listed).contains k && Region.free md ops listed k && (match ops[k]? with | some o => plainOp o.op | none => false) && qsB md ops ks (listed.setIfInBounds k true)
def qsE : List Nat → Array Bool → Array Bool
  | [], listed => listed
  | k :: ks, listed => qsE ks (listed.setIfInBounds k true)
def grB (md : Region.Mode) (ops : Array Oper) : List (List Nat × Nat) → List Nat → Array Bool → Bool
  | [], qs, listed => qsB md ops qs listed && (Region.ready md ops (qsE qs listed)).isEmpty
  | (q, k) :: g, qs, listed => qsB md ops q listed && decide (Region.ready md ops (qsE q listed) = [k]) && grB md ops g qs ((qsE q listed).setIfInBounds k true)
def grN : List (List Nat × Nat) → List Nat → Nat
  | [], qs => qs.length
  | (q, _) :: g, qs => q.length + (grN g qs + 1)
theorem qs_clo (ks : List Nat) : ∀ listed : Array Bool, Clo md ops listed → qsB md ops ks listed = true → Clo md ops (qsE ks listed) := by
  induction ks with
  | nil => intro l h _; exact h
  | cons k ks ih =>
    intro l h hB
    simp only [qsB, Bool.and_eq_true] at hB
    obtain ⟨⟨⟨hr, _⟩, _⟩, hB⟩ := hB
    exact ih _ (h.set (by simpa using hr)) hB
theorem qs_walk (hT : ∀ i, Lates md ops T i) (hsel : ∀ (j : Nat) (o : Oper) cs b, ops[j]? = some o → o.op ≠ .select cs b) (hQ : ∀ c a d v w, Q (.panic c) (a.put d v) w → Q (.panic c) a w) {w : World} (hS : S w) (l : List Oper) (hl : ∀ j : Nat, l[j]? = ops[j]?) (fN : Nat) {Φ : Act → Prop} (ks : List Nat) :
    ∀ (listed : Array Bool) (a : Act), Clo md ops listed → qsB md ops ks listed = true → (∀ a', Φ a' → wpAnyK P md ops Q S T fN (qsE ks listed) a' w) → wpQuiet P ops S Φ (getL l ks) a → wpAnyK P md ops Q S T (ks.length + fN) listed a w := by
  induction ks with
  | nil =>
    intro listed a _ _ hΦ h
    have := hΦ a h
    simpa [qsE] using this
  | cons k ks ih =>
    intro listed a hc hB hΦ h
    simp only [qsB, Bool.and_eq_true] at hB
    obtain ⟨⟨⟨hr, hf⟩, hp⟩, hB'⟩ := hB
    cases h0 : ops[k]? with
    | none => rw [h0] at hp; cases hp
    | some o =>
      rw [h0] at hp
      have hr' : k ∈ Region.ready md ops listed := by simpa using hr
      rw [getL, pickL_of k l o ((hl k).trans h0), List.cons_append, List.nil_append] at h
      have hy : ∃ v, YieldsIf P ops S o v a ∧ wpQuiet P ops S Φ (getL l ks) (a.put o.dst v) := by
        have h' : if Region.wanted o (yielded ops a.tmps) then o.quiet P a S (wpQuiet P ops S Φ (getL l ks)) else wpQuiet P ops S Φ (getL l ks) (a.put o.dst undef) := h
        by_cases hw : Region.wanted o (yielded ops a.tmps) = true
        · rw [if_pos hw] at h'
          obtain ⟨v, h1, h2⟩ := quiet_yields hp h'
          exact ⟨v, .inl ⟨hw, h1⟩, h2⟩
        · rw [if_neg hw] at h'
          exact ⟨undef, .inr ⟨by simpa using hw, rfl⟩, h'⟩
      obtain ⟨v, hy, h'⟩ := hy
      have e : (k :: ks).length + fN = ks.length + fN + 1 := by simp; omega
      rw [e]
      exact wpAnyK_first h0 hsel hQ (hT k) (ks.length + fN) listed a w (Region.free_spec h0 hf) hc hr' hy hS (ih _ _ (hc.set hr') hB' hΦ h')
theorem wpAct_op {k : Nat} {o : Oper} {K : Act → World → Prop} {a : Act} {w : World} (h0 : ops[k]? = some o) (h : wpAct P ops Q S K [o] a w) : wpOp P ops Q k (fun a' w' => S w' ∧ K a' w') a w := by
  have h' : if Region.wanted o (yielded ops a.tmps) then o.wp P a w (fun a' w' => S w' ∧ K a' w') Q else S w ∧ K (a.put o.dst undef) w := h
  unfold wpOp
  simp only [h0]
  split
  · rename_i hw
    rw [if_pos hw] at h'
    exact .inl h'
  · rename_i hw
    rw [if_neg hw] at h'
    exact h'
theorem gr_walk (hT : ∀ i, Lates md ops T i) (hsel : ∀ (j : Nat) (o : Oper) cs b, ops[j]? = some o → o.op ≠ .select cs b) (hQ : ∀ c a d v w, Q (.panic c) (a.put d v) w → Q (.panic c) a w) (l : List Oper) (hl : ∀ j : Nat, l[j]? = ops[j]?) (qs : List Nat) (g : List (List Nat × Nat)) :
    ∀ (listed : Array Bool) (a : Act) (w : World), S w → Clo md ops listed → grB md ops g qs listed = true → wpGr P ops Q S l g qs a w → wpAnyK P md ops Q S T (grN g qs) listed a w := by
  induction g with
  | nil =>
    intro listed a w hS hc hB h
    simp only [grB, Bool.and_eq_true] at hB
    have := qs_walk hT hsel hQ hS l hl 0 qs listed a hc hB.1 (fun a' h' => ⟨by simpa using hB.2, h'⟩) h
    simpa [grN] using this
  | cons x g ih =>
    obtain ⟨q, k⟩ := x
    intro listed a w hS hc hB h
    simp only [grB, Bool.and_eq_true, decide_eq_true_eq] at hB
    obtain ⟨⟨hq, hr⟩, hB⟩ := hB
    have hc2 := qs_clo q listed hc hq
    have hk : k ∈ Region.ready md ops (qsE q listed) := by rw [hr]; exact List.mem_singleton.2 rfl
    obtain ⟨_, o, h0, _⟩ := mem_ready.1 hk
    refine qs_walk hT hsel hQ hS l hl (grN g qs + 1) q listed a hc hq (fun a' h' => ?_) h
    rw [pickL_of k l o ((hl k).trans h0)] at h'
    refine ⟨fun h1 => (by rw [hr] at h1; cases h1), fun i hi => ?_⟩
    rw [hr] at hi
    obtain rfl : i = k := by simpa using hi
    exact wpOp_mono (fun a'' w'' h'' => ⟨fun _ => h''.1, ih _ a'' w'' h''.1 (hc2.set hk) hB h''.2⟩) (wpAct_op h0 h')
def planB (md : Region.Mode) (ops : Array Oper) (g : List (List Nat × Nat)) (qs : List Nat) : Bool :=
  Region.noSelect ops && decide (grN g qs = ops.size) && grB md ops g qs (Array.replicate ops.size false)
theorem wp_region_plan {id : Nat} {a : Act} {w : World} {l : List Oper} (g : List (List Nat × Nat)) (qs : List Nat) (hm : P.follows .mixedOrders = true) (hB : planB .any l.toArray g qs = true) (hS : S w.drew)
    (h : wpGr P l.toArray (NoPanic Q) S l g qs a w.drew) : (Code.region id l.toArray true).wp P Q a w := by
  simp only [planB, Bool.and_eq_true, decide_eq_true_eq] at hB
  obtain ⟨⟨hs, hn⟩, hg⟩ := hB
  refine wp_region_noPanic (wp_region_any hm (wpAny_of_K (S := S) (T := l.toArray.size) _ _ _ _ ?_))
  have hT : ∀ i, Lates .any l.toArray l.toArray.size i := fun i j hj listed _ hr => by
    obtain ⟨_, o, ho, _⟩ := mem_ready.1 hr
    have := (Array.getElem?_eq_some_iff.1 ho).1
    omega
  have H := gr_walk (P := P) (Q := NoPanic Q) hT (Region.noSelect_spec hs) (fun _ _ _ _ _ h => h) l (by simp) qs g (Array.replicate l.toArray.size false) a w.drew hS (clo_none _) hg h
  rw [hn] at H
  exact H
theorem wpGr_cons {l : List Oper} {q : List Nat} {k : Nat} {g : List (List Nat × Nat)} {qs : List Nat} {a : Act} {w : World}
    (h : wpQuiet P ops S (fun a' => wpAct P ops Q S (wpGr P ops Q S l g qs) (pickL k l) a' w) (getL l q) a) : wpGr P ops Q S l ((q, k) :: g) qs a w := h
theorem wpGr_nil {l : List Oper} {qs : List Nat} {a : Act} {w : World} (h : wpQuiet P ops S (fun a' => Q .normal a' w) (getL l qs) a) : wpGr P ops Q S l [] qs a w := h
theorem wpAct_want {o : Oper} {K : Act → World → Prop} {a : Act} {w : World} (hw : Region.wanted o (yielded ops a.tmps) = true)
    (h : ∀ K' : Act → World → Prop, (∀ a w, S w → K a w → K' a w) → o.wp P a w K' Q) : wpAct P ops Q S K [o] a w := by
  have := h (fun a' w' => S w' ∧ K a' w') (fun _ _ h1 h2 => ⟨h1, h2⟩)
  show if _ then _ else _
  rw [if_pos hw]
  exact this
end
end Go.Proofs.Ytoljdgfbkebgcaa
namespace Go.Proofs.Ytoljdgfbkebgcaa
open Go Go.RowKit
section
variable {P : Program} {ops : Array Oper} {Q : Exit → Act → World → Prop} {S : World → Prop} {md : Region.Mode} {T : Nat}
theorem qs_walk2 (hsel : ∀ (j : Nat) (o : Oper) cs b, ops[j]? = some o → o.op ≠ .select cs b) (hQ : ∀ c a d v w, Q (.panic c) (a.put d v) w → Q (.panic c) a w) {w : World} (hS : S w) (l : List Oper) (hl : ∀ j : Nat, l[j]? = ops[j]?) (fN : Nat) {Φ : Act → Prop} (ks : List Nat) (hT : ∀ i ∈ ks, Lates md ops T i) :
    ∀ (listed : Array Bool) (a : Act), Clo md ops listed → qsB md ops ks listed = true → (∀ a', Φ a' → wpAnyK P md ops Q S T fN (qsE ks listed) a' w) → wpQuiet P ops S Φ (getL l ks) a → wpAnyK P md ops Q S T (ks.length + fN) listed a w := by
  induction ks with
  | nil =>
    intro listed a _ _ hΦ h
    have := hΦ a h
    simpa [qsE] using this
  | cons k ks ih =>
    intro listed a hc hB hΦ h
    simp only [qsB, Bool.and_eq_true] at hB
    obtain ⟨⟨⟨hr, hf⟩, hp⟩, hB'⟩ := hB
    cases h0 : ops[k]? with
    | none => rw [h0] at hp; cases hp
    | some o =>
      rw [h0] at hp
      have hr' : k ∈ Region.ready md ops listed := by simpa using hr
      rw [getL, pickL_of k l o ((hl k).trans h0), List.cons_append, List.nil_append] at h
      have hy : ∃ v, YieldsIf P ops S o v a ∧ wpQuiet P ops S Φ (getL l ks) (a.put o.dst v) := by
        have h' : if Region.wanted o (yielded ops a.tmps) then o.quiet P a S (wpQuiet P ops S Φ (getL l ks)) else wpQuiet P ops S Φ (getL l ks) (a.put o.dst undef) := h
        by_cases hw : Region.wanted o (yielded ops a.tmps) = true
        · rw [if_pos hw] at h'
          obtain ⟨v, h1, h2⟩ := quiet_yields hp h'
          exact ⟨v, .inl ⟨hw, h1⟩, h2⟩
        · rw [if_neg hw] at h'
          exact ⟨undef, .inr ⟨by simpa using hw, rfl⟩, h'⟩
      obtain ⟨v, hy, h'⟩ := hy
      have e : (k :: ks).length + fN = ks.length + fN + 1 := by simp; omega
      rw [e]
      exact wpAnyK_first h0 hsel hQ (hT k (List.mem_cons_self ..)) (ks.length + fN) listed a w (Region.free_spec h0 hf) hc hr' hy hS (ih (fun i hi => hT i (List.mem_cons_of_mem _ hi)) _ _ (hc.set hr') hB' hΦ h')
/-- Groups of what looks, each with one that acts behind it; then the rest. -/
def wpGrL (P : Program) (ops : Array Oper) (Q : Exit → Act → World → Prop) (S : World → Prop) (l : List Oper) (m : Nat) (q' : List Bool) : List (List Nat × Nat) → Act → World → Prop
  | [], a, w => wpN P ops Q S m (selN q' l) a w
  | (q, k) :: g, a, w => wpQuiet P ops S (fun a' => wpAct P ops Q S (wpGrL P ops Q S l m q' g) (pickL k l) a' w) (getL l q) a
/-- The same, where number f may come ahead of each that acts, or behind all of them. -/
def wpFlL (P : Program) (ops : Array Oper) (Q : Exit → Act → World → Prop) (S : World → Prop) (l : List Oper) (f m : Nat) (q' : List Bool) : List (List Nat × Nat) → Act → World → Prop
  | [], a, w => wpAct P ops Q S (wpGrL P ops Q S l m q' []) (pickL f l) a w
  | (q, k) :: g, a, w => wpQuiet P ops S (fun a' => wpAct P ops Q S (wpAct P ops Q S (wpGrL P ops Q S l m q' g) (pickL k l)) (pickL f l) a' w ∧ wpAct P ops Q S (wpFlL P ops Q S l f m q' g) (pickL k l) a' w) (getL l q) a
def grLN (q' : List Bool) : List (List Nat × Nat) → Nat
  | [] => cntN q'
  | (q, _) :: g => q.length + (grLN q' g + 1)
def grLB (md : Region.Mode) (ops : Array Oper) (T : Nat) (q' : List Bool) : List (List Nat × Nat) → Array Bool → Bool
  | [], listed => restB md ops q' 0 listed
  | (q, k) :: g, listed => qsB md ops q listed && latesB md ops T q && decide (Region.ready md ops (qsE q listed) = [k]) && grLB md ops T q' g ((qsE q listed).setIfInBounds k true)
def flLB (md : Region.Mode) (ops : Array Oper) (f T : Nat) (q' : List Bool) : List (List Nat × Nat) → Array Bool → Bool
  | [], listed => decide (Region.ready md ops listed = [f]) && restB md ops q' 0 (listed.setIfInBounds f true)
  | (q, k) :: g, listed => qsB md ops q listed && latesB md ops T q && (decide (Region.ready md ops (qsE q listed) = [k, f]) || decide (Region.ready md ops (qsE q listed) = [f, k])) && decide (Region.ready md ops ((qsE q listed).setIfInBounds f true) = [k]) &&
      grLB md ops T q' g (((qsE q listed).setIfInBounds f true).setIfInBounds k true) && flLB md ops f T q' g ((qsE q listed).setIfInBounds k true)
theorem grL_walk (hsel : ∀ (j : Nat) (o : Oper) cs b, ops[j]? = some o → o.op ≠ .select cs b) (hQ : ∀ c a d v w, Q (.panic c) (a.put d v) w → Q (.panic c) a w) (l : List Oper) (hl : ∀ j : Nat, l[j]? = ops[j]?) (q' : List Bool) (hq : q'.length = l.length) (g : List (List Nat × Nat)) :
    ∀ (listed : Array Bool) (a : Act) (w : World), S w → Clo md ops listed → grLB md ops T q' g listed = true → wpGrL P ops Q S l (earlyN T q' 0) q' g a w → wpAnyK P md ops Q S T (grLN q' g) listed a w := by
  induction g with
  | nil =>
    intro listed a w hS hc hB h
    exact rest_walk q' l 0 listed a w (fun j => by rw [Nat.zero_add]; exact hl j) hq hB (.inl hS) h
  | cons x g ih =>
    obtain ⟨q, k⟩ := x
    intro listed a w hS hc hB h
    simp only [grLB, Bool.and_eq_true, decide_eq_true_eq] at hB
    obtain ⟨⟨⟨hqB, hla⟩, hr⟩, hB⟩ := hB
    have hc2 := qs_clo q listed hc hqB
    have hk : k ∈ Region.ready md ops (qsE q listed) := by rw [hr]; exact List.mem_singleton.2 rfl
    obtain ⟨_, o, h0, _⟩ := mem_ready.1 hk
    refine qs_walk2 hsel hQ hS l hl (grLN q' g + 1) q (fun i hi => latesB_spec hla hi) listed a hc hqB (fun a' h' => ?_) h
    rw [pickL_of k l o ((hl k).trans h0)] at h'
    refine ⟨fun h1 => (by rw [hr] at h1; cases h1), fun i hi => ?_⟩
    rw [hr] at hi
    obtain rfl : i = k := by simpa using hi
    exact wpOp_mono (fun a'' w'' h'' => ⟨fun _ => h''.1, ih _ a'' w'' h''.1 (hc2.set hk) hB h''.2⟩) (wpAct_op h0 h')
theorem flL_walk (hsel : ∀ (j : Nat) (o : Oper) cs b, ops[j]? = some o → o.op ≠ .select cs b) (hQ : ∀ c a d v w, Q (.panic c) (a.put d v) w → Q (.panic c) a w) (l : List Oper) (hl : ∀ j : Nat, l[j]? = ops[j]?) (f : Nat) (q' : List Bool) (hq : q'.length = l.length) (g : List (List Nat × Nat)) :
    ∀ (listed : Array Bool) (a : Act) (w : World), S w → Clo md ops listed → flLB md ops f T q' g listed = true → wpFlL P ops Q S l f (earlyN T q' 0) q' g a w → wpAnyK P md ops Q S T (grLN q' g + 1) listed a w := by
  induction g with
  | nil =>
    intro listed a w hS hc hB h
    simp only [flLB, Bool.and_eq_true, decide_eq_true_eq] at hB
    obtain ⟨hr, hB⟩ := hB
    have hk : f ∈ Region.ready md ops listed := by rw [hr]; exact List.mem_singleton.2 rfl
    obtain ⟨_, o, h0, _⟩ := mem_ready.1 hk
    have h' : wpAct P ops Q S (wpGrL P ops Q S l (earlyN T q' 0) q' []) (pickL f l) a w := h
    rw [pickL_of f l o ((hl f).trans h0)] at h'
    refine ⟨fun h1 => (by rw [hr] at h1; cases h1), fun i hi => ?_⟩
    rw [hr] at hi
    obtain rfl : i = f := by simpa using hi
    exact wpOp_mono (fun a'' w'' h'' => ⟨fun _ => h''.1, grL_walk hsel hQ l hl q' hq [] _ a'' w'' h''.1 (hc.set hk) hB h''.2⟩) (wpAct_op h0 h')
  | cons x g ih =>
    obtain ⟨q, k⟩ := x
    intro listed a w hS hc hB h
    simp only [flLB, Bool.and_eq_true, Bool.or_eq_true, decide_eq_true_eq] at hB
    obtain ⟨⟨⟨⟨⟨hqB, hla⟩, hr⟩, hrf⟩, hG⟩, hB⟩ := hB
    have hc2 := qs_clo q listed hc hqB
    have hmem : ∀ i, i ∈ Region.ready md ops (qsE q listed) ↔ (i = k ∨ i = f) := fun i => by
      rcases hr with hr | hr <;> rw [hr] <;> simp
      exact Or.comm
    have hk := (hmem k).2 (.inl rfl)
    have hf := (hmem f).2 (.inr rfl)
    obtain ⟨_, ok, hk0, _⟩ := mem_ready.1 hk
    obtain ⟨_, of, hf0, _⟩ := mem_ready.1 hf
    have e : grLN q' ((q, k) :: g) + 1 = q.length + (grLN q' g + 1 + 1) := by simp only [grLN]; omega
    rw [e]
    refine qs_walk2 hsel hQ hS l hl _ q (fun i hi => latesB_spec hla hi) listed a hc hqB (fun a' h' => ?_) h
    rw [pickL_of k l ok ((hl k).trans hk0), pickL_of f l of ((hl f).trans hf0)] at h'
    refine ⟨fun h1 => (by rw [h1] at hk; cases hk), fun i hi => ?_⟩
    rcases (hmem i).1 hi with rfl | rfl
    · exact wpOp_mono (fun a'' w'' h'' => ⟨fun _ => h''.1, ih _ a'' w'' h''.1 (hc2.set hk) hB h''.2⟩) (wpAct_op hk0 h'.2)
    · refine wpOp_mono (fun a'' w'' h'' => ⟨fun _ => h''.1, ?_⟩) (wpAct_op hf0 h'.1)
      have hk' : k ∈ Region.ready md ops ((qsE q listed).setIfInBounds i true) := by rw [hrf]; exact List.mem_singleton.2 rfl
      refine ⟨fun h1 => (by rw [hrf] at h1; cases h1), fun j hj => ?_⟩
      rw [hrf] at hj
      obtain rfl : j = k := by simpa using hj
      exact wpOp_mono (fun a3 w3 h3 => ⟨fun _ => h3.1, grL_walk hsel hQ l hl q' hq g _ a3 w3 h3.1 ((hc2.set hf).set hk') hG h3.2⟩) (wpAct_op hk0 h''.2)
def pflB (md : Region.Mode) (ops : Array Oper) (q0 : List Nat) (k0 f T : Nat) (q' : List Bool) (g : List (List Nat × Nat)) : Bool :=
  Region.noSelect ops && decide (q'.length = ops.size) && decide (q0.length + (grLN q' g + 1 + 1) = ops.size) && qsB md ops q0 (Array.replicate ops.size false) && latesB md ops T q0 && decide (Region.ready md ops (qsE q0 (Array.replicate ops.size false)) = [k0]) &&
    flLB md ops f T q' g ((qsE q0 (Array.replicate ops.size false)).setIfInBounds k0 true)
theorem wp_region_pfl {id : Nat} {a : Act} {w : World} {l : List Oper} (q0 : List Nat) (k0 f T : Nat) (q' : List Bool) (g : List (List Nat × Nat)) (hm : P.follows .mixedOrders = true) (hB : pflB .any l.toArray q0 k0 f T q' g = true) (hS : S w.drew)
    (h : wpQuiet P l.toArray S (fun a' => wpAct P l.toArray (NoPanic Q) S (wpFlL P l.toArray (NoPanic Q) S l f (earlyN T q' 0) q' g) (pickL k0 l) a' w.drew) (getL l q0) a) : (Code.region id l.toArray true).wp P Q a w := by
  simp only [pflB, Bool.and_eq_true, decide_eq_true_eq] at hB
  obtain ⟨⟨⟨⟨⟨⟨hs, hlen⟩, hn⟩, hq⟩, hla⟩, hr⟩, hB⟩ := hB
  refine wp_region_noPanic (wp_region_any hm (wpAny_of_K (S := S) (T := T) _ _ _ _ ?_))
  have hl : ∀ j : Nat, l[j]? = l.toArray[j]? := by simp
  have hk : k0 ∈ Region.ready .any l.toArray (qsE q0 (Array.replicate l.toArray.size false)) := by rw [hr]; exact List.mem_singleton.2 rfl
  obtain ⟨_, o, h0, _⟩ := mem_ready.1 hk
  have H := qs_walk2 (P := P) (md := .any) (T := T) (Q := NoPanic Q) (S := S) (Region.noSelect_spec hs) (fun _ _ _ _ _ h => h) hS l hl (grLN q' g + 1 + 1) q0 (fun i hi => latesB_spec hla hi) (Array.replicate l.toArray.size false) a (clo_none _) hq (fun a' h' => by
    rw [pickL_of k0 l o ((hl k0).trans h0)] at h'
    refine ⟨fun h1 => (by rw [hr] at h1; cases h1), fun i hi => ?_⟩
    rw [hr] at hi
    obtain rfl : i = k0 := by simpa using hi
    exact wpOp_mono (fun a'' w'' h'' => ⟨fun _ => h''.1, flL_walk (Region.noSelect_spec hs) (fun _ _ _ _ _ h => h) l hl f q' (by simpa using hlen) g _ a'' w'' h''.1 ((qs_clo q0 _ (clo_none _) hq).set hk) hB h''.2⟩) (wpAct_op h0 h')) h
  rw [hn] at H
  exact H
theorem wpFlL_cons {l : List Oper} {f m : Nat} {q' : List Bool} {q : List Nat} {k : Nat} {g : List (List Nat × Nat)} {a : Act} {w : World}
    (h : wpQuiet P ops S (fun a' => wpAct P ops Q S (wpAct P ops Q S (wpGrL P ops Q S l m q' g) (pickL k l)) (pickL f l) a' w ∧ wpAct P ops Q S (wpFlL P ops Q S l f m q' g) (pickL k l) a' w) (getL l q) a) : wpFlL P ops Q S l f m q' ((q, k) :: g) a w := h
theorem wpFlL_nil {l : List Oper} {f m : Nat} {q' : List Bool} {a : Act} {w : World} (h : wpAct P ops Q S (wpGrL P ops Q S l m q' []) (pickL f l) a w) : wpFlL P ops Q S l f m q' [] a w := h
theorem wpGrL_cons {l : List Oper} {m : Nat} {q' : List Bool} {q : List Nat} {k : Nat} {g : List (List Nat × Nat)} {a : Act} {w : World}
    (h : wpQuiet P ops S (fun a' => wpAct P ops Q S (wpGrL P ops Q S l m q' g) (pickL k l) a' w) (getL l q) a) : wpGrL P ops Q S l m q' ((q, k) :: g) a w := h
theorem wpGrL_nil {l : List Oper} {m : Nat} {q' : List Bool} {a : Act} {w : World} (h : wpN P ops Q S m (selN q' l) a w) : wpGrL P ops Q S l m q' [] a w := h
end
end Go.Proofs.Ytoljdgfbkebgcaa
