/- A region that draws its order, where two operations that act may come in either order, and all others behind them in one. -/
import Derived.Test.YtoljdgfbkebgcaaFlo
namespace Go.Proofs.Ytoljdgfbkebgcaa
open Go Go.RowKit
section
variable {P : Program} {ops : Array Oper} {Q : Exit → Act → World → Prop} {S : World → Prop} {md : Region.Mode} {T : Nat}
/-- The operation of a number, alone. -/
def pickL : Nat → List Oper → List Oper
  | _, [] => []
  | 0, o :: _ => [o]
  | k + 1, _ :: l => pickL k l
theorem pickL_of : ∀ (k : Nat) (l : List Oper) (o : Oper), l[k]? = some o → pickL k l = [o]
  | k, [], o, h => by simp at h
  | 0, x :: l, o, h => by simp at h; simp [pickL, h]
  | k + 1, x :: l, o, h => by simp only [pickL]; exact pickL_of k l o (by simpa using h)
theorem stepN {k m : Nat} {o : Oper} {l : List Oper} {a : Act} {w : World} (h0 : ops[k]? = some o) (h : wpN P ops Q S (m + 1) (o :: l) a w) :
    wpOp P ops Q k (fun a' w' => S w' ∧ wpN P ops Q S m l a' w') a w := by
  have h' : if Region.wanted o (yielded ops a.tmps) then o.wp P a w (fun a' w' => S w' ∧ wpN P ops Q S m l a' w') Q else S w ∧ wpN P ops Q S m l (a.put o.dst undef) w := h
  unfold wpOp
  simp only [h0]
  split
  · rename_i hw
    rw [if_pos hw] at h'
    exact .inl h'
  · rename_i hw
    rw [if_neg hw] at h'
    exact h'
def rest2B (md : Region.Mode) (ops : Array Oper) (q' : List Bool) (i j : Nat) (listed : Array Bool) : Bool :=
  decide (i ≠ j) && decide (Region.ready md ops listed = [i, j]) && decide (Region.ready md ops (listed.setIfInBounds i true) = [j]) && decide (Region.ready md ops (listed.setIfInBounds j true) = [i]) &&
    restB md ops q' 0 ((listed.setIfInBounds i true).setIfInBounds j true)
theorem rest_walk2 {i j : Nat} {oi oj : Oper} (hi : ops[i]? = some oi) (hj : ops[j]? = some oj) (q' : List Bool) (l : List Oper) (listed : Array Bool) (a : Act) (w : World) (hl : ∀ k, l[k]? = ops[0 + k]?) (hlen : q'.length = l.length)
    (hB : rest2B md ops q' i j listed = true)
    (h1 : wpN P ops Q S (earlyN T q' 0 + 1 + 1) (oi :: oj :: selN q' l) a w) (h2 : wpN P ops Q S (earlyN T q' 0 + 1 + 1) (oj :: oi :: selN q' l) a w) :
    wpAnyK P md ops Q S T (cntN q' + 1 + 1) listed a w := by
  simp only [rest2B, Bool.and_eq_true, decide_eq_true_eq] at hB
  obtain ⟨⟨⟨⟨hij, hr⟩, hri⟩, hrj⟩, hB⟩ := hB
  refine ⟨fun h => (by rw [hr] at h; cases h), fun k hk => ?_⟩
  rw [hr] at hk
  rcases List.mem_cons.1 hk with rfl | hk
  · refine wpOp_mono (fun a' w' h' => ⟨fun _ => h'.1, ⟨fun h => (by rw [hri] at h; cases h), fun k hk => ?_⟩⟩) (stepN hi h1)
    rw [hri] at hk
    obtain rfl : k = j := by simpa using hk
    exact wpOp_mono (fun a'' w'' h'' => ⟨fun _ => h''.1, rest_walk q' l 0 _ a'' w'' hl hlen hB (.inl h''.1) h''.2⟩) (stepN hj h'.2)
  · obtain rfl : k = j := by simpa using hk
    refine wpOp_mono (fun a' w' h' => ⟨fun _ => h'.1, ⟨fun h => (by rw [hrj] at h; cases h), fun k hk => ?_⟩⟩) (stepN hj h2)
    rw [hrj] at hk
    obtain rfl : k = i := by simpa using hk
    refine wpOp_mono (fun a'' w'' h'' => ⟨fun _ => h''.1, ?_⟩) (stepN hi h'.2)
    rw [Array.setIfInBounds_comm _ _ (Ne.symm hij)]
    exact rest_walk q' l 0 _ a'' w'' hl hlen hB (.inl h''.1) h''.2
def float2B (md : Region.Mode) (ops : Array Oper) (q q' : List Bool) (i j T : Nat) : Bool :=
  Region.noSelect ops && decide (q.length = ops.size) && decide (q'.length = ops.size) && decide (i < ops.size) && decide (j < ops.size) && decide (cntN q = cntN q' + 1 + 1) && takeB md ops T q 0 (Array.replicate ops.size false) && latesB md ops T (idxQ q 0) && rest2B md ops q' i j (endL q 0 (Array.replicate ops.size false))
theorem wp_region_float2 {id : Nat} {a : Act} {w : World} {l : List Oper} (q q' : List Bool) (i j T : Nat) (hm : P.follows .mixedOrders = true) (hB : float2B .any l.toArray q q' i j T = true) (hS : S w.drew)
    (h : wpQuiet P l.toArray S (fun a' => wpN P l.toArray (NoPanic Q) S (earlyN T q' 0 + 1 + 1) (pickL i l ++ (pickL j l ++ selN q' l)) a' w.drew ∧ wpN P l.toArray (NoPanic Q) S (earlyN T q' 0 + 1 + 1) (pickL j l ++ (pickL i l ++ selN q' l)) a' w.drew) (selQ q l) a) :
    (Code.region id l.toArray true).wp P Q a w := by
  simp only [float2B, Bool.and_eq_true, decide_eq_true_eq] at hB
  obtain ⟨⟨⟨⟨⟨⟨⟨⟨hs, hlen⟩, hlen2⟩, hi⟩, hj⟩, hcn⟩, ht⟩, hl⟩, hr⟩ := hB
  have hlen' : q.length = l.length := by simpa using hlen
  have hlen2' : q'.length = l.length := by simpa using hlen2
  have hi' : l[i]? = some (l[i]'(by simpa using hi)) := List.getElem?_eq_getElem _
  have hj' : l[j]? = some (l[j]'(by simpa using hj)) := List.getElem?_eq_getElem _
  rw [pickL_of i l _ hi', pickL_of j l _ hj'] at h
  refine wp_region_noPanic (wp_region_any hm (wpAny_of_K (S := S) (T := T) _ _ _ _ ?_))
  have H := take_walk (P := P) (md := .any) (T := T) (Q := NoPanic Q) (Region.noSelect_spec hs) (fun _ _ _ _ _ h => h) hS (cntN q) q l 0 (Array.replicate l.toArray.size false) a (by simp) hlen' (clo_none _) ht (fun i hi => latesB_spec hl hi)
    (fun a' h' => by rw [hcn]; exact rest_walk2 (by simp) (by simp) q' l _ a' w.drew (by simp) hlen2' hr h'.1 h'.2) h
  rw [cnt_add, hlen] at H
  exact H
end
end Go.Proofs.Ytoljdgfbkebgcaa
