/- A region that draws its order: a plan by which what only looks is taken as soon as it can be, and what acts in the one order that is left. -/
import Derived.Test.YtoljdgfbkebgcaaFlo2
namespace Go.Proofs.Ytoljdgfbkebgcaa
open Go Go.RowKit
section
variable {P : Program} {ops : Array Oper} {Q : Exit → Act → World → Prop} {S : World → Prop} {md : Region.Mode} {T : Nat}
/-- The operations of some numbers. -/
def getL (l : List Oper) : List Nat → List Oper
  | [] => []
  | k :: ks => pickL k l ++ getL l ks
/-- One operation that acts, alone in its list; S is to be shown behind it. -/
def wpAct (P : Program) (ops : Array Oper) (Q : Exit → Act → World → Prop) (S : World → Prop) (K : Act → World → Prop) : List Oper → Act → World → Prop
  | [o], a, w => if Region.wanted o (yielded ops a.tmps) then o.wp P a w (fun a' w' => S w' ∧ K a' w') Q else S w ∧ K (a.put o.dst undef) w
  | _, _, _ => False
/-- The plan's walk: groups of what looks, each with one operation that acts behind it. -/
def wpGr (P : Program) (ops : Array Oper) (Q : Exit → Act → World → Prop) (S : World → Prop) (l : List Oper) : List (List Nat × Nat) → List Nat → Act → World → Prop
  | [], qs, a, w => wpQuiet P ops S (fun a' => Q .normal a' w) (getL l qs) a
  | (q, k) :: g, qs, a, w => wpQuiet P ops S (fun a' => wpAct P ops Q S (wpGr P ops Q S l g qs) (pickL k l) a' w) (getL l q) a
def qsB (md : Region.Mode) (ops : Array Oper) : List Nat → Array Bool → Bool
  | [], _ => true
  | k :: ks, listed => (Region.ready md ops listed).contains k && Region.free md ops listed k && (match ops[k]? with | some o => plainOp o.op | none => false) && qsB md ops ks (listed.setIfInBounds k true)
def qsE : List Nat → Array Bool → Array Bool
  | [], listed => listed
  | k :: ks, listed => qsE ks (listed.setIfInBounds k true)
def grB (md : Region.Mode) (ops : Array Oper) : List (List Nat × Nat) → List Nat → Array Bool → Bool
  | [], qs, listed => qsB md ops qs listed && (Region.ready md ops (qsE qs listed)).isEmpty
  | (q, k) :: g, qs, listed => qsB md ops q listed && decide (Region.ready md ops (qsE q listed) = [k]) && grB md ops g qs ((qsE q listed).setIfInBounds k true)
def grN : List (List Nat × Nat) → List Nat → Nat
  | [], qs => qs.length
  | (q, _) :: g, qs => q.length + (grN g qs + 1)
theorem qs_clo (ks : List Nat) : ∀ listed : Array Bool, Clo md ops listed → qsB md ops ks listed = true → Clo md ops (qsE ks listed) := by
  induction ks with
  | nil => intro l h _; exact h
  | cons k ks ih =>
    intro l h hB
    simp only [qsB, Bool.and_eq_true] at hB
    obtain ⟨⟨⟨hr, _⟩, _⟩, hB⟩ := hB
    exact ih _ (h.set (by simpa using hr)) hB
theorem qs_walk (hT : ∀ i, Lates md ops T i) (hsel : ∀ (j : Nat) (o : Oper) cs b, ops[j]? = some o → o.op ≠ .select cs b) (hQ : ∀ c a d v w, Q (.panic c) (a.put d v) w → Q (.panic c) a w) {w : World} (hS : S w) (l : List Oper) (hl : ∀ j : Nat, l[j]? = ops[j]?) (fN : Nat) {Φ : Act → Prop} (ks : List Nat) :
    ∀ (listed : Array Bool) (a : Act), Clo md ops listed → qsB md ops ks listed = true → (∀ a', Φ a' → wpAnyK P md ops Q S T fN (qsE ks listed) a' w) → wpQuiet P ops S Φ (getL l ks) a → wpAnyK P md ops Q S T (ks.length + fN) listed a w := by
  induction ks with
  | nil =>
    intro listed a _ _ hΦ h
    have := hΦ a h
    simpa [qsE] using this
  | cons k ks ih =>
    intro listed a hc hB hΦ h
    simp only [qsB, Bool.and_eq_true] at hB
    obtain ⟨⟨⟨hr, hf⟩, hp⟩, hB'⟩ := hB
    cases h0 : ops[k]? with
    | none => rw [h0] at hp; cases hp
    | some o =>
      rw [h0] at hp
      have hr' : k ∈ Region.ready md ops listed := by simpa using hr
      rw [getL, pickL_of k l o ((hl k).trans h0), List.cons_append, List.nil_append] at h
      have hy : ∃ v, YieldsIf P ops S o v a ∧ wpQuiet P ops S Φ (getL l ks) (a.put o.dst v) := by
        have h' : if Region.wanted o (yielded ops a.tmps) then o.quiet P a S (wpQuiet P ops S Φ (getL l ks)) else wpQuiet P ops S Φ (getL l ks) (a.put o.dst undef) := h
        by_cases hw : Region.wanted o (yielded ops a.tmps) = true
        · rw [if_pos hw] at h'
          obtain ⟨v, h1, h2⟩ := quiet_yields hp h'
          exact ⟨v, .inl ⟨hw, h1⟩, h2⟩
        · rw [if_neg hw] at h'
          exact ⟨undef, .inr ⟨by simpa using hw, rfl⟩, h'⟩
      obtain ⟨v, hy, h'⟩ := hy
      have e : (k :: ks).length + fN = ks.length + fN + 1 := by simp; omega
      rw [e]
      exact wpAnyK_first h0 hsel hQ (hT k) (ks.length + fN) listed a w (Region.free_spec h0 hf) hc hr' hy hS (ih _ _ (hc.set hr') hB' hΦ h')
theorem wpAct_op {k : Nat} {o : Oper} {K : Act → World → Prop} {a : Act} {w : World} (h0 : ops[k]? = some o) (h : wpAct P ops Q S K [o] a w) : wpOp P ops Q k (fun a' w' => S w' ∧ K a' w') a w := by
  have h' : if Region.wanted o (yielded ops a.tmps) then o.wp P a w (fun a' w' => S w' ∧ K a' w') Q else S w ∧ K (a.put o.dst undef) w := h
  unfold wpOp
  simp only [h0]
  split
  · rename_i hw
    rw [if_pos hw] at h'
    exact .inl h'
  · rename_i hw
    rw [if_neg hw] at h'
    exact h'
theorem gr_walk (hT : ∀ i, Lates md ops T i) (hsel : ∀ (j : Nat) (o : Oper) cs b, ops[j]? = some o → o.op ≠ .select cs b) (hQ : ∀ c a d v w, Q (.panic c) (a.put d v) w → Q (.panic c) a w) (l : List Oper) (hl : ∀ j : Nat, l[j]? = ops[j]?) (qs : List Nat) (g : List (List Nat × Nat)) :
    ∀ (listed : Array Bool) (a : Act) (w : World), S w → Clo md ops listed → grB md ops g qs listed = true → wpGr P ops Q S l g qs a w → wpAnyK P md ops Q S T (grN g qs) listed a w := by
  induction g with
  | nil =>
    intro listed a w hS hc hB h
    simp only [grB, Bool.and_eq_true] at hB
    have := qs_walk hT hsel hQ hS l hl 0 qs listed a hc hB.1 (fun a' h' => ⟨by simpa using hB.2, h'⟩) h
    simpa [grN] using this
  | cons x g ih =>
    obtain ⟨q, k⟩ := x
    intro listed a w hS hc hB h
    simp only [grB, Bool.and_eq_true, decide_eq_true_eq] at hB
    obtain ⟨⟨hq, hr⟩, hB⟩ := hB
    have hc2 := qs_clo q listed hc hq
    have hk : k ∈ Region.ready md ops (qsE q listed) := by rw [hr]; exact List.mem_singleton.2 rfl
    obtain ⟨_, o, h0, _⟩ := mem_ready.1 hk
    refine qs_walk hT hsel hQ hS l hl (grN g qs + 1) q listed a hc hq (fun a' h' => ?_) h
    rw [pickL_of k l o ((hl k).trans h0)] at h'
    refine ⟨fun h1 => (by rw [hr] at h1; cases h1), fun i hi => ?_⟩
    rw [hr] at hi
    obtain rfl : i = k := by simpa using hi
    exact wpOp_mono (fun a'' w'' h'' => ⟨fun _ => h''.1, ih _ a'' w'' h''.1 (hc2.set hk) hB h''.2⟩) (wpAct_op h0 h')
def planB (md : Region.Mode) (ops : Array Oper) (g : List (List Nat × Nat)) (qs : List Nat) : Bool :=
  Region.noSelect ops && decide (grN g qs = ops.size) && grB md ops g qs (Array.replicate ops.size false)
theorem wp_region_plan {id : Nat} {a : Act} {w : World} {l : List Oper} (g : List (List Nat × Nat)) (qs : List Nat) (hm : P.follows .mixedOrders = true) (hB : planB .any l.toArray g qs = true) (hS : S w.drew)
    (h : wpGr P l.toArray (NoPanic Q) S l g qs a w.drew) : (Code.region id l.toArray true).wp P Q a w := by
  simp only [planB, Bool.and_eq_true, decide_eq_true_eq] at hB
  obtain ⟨⟨hs, hn⟩, hg⟩ := hB
  refine wp_region_noPanic (wp_region_any hm (wpAny_of_K (S := S) (T := l.toArray.size) _ _ _ _ ?_))
  have hT : ∀ i, Lates .any l.toArray l.toArray.size i := fun i j hj listed _ hr => by
    obtain ⟨_, o, ho, _⟩ := mem_ready.1 hr
    have := (Array.getElem?_eq_some_iff.1 ho).1
    omega
  have H := gr_walk (P := P) (Q := NoPanic Q) hT (Region.noSelect_spec hs) (fun _ _ _ _ _ h => h) l (by simp) qs g (Array.replicate l.toArray.size false) a w.drew hS (clo_none _) hg h
  rw [hn] at H
  exact H
theorem wpGr_cons {l : List Oper} {q : List Nat} {k : Nat} {g : List (List Nat × Nat)} {qs : List Nat} {a : Act} {w : World}
    (h : wpQuiet P ops S (fun a' => wpAct P ops Q S (wpGr P ops Q S l g qs) (pickL k l) a' w) (getL l q) a) : wpGr P ops Q S l ((q, k) :: g) qs a w := h
theorem wpGr_nil {l : List Oper} {qs : List Nat} {a : Act} {w : World} (h : wpQuiet P ops S (fun a' => Q .normal a' w) (getL l qs) a) : wpGr P ops Q S l [] qs a w := h
theorem wpAct_want {o : Oper} {K : Act → World → Prop} {a : Act} {w : World} (hw : Region.wanted o (yielded ops a.tmps) = true)
    (h : ∀ K' : Act → World → Prop, (∀ a w, S w → K a w → K' a w) → o.wp P a w K' Q) : wpAct P ops Q S K [o] a w := by
  have := h (fun a' w' => S w' ∧ K a' w') (fun _ _ h1 h2 => ⟨h1, h2⟩)
  show if _ then _ else _
  rw [if_pos hw]
  exact this
end
end Go.Proofs.Ytoljdgfbkebgcaa
