/- A region that draws its order: a plan, and one operation that acts and may come at any place. -/
import Derived.Test.YtoljdgfbkebgcaaFlo3
namespace Go.Proofs.Ytoljdgfbkebgcaa
open Go Go.RowKit
section
variable {P : Program} {ops : Array Oper} {Q : Exit → Act → World → Prop} {S : World → Prop} {md : Region.Mode} {T : Nat}
/-- The walk: number f may come ahead of each that acts, or behind all of the first groups. -/
def wpFl (P : Program) (ops : Array Oper) (Q : Exit → Act → World → Prop) (S : World → Prop) (l : List Oper) (f : Nat) (qf : List Nat) (g2 g3 : List (List Nat × Nat)) (qs : List Nat) : List (List Nat × Nat) → Act → World → Prop
  | [], a, w => wpQuiet P ops S (fun a' => wpAct P ops Q S (wpGr P ops Q S l g2 qs) (pickL f l) a' w) (getL l qf) a
  | (q, k) :: g, a, w => wpQuiet P ops S (fun a' => wpAct P ops Q S (wpAct P ops Q S (wpGr P ops Q S l (g ++ g3) qs) (pickL k l)) (pickL f l) a' w ∧ wpAct P ops Q S (wpFl P ops Q S l f qf g2 g3 qs g) (pickL k l) a' w) (getL l q) a
def flB (md : Region.Mode) (ops : Array Oper) (f : Nat) (qf : List Nat) (g2 g3 : List (List Nat × Nat)) (qs : List Nat) : List (List Nat × Nat) → Array Bool → Bool
  | [], listed => qsB md ops qf listed && decide (Region.ready md ops (qsE qf listed) = [f]) && grB md ops g2 qs ((qsE qf listed).setIfInBounds f true)
  | (q, k) :: g, listed => qsB md ops q listed && (decide (Region.ready md ops (qsE q listed) = [k, f]) || decide (Region.ready md ops (qsE q listed) = [f, k])) && decide (Region.ready md ops ((qsE q listed).setIfInBounds f true) = [k]) &&
      grB md ops (g ++ g3) qs (((qsE q listed).setIfInBounds f true).setIfInBounds k true) && decide (grN (g ++ g3) qs = grN g [] + (qf.length + (grN g2 qs))) && flB md ops f qf g2 g3 qs g ((qsE q listed).setIfInBounds k true)
theorem fl_walk (hT : ∀ i, Lates md ops T i) (hsel : ∀ (j : Nat) (o : Oper) cs b, ops[j]? = some o → o.op ≠ .select cs b) (hQ : ∀ c a d v w, Q (.panic c) (a.put d v) w → Q (.panic c) a w) (l : List Oper) (hl : ∀ j : Nat, l[j]? = ops[j]?) (f : Nat) (qf : List Nat) (g2 g3 : List (List Nat × Nat)) (qs : List Nat) (g : List (List Nat × Nat)) :
    ∀ (listed : Array Bool) (a : Act) (w : World), S w → Clo md ops listed → flB md ops f qf g2 g3 qs g listed = true → wpFl P ops Q S l f qf g2 g3 qs g a w → wpAnyK P md ops Q S T (grN g [] + (qf.length + (grN g2 qs + 1))) listed a w := by
  induction g with
  | nil =>
    intro listed a w hS hc hB h
    simp only [flB, Bool.and_eq_true, decide_eq_true_eq] at hB
    obtain ⟨⟨hq, hr⟩, hB⟩ := hB
    have hc2 := qs_clo qf listed hc hq
    have hk : f ∈ Region.ready md ops (qsE qf listed) := by rw [hr]; exact List.mem_singleton.2 rfl
    obtain ⟨_, o, h0, _⟩ := mem_ready.1 hk
    have e : grN [] [] + (qf.length + (grN g2 qs + 1)) = qf.length + (grN g2 qs + 1) := by simp [grN]
    rw [e]
    refine qs_walk hT hsel hQ hS l hl (grN g2 qs + 1) qf listed a hc hq (fun a' h' => ?_) h
    rw [pickL_of f l o ((hl f).trans h0)] at h'
    refine ⟨fun h1 => (by rw [hr] at h1; cases h1), fun i hi => ?_⟩
    rw [hr] at hi
    obtain rfl : i = f := by simpa using hi
    exact wpOp_mono (fun a'' w'' h'' => ⟨fun _ => h''.1, gr_walk hT hsel hQ l hl qs g2 _ a'' w'' h''.1 (hc2.set hk) hB h''.2⟩) (wpAct_op h0 h')
  | cons x g ih =>
    obtain ⟨q, k⟩ := x
    intro listed a w hS hc hB h
    simp only [flB, Bool.and_eq_true, Bool.or_eq_true, decide_eq_true_eq] at hB
    obtain ⟨⟨⟨⟨⟨hq, hr⟩, hrf⟩, hG⟩, hN⟩, hB⟩ := hB
    have hc2 := qs_clo q listed hc hq
    have hmem : ∀ i, i ∈ Region.ready md ops (qsE q listed) ↔ (i = k ∨ i = f) := fun i => by
      rcases hr with hr | hr <;> rw [hr] <;> simp
      exact Or.comm
    have hk := (hmem k).2 (.inl rfl)
    have hf := (hmem f).2 (.inr rfl)
    obtain ⟨_, ok, hk0, _⟩ := mem_ready.1 hk
    obtain ⟨_, of, hf0, _⟩ := mem_ready.1 hf
    have e : grN ((q, k) :: g) [] + (qf.length + (grN g2 qs + 1)) = q.length + (grN g [] + (qf.length + (grN g2 qs + 1)) + 1) := by simp only [grN]; omega
    rw [e]
    refine qs_walk hT hsel hQ hS l hl _ q listed a hc hq (fun a' h' => ?_) h
    rw [pickL_of k l ok ((hl k).trans hk0), pickL_of f l of ((hl f).trans hf0)] at h'
    refine ⟨fun h1 => (by rw [h1] at hk; cases hk), fun i hi => ?_⟩
    rcases (hmem i).1 hi with rfl | rfl
    · exact wpOp_mono (fun a'' w'' h'' => ⟨fun _ => h''.1, ih _ a'' w'' h''.1 (hc2.set hk) hB h''.2⟩) (wpAct_op hk0 h'.2)
    · refine wpOp_mono (fun a'' w'' h'' => ⟨fun _ => h''.1, ?_⟩) (wpAct_op hf0 h'.1)
      have e2 : grN g [] + (qf.length + (grN g2 qs + 1)) = grN (g ++ g3) qs + 1 := by omega
      rw [e2]
      have hk' : k ∈ Region.ready md ops ((qsE q listed).setIfInBounds i true) := by rw [hrf]; exact List.mem_singleton.2 rfl
      refine ⟨fun h1 => (by rw [hrf] at h1; cases h1), fun j hj => ?_⟩
      rw [hrf] at hj
      obtain rfl : j = k := by simpa using hj
      exact wpOp_mono (fun a3 w3 h3 => ⟨fun _ => h3.1, gr_walk hT hsel hQ l hl qs (g ++ g3) _ a3 w3 h3.1 ((hc2.set hf).set hk') hG h3.2⟩) (wpAct_op hk0 h''.2)
def planFB (md : Region.Mode) (ops : Array Oper) (f : Nat) (qf : List Nat) (g2 g3 : List (List Nat × Nat)) (qs : List Nat) (g : List (List Nat × Nat)) : Bool :=
  Region.noSelect ops && decide (grN g [] + (qf.length + (grN g2 qs + 1)) = ops.size) && flB md ops f qf g2 g3 qs g (Array.replicate ops.size false)
theorem wp_region_fplan {id : Nat} {a : Act} {w : World} {l : List Oper} (f : Nat) (g : List (List Nat × Nat)) (qf : List Nat) (g2 g3 : List (List Nat × Nat)) (qs : List Nat) (hm : P.follows .mixedOrders = true) (hB : planFB .any l.toArray f qf g2 g3 qs g = true) (hS : S w.drew)
    (h : wpFl P l.toArray (NoPanic Q) S l f qf g2 g3 qs g a w.drew) : (Code.region id l.toArray true).wp P Q a w := by
  simp only [planFB, Bool.and_eq_true, decide_eq_true_eq] at hB
  obtain ⟨⟨hs, hn⟩, hg⟩ := hB
  refine wp_region_noPanic (wp_region_any hm (wpAny_of_K (S := S) (T := l.toArray.size) _ _ _ _ ?_))
  have hT : ∀ i, Lates .any l.toArray l.toArray.size i := fun i j hj listed _ hr => by
    obtain ⟨_, o, ho, _⟩ := mem_ready.1 hr
    have := (Array.getElem?_eq_some_iff.1 ho).1
    omega
  have H := fl_walk (P := P) (Q := NoPanic Q) hT (Region.noSelect_spec hs) (fun _ _ _ _ _ h => h) l (by simp) f qf g2 g3 qs g (Array.replicate l.toArray.size false) a w.drew hS (clo_none _) hg h
  rw [hn] at H
  exact H
theorem wpFl_cons {l : List Oper} {f : Nat} {qf : List Nat} {g2 g3 : List (List Nat × Nat)} {qs : List Nat} {q : List Nat} {k : Nat} {g : List (List Nat × Nat)} {a : Act} {w : World}
    (h : wpQuiet P ops S (fun a' => wpAct P ops Q S (wpAct P ops Q S (wpGr P ops Q S l (g ++ g3) qs) (pickL k l)) (pickL f l) a' w ∧ wpAct P ops Q S (wpFl P ops Q S l f qf g2 g3 qs g) (pickL k l) a' w) (getL l q) a) : wpFl P ops Q S l f qf g2 g3 qs ((q, k) :: g) a w := h
theorem wpFl_nil {l : List Oper} {f : Nat} {qf : List Nat} {g2 g3 : List (List Nat × Nat)} {qs : List Nat} {a : Act} {w : World}
    (h : wpQuiet P ops S (fun a' => wpAct P ops Q S (wpGr P ops Q S l g2 qs) (pickL f l) a' w) (getL l qf) a) : wpFl P ops Q S l f qf g2 g3 qs [] a w := h
end
end Go.Proofs.Ytoljdgfbkebgcaa
