/- Rows of parts under construction; what parameters are, in plain Lean. -/
import Derived.Test.YtoljdgfbkebgcaaApp
import Derived.Test.YtoljdgfbkebgcaaRow
import Derived.Test.YtoljdgfbkebgcaaChk
namespace Go.Proofs.Ytoljdgfbkebgcaa
open Go.RowKit
/-! ### Rows of parts -/
theorem InF.strong {F : Nat → Prop} {k : IntKind} {w : World} {A : Option Addr} {n c : Nat} {l : List Int} (h : Rd k w A n c l) (hA : InF F A n) : InF (fun x => F x ∧ x < w.heap.size) A n := by
  intro hn x hx
  obtain ⟨g, o, e, hg, _⟩ := h.at hn
  subst hx
  simp at e
  subst e
  exact ⟨hA hn _ rfl, hg⟩
theorem NumV.strong {F : Nat → Prop} {w : World} {v : Value} {l : List Int} (h : NumV F w v l) : NumV (fun x => F x ∧ x < w.heap.size) w v l := by
  obtain ⟨A, c, e, hA, r⟩ := h
  exact ⟨A, c, e, InF.strong r hA, r⟩
theorem BytV.strong {F : Nat → Prop} {w : World} {v : Value} {l : List Int} (h : BytV F w v l) : BytV (fun x => F x ∧ x < w.heap.size) w v l := by
  obtain ⟨⟨A, c, e, hA, r⟩, hb⟩ := h
  exact ⟨⟨A, c, e, InF.strong r hA, r⟩, hb⟩
/-- The blocks of F apart from the row's own. -/
def Off (F : Nat → Prop) (v : Value) (w : World) (k : Nat) : Prop := (F k ∧ v.ownBlock ≠ some k) ∧ k < w.heap.size
def PRow (F : Nat → Prop) (B : Nat) (w : World) (v : Value) (ps : List Prt) : Prop :=
  ∃ vs : List Value, w.ownsRow B 57 2 v ps.length vs ∧ ∀ i, i < ps.length → ∃ u0 u1, vs[i * 2]? = some u0 ∧ vs[i * 2 + 1]? = some u1 ∧ NumV (Off F v w) w u0 (ps.getD i Prt.nil).nums ∧ BytV (Off F v w) w u1 (ps.getD i Prt.nil).data
theorem PRow.nil (F : Nat → Prop) (B : Nat) (w : World) : PRow F B w (.slice none 0 0) [] := ⟨[], World.ownsRow_nil _ _ _ _, fun i hi => by simp at hi⟩
theorem PRow.of_own (F : Nat → Prop) {B : Nat} {w : World} {v : Value} (h : w.ownsRow B 57 2 v 0 []) : PRow F B w v [] := ⟨[], h, fun i hi => by simp at hi⟩
theorem PRow.below {F : Nat → Prop} {B : Nat} {w w' : World} {v : Value} {ps : List Prt} (h : PRow F B w v ps) (hb : Bl w w') : PRow F B w' v ps := by
  obtain ⟨vs, ho, he⟩ := h
  refine ⟨vs, own_bl ho hb, fun i hi => ?_⟩
  obtain ⟨u0, u1, e0, e1, h0, h1⟩ := he i hi
  have hm : ∀ k, Off F v w k → Off F v w' k := fun k hk => ⟨hk.1, Nat.lt_of_lt_of_le hk.2 hb.size⟩
  exact ⟨u0, u1, e0, e1, (h0.below hb).mono hm, (h1.below hb).mono hm⟩
theorem els_below {F : Nat → Prop} {w w' : World} {v : Value} {vs : List Value} {ps : List Prt} (h : ∀ i, i < ps.length → ∃ u0 u1, vs[i * 2]? = some u0 ∧ vs[i * 2 + 1]? = some u1 ∧ NumV (Off F v w) w u0 (ps.getD i Prt.nil).nums ∧ BytV (Off F v w) w u1 (ps.getD i Prt.nil).data) (hb : Bl w w') :
    ∀ i, i < ps.length → ∃ u0 u1, vs[i * 2]? = some u0 ∧ vs[i * 2 + 1]? = some u1 ∧ NumV (Off F v w') w' u0 (ps.getD i Prt.nil).nums ∧ BytV (Off F v w') w' u1 (ps.getD i Prt.nil).data := fun i hi => by
  obtain ⟨u0, u1, e0, e1, h0, h1⟩ := h i hi
  have hm : ∀ k, Off F v w k → Off F v w' k := fun k hk => ⟨hk.1, Nat.lt_of_lt_of_le hk.2 hb.size⟩
  exact ⟨u0, u1, e0, e1, (h0.below hb).mono hm, (h1.below hb).mono hm⟩
theorem PRow.app {F : Nat → Prop} {B : Nat} {W w1 : World} {v u0 u1 : Value} {ps : List Prt} {P : Prt} {A : Option Addr} {c : Nat} {vs : List Value}
    (he : ∀ i, i < ps.length → ∃ u0 u1, vs[i * 2]? = some u0 ∧ vs[i * 2 + 1]? = some u1 ∧ NumV (Off F v W) W u0 (ps.getD i Prt.nil).nums ∧ BytV (Off F v W) W u1 (ps.getD i Prt.nil).data)
    (ho : W.ownsRow B 57 2 v ps.length vs)
    (hp : Appd W B 57 2 v (ps.length + 1) (vs ++ [u0, u1]) A c w1) (h0 : NumV (fun k => F k ∧ v.ownBlock ≠ some k) W u0 P.nums) (h1 : BytV (fun k => F k ∧ v.ownBlock ≠ some k) W u1 P.data) :
    PRow F B w1 (.slice A (ps.length + 1) c) (ps ++ [P]) := by
  have hl : vs.length = ps.length * 2 := ho.1
  have hk : KeepF (Off F v W) W w1 := fun k hF hlt => hp.grown.block k hlt (fun e => hF.1.2 e.symm)
  have hm : ∀ k, Off F v W k → Off F (.slice A (ps.length + 1) c) w1 k := fun k hk => by
    refine ⟨⟨hk.1.1, fun e => ?_⟩, Nat.lt_of_lt_of_le hk.2 hp.grown.size⟩
    rcases hp.at_ with h | h
    · exact hk.1.2 (h.symm.trans e)
    · rw [h] at e
      have := hk.2
      simp at e
      omega
  refine ⟨vs ++ [u0, u1], by simpa using hp.own, fun i hi => ?_⟩
  by_cases hlt : i < ps.length
  · obtain ⟨x0, x1, e0, e1, g0, g1⟩ := he i hlt
    refine ⟨x0, x1, by rw [List.getElem?_append_left (by omega)]; exact e0, by rw [List.getElem?_append_left (by omega)]; exact e1, ?_, ?_⟩
    · rw [List.getD_eq_getElem?_getD, List.getElem?_append_left hlt, ← List.getD_eq_getElem?_getD]
      exact (g0.keepF hk).mono hm
    · rw [List.getD_eq_getElem?_getD, List.getElem?_append_left hlt, ← List.getD_eq_getElem?_getD]
      exact (g1.keepF hk).mono hm
  · obtain rfl : i = ps.length := by simp at hi; omega
    refine ⟨u0, u1, by rw [List.getElem?_append_right (by omega), hl, Nat.sub_self]; rfl, by rw [List.getElem?_append_right (by omega), hl, Nat.add_sub_cancel_left]; rfl, ?_, ?_⟩
    · rw [List.getD_eq_getElem?_getD, List.getElem?_append_right (Nat.le_refl _), Nat.sub_self]
      exact (h0.strong.keepF hk).mono hm
    · rw [List.getD_eq_getElem?_getD, List.getElem?_append_right (Nat.le_refl _), Nat.sub_self]
      exact (h1.strong.keepF hk).mono hm
theorem PRow.parts {F : Nat → Prop} {B : Nat} {w : World} {v : Value} {ps : List Prt} (h : PRow F B w v ps) (hF : ∀ k, B ≤ k → k < w.heap.size → F k) : PartsV F w v ps := by
  obtain ⟨vs, ho, he⟩ := h
  obtain ⟨A, c, rfl⟩ := ownsRow_form ho
  have hI := own_inF ho hF ps.length
  rcases ho.2 with ⟨h1, h2⟩ | ⟨g, cap, cur, h1, hg, hh, hc, _, hs, ht⟩
  · simp at h1
    obtain ⟨rfl, _, rfl⟩ := h1
    exact ⟨none, 0, rfl, by omega, hI, fun i hi => by omega⟩
  · simp at h1
    obtain ⟨rfl, rfl⟩ := h1
    have k : Blk w g cur 57 := ⟨hh⟩
    refine ⟨_, c, rfl, hc, hI, fun i hi => ?_⟩
    obtain ⟨u0, u1, e0, e1, g0, g1⟩ := he i hi
    refine ⟨g, 0, u0, u1, rfl, ?_, ?_, g0.mono fun k hk => hk.1.1, g1.mono fun k hk => hk.1.1⟩
    · rw [Nat.zero_add, k.cell, ← e0, ← ht, List.getElem?_take_of_lt (by omega), Array.getElem?_toList]
    · rw [Nat.zero_add, k.cell, ← e1, ← ht, List.getElem?_take_of_lt (by omega), Array.getElem?_toList]
/-! ### What parameters are -/
def prmAt (l : List Int) : Prt := ⟨[be (sub l 0 2), (chL l : Int), (up4 (chL l) : Int)], sub l 4 (chL l)⟩
/-- Of n rounds at most; none where the bytes are no parameters. -/
def prms : Nat → List Int → Option (List Prt)
  | 0, _ => none
  | f + 1, l => if l.length = 0 then some [] else if l.length < 4 ∨ chL l < 4 ∨ l.length < chL l then none else (prms f (l.drop (min (up4 (chL l)) l.length))).map (prmAt l :: ·)
theorem prms_mono (f f' : Nat) (l : List Int) (h : l.length < f) (hf : f ≤ f') : prms f' l = prms f l := by
  induction f generalizing f' l with
  | zero => omega
  | succ f ih =>
    obtain ⟨k, rfl⟩ : ∃ k, f' = k + 1 := ⟨f' - 1, by omega⟩
    unfold prms
    split
    · rfl
    · split
      · rfl
      · rename_i h1 h2
        have hu : 4 ≤ up4 (chL l) := by unfold up4; omega
        rw [ih k _ (by rw [List.length_drop]; omega) (by omega)]
/-- The parameters that bytes are. -/
def prmsOf (l : List Int) : Option (List Prt) := prms (l.length + 1) l
theorem prmsOf_nil (l : List Int) (h : l.length = 0) : prmsOf l = some [] := by unfold prmsOf prms; rw [if_pos h]
theorem prmsOf_bad (l : List Int) (h0 : l.length ≠ 0) (h : l.length < 4 ∨ chL l < 4 ∨ l.length < chL l) : prmsOf l = none := by unfold prmsOf prms; rw [if_neg h0, if_pos h]
theorem prmsOf_cons (l : List Int) (h4 : 4 ≤ l.length) (hc : 4 ≤ chL l) (hl : chL l ≤ l.length) : prmsOf l = (prmsOf (l.drop (min (up4 (chL l)) l.length))).map (prmAt l :: ·) := by
  have hu : 4 ≤ up4 (chL l) := by unfold up4; omega
  unfold prmsOf
  rw [prms, if_neg (by omega), if_neg (by omega)]
  rw [prms_mono ((l.drop (min (up4 (chL l)) l.length)).length + 1) l.length _ (by omega) (by rw [List.length_drop]; omega)]
/-- Whether bytes are parameters, each of them filled up. -/
def fulls : Nat → List Int → Bool
  | 0, _ => false
  | f + 1, l => if l.length = 0 then true else if l.length < 4 ∨ chL l < 4 ∨ l.length < up4 (chL l) then false else fulls f (l.drop (up4 (chL l)))
theorem fulls_mono (f f' : Nat) (l : List Int) (h : l.length < f) (hf : f ≤ f') : fulls f' l = fulls f l := by
  induction f generalizing f' l with
  | zero => omega
  | succ f ih =>
    obtain ⟨k, rfl⟩ : ∃ k, f' = k + 1 := ⟨f' - 1, by omega⟩
    unfold fulls
    split
    · rfl
    · split
      · rfl
      · rename_i h1 h2
        have hu : 4 ≤ up4 (chL l) := by unfold up4; omega
        rw [ih k _ (by rw [List.length_drop]; omega) (by omega)]
def fullOf (l : List Int) : Bool := fulls (l.length + 1) l
theorem fullOf_nil (l : List Int) (h : l.length = 0) : fullOf l = true := by unfold fullOf fulls; rw [if_pos h]
theorem fullOf_bad (l : List Int) (h0 : l.length ≠ 0) (h : l.length < 4 ∨ chL l < 4 ∨ l.length < up4 (chL l)) : fullOf l = false := by unfold fullOf fulls; rw [if_neg h0, if_pos h]
theorem fullOf_cons (l : List Int) (h4 : 4 ≤ l.length) (hc : 4 ≤ chL l) (hl : up4 (chL l) ≤ l.length) : fullOf l = fullOf (l.drop (up4 (chL l))) := by
  have hu : 4 ≤ up4 (chL l) := by unfold up4; omega
  unfold fullOf
  rw [fulls, if_neg (by omega), if_neg (by omega)]
  rw [fulls_mono ((l.drop (up4 (chL l))).length + 1) l.length _ (by omega) (by rw [List.length_drop]; omega)]
/-- Of bytes whose number is a multiple of four: filled up means parameters. -/
theorem full_prms (n : Nat) (l : List Int) (hn : l.length ≤ n) (h4 : l.length % 4 = 0) : fullOf l = (prmsOf l).isSome := by
  induction n generalizing l with
  | zero => rw [fullOf_nil l (by omega), prmsOf_nil l (by omega)]; rfl
  | succ n ih =>
    by_cases h0 : l.length = 0
    · rw [fullOf_nil l h0, prmsOf_nil l h0]; rfl
    · have hiff : l.length < up4 (chL l) ↔ l.length < chL l := by unfold up4; omega
      by_cases hb : l.length < 4 ∨ chL l < 4 ∨ l.length < chL l
      · rw [fullOf_bad l h0 (by omega), prmsOf_bad l h0 hb]; rfl
      · have hu : 4 ≤ up4 (chL l) := by unfold up4; omega
        have hle : up4 (chL l) ≤ l.length := by omega
        rw [fullOf_cons l (by omega) (by omega) hle, prmsOf_cons l (by omega) (by omega) (by omega), Nat.min_eq_left hle, Option.isSome_map]
        exact ih _ (by rw [List.length_drop]; omega) (by rw [List.length_drop]; unfold up4; omega)
end Go.Proofs.Ytoljdgfbkebgcaa
