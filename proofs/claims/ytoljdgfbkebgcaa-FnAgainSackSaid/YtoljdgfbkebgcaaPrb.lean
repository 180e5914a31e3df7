/- Parameters as the bytes that they were, in plain Lean. -/
import Derived.Test.YtoljdgfbkebgcaaPrc
namespace Go.Proofs.Ytoljdgfbkebgcaa
open Go.RowKit
/-- Whether what fills parameters up is 0. -/
def pads : Nat → List Int → Bool
  | 0, _ => true
  | f + 1, l => if l.length = 0 then true else (sub l (chL l) (up4 (chL l))).all (· == 0) && pads f (l.drop (up4 (chL l)))
theorem pads_mono (f f' : Nat) (l : List Int) (h : l.length < f) (hf : f ≤ f') (hq : fullOf l = true) : pads f' l = pads f l := by
  induction f generalizing f' l with
  | zero => omega
  | succ f ih =>
    obtain ⟨k, rfl⟩ : ∃ k, f' = k + 1 := ⟨f' - 1, by omega⟩
    unfold pads
    split
    · rfl
    · rename_i h1
      obtain ⟨h4, hc, hl, hq'⟩ := fullOf_step l h1 hq
      have hu : 4 ≤ up4 (chL l) := by unfold up4; omega
      rw [ih k _ (by rw [List.length_drop]; omega) (by omega) hq']
def padsOf (l : List Int) : Bool := pads (l.length + 1) l
theorem padsOf_nil (l : List Int) (h : l.length = 0) : padsOf l = true := by unfold padsOf pads; rw [if_pos h]
theorem padsOf_cons (l : List Int) (h0 : l.length ≠ 0) (hq : fullOf l = true) : padsOf l = ((sub l (chL l) (up4 (chL l))).all (· == 0) && padsOf (l.drop (up4 (chL l)))) := by
  obtain ⟨h4, hc, hl, hq'⟩ := fullOf_step l h0 hq
  have hu : 4 ≤ up4 (chL l) := by unfold up4; omega
  unfold padsOf
  rw [pads, if_neg h0]
  rw [pads_mono ((l.drop (up4 (chL l))).length + 1) l.length _ (by omega) (by rw [List.length_drop]; omega) hq']
/-- The bytes of a parameter. -/
def prmB (P : Prt) : List Int :=
  [P.nums.getD 0 0 / 256, P.nums.getD 0 0 % 256, (4 + (P.data.length : Int)) / 256, (4 + (P.data.length : Int)) % 256] ++ P.data ++ List.replicate (up4 (4 + P.data.length) - (4 + P.data.length)) 0
theorem prmB_len (P : Prt) : (prmB P).length = up4 (4 + P.data.length) := by
  unfold prmB up4
  simp
  omega
theorem take_parts (l : List Int) (V U : Nat) (h4 : 4 ≤ V) (hV : V ≤ U) (hU : U ≤ l.length) : l.take U = [l.getD 0 0, l.getD 1 0, l.getD 2 0, l.getD 3 0] ++ sub l 4 V ++ sub l V U := by
  apply List.ext_getElem?
  intro i
  have hs1 : (sub l 4 V).length = V - 4 := sub_length _ _ _ (by omega)
  have hs2 : (sub l V U).length = U - V := sub_length _ _ _ (by omega)
  by_cases hi : i < U
  · rw [List.getElem?_take_of_lt hi]
    by_cases hiV : i < V
    · rw [List.getElem?_append_left (by simp [hs1]; omega)]
      match i, hi, hiV with
      | 0, _, _ => simp [List.getD_eq_getElem?_getD, List.getElem?_eq_getElem (show 0 < l.length by omega)]
      | 1, _, _ => simp [List.getD_eq_getElem?_getD, List.getElem?_eq_getElem (show 1 < l.length by omega)]
      | 2, _, _ => simp [List.getD_eq_getElem?_getD, List.getElem?_eq_getElem (show 2 < l.length by omega)]
      | 3, _, _ => simp [List.getD_eq_getElem?_getD, List.getElem?_eq_getElem (show 3 < l.length by omega)]
      | j + 4, hi, hiV =>
        simp only [List.cons_append, List.nil_append, List.getElem?_cons_succ, sub, List.getElem?_drop]
        rw [List.getElem?_take_of_lt (by omega), Nat.add_comm]
    · rw [List.getElem?_append_right (by simp [hs1]; omega)]
      simp only [sub, List.getElem?_drop]
      rw [List.getElem?_take_of_lt (by simp; omega)]
      congr 1
      simp
      omega
  · rw [List.getElem?_eq_none (by simp; omega), List.getElem?_eq_none (by simp [hs1, hs2]; omega)]
theorem prmB_at (l : List Int) (hl : By l) (h4 : 4 ≤ l.length) (hc : 4 ≤ chL l) (hu : up4 (chL l) ≤ l.length) (hz : (sub l (chL l) (up4 (chL l))).all (· == 0) = true) : prmB (prmAt l) = l.take (up4 (chL l)) := by
  have hVU : chL l ≤ up4 (chL l) := by unfold up4; omega
  rw [take_parts l (chL l) (up4 (chL l)) hc hVU hu]
  have hs1 : (sub l 4 (chL l)).length = chL l - 4 := sub_length _ _ _ (by omega)
  have hs2 : (sub l (chL l) (up4 (chL l))).length = up4 (chL l) - chL l := sub_length _ _ _ (by omega)
  have e1 := chL_int l hl
  have b0 := hl.getD 0
  have b1 := hl.getD 1
  have b2 := hl.getD 2
  have b3 := hl.getD 3
  have ha := be2 (sub l 0 2) (by rw [sub_length _ _ _ (by omega)])
  rw [sub_getD _ _ _ _ (by omega), sub_getD _ _ _ _ (by omega)] at ha
  have ha : be (sub l 0 2) = l.getD 0 0 * 256 + l.getD 1 0 := ha
  have hb := be2 (sub l 2 4) (by rw [sub_length _ _ _ (by omega)])
  rw [sub_getD _ _ _ _ (by omega), sub_getD _ _ _ _ (by omega)] at hb
  have hb : be (sub l 2 4) = l.getD 2 0 * 256 + l.getD 3 0 := hb
  have hr : sub l (chL l) (up4 (chL l)) = List.replicate (up4 (chL l) - chL l) 0 := by
    rw [← hs2]
    refine List.eq_replicate_iff.2 ⟨rfl, fun x hx => ?_⟩
    have := List.all_eq_true.1 hz x hx
    simpa using this
  unfold prmB prmAt
  simp only [hs1, List.getD_cons_zero]
  rw [hr, show (4 : Int) + ((chL l - 4 : Nat) : Int) = (chL l : Int) by omega, show 4 + (chL l - 4) = chL l by omega]
  rw [show be (sub l 0 2) / 256 = l.getD 0 0 by omega, show be (sub l 0 2) % 256 = l.getD 1 0 by omega, show (chL l : Int) / 256 = l.getD 2 0 by omega, show (chL l : Int) % 256 = l.getD 3 0 by omega]
theorem prmB_flat (m : Nat) (l : List Int) (ps : List Prt) (hm : l.length ≤ m) (hl : By l) (hf : fullOf l = true) (hp : prmsOf l = some ps) (hz : padsOf l = true) : (ps.map prmB).flatten = l := by
  induction m generalizing l ps with
  | zero =>
    rw [prmsOf_nil l (by omega)] at hp
    simp at hp
    subst hp
    exact (List.eq_nil_of_length_eq_zero (by omega)).symm
  | succ m ih =>
    by_cases h0 : l.length = 0
    · rw [prmsOf_nil l h0] at hp
      simp at hp
      subst hp
      exact (List.eq_nil_of_length_eq_zero h0).symm
    · obtain ⟨h4, hc, hu, hq⟩ := fullOf_step l h0 hf
      have hul : chL l ≤ up4 (chL l) := by unfold up4; omega
      have hu4 : 4 ≤ up4 (chL l) := by unfold up4; omega
      rw [prmsOf_cons l h4 hc (by omega), Nat.min_eq_left hu] at hp
      obtain ⟨ps', hp', rfl⟩ : ∃ ps', prmsOf (l.drop (up4 (chL l))) = some ps' ∧ prmAt l :: ps' = ps := by simpa using hp
      rw [padsOf_cons l h0 hf] at hz
      simp only [Bool.and_eq_true] at hz
      have hb : By (l.drop (up4 (chL l))) := fun x hx => hl x (List.mem_of_mem_drop hx)
      have hi := ih _ ps' (by rw [List.length_drop]; omega) hb hq hp' hz.2
      rw [List.map_cons, List.flatten_cons, hi, prmB_at l hl h4 hc hu hz.1]
      exact List.take_append_drop _ _
end Go.Proofs.Ytoljdgfbkebgcaa
