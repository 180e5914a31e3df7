/- What parts of parameters are, in plain Lean. -/
import Derived.Test.YtoljdgfbkebgcaaPrb
namespace Go.Proofs.Ytoljdgfbkebgcaa
open Go.RowKit
theorem prms_cnt (m : Nat) (l : List Int) (ps : List Prt) (hm : l.length ≤ m) (hp : prmsOf l = some ps) : ps.length * 4 ≤ l.length := by
  induction m generalizing l ps with
  | zero => rw [prmsOf_nil l (by omega)] at hp; simp at hp; subst hp; simp
  | succ m ih =>
    by_cases h0 : l.length = 0
    · rw [prmsOf_nil l h0] at hp; simp at hp; subst hp; simp
    · by_cases hb : l.length < 4 ∨ chL l < 4 ∨ l.length < chL l
      · rw [prmsOf_bad l h0 hb] at hp; simp at hp
      · rw [prmsOf_cons l (by omega) (by omega) (by omega)] at hp
        obtain ⟨ps', hp', rfl⟩ : ∃ ps', prmsOf (l.drop (min (up4 (chL l)) l.length)) = some ps' ∧ prmAt l :: ps' = ps := by simpa using hp
        have hu : 4 ≤ up4 (chL l) := by unfold up4; omega
        have hd : (l.drop (min (up4 (chL l)) l.length)).length + 4 ≤ l.length := by rw [List.length_drop]; omega
        have := ih _ ps' (by omega) hp'
        simp
        omega
theorem prms_each (m : Nat) (l : List Int) (ps : List Prt) (hm : l.length ≤ m) (hl : By l) (hp : prmsOf l = some ps) : ∀ i, i < ps.length → ∃ T L U, (ps.getD i Prt.nil).nums = [T, L, U] ∧ (0 ≤ T ∧ T ≤ 65535) ∧ (0 ≤ L ∧ L ≤ 65535) ∧ (0 ≤ U ∧ U ≤ 100000) ∧ (ps.getD i Prt.nil).data.length ≤ l.length := by
  induction m generalizing l ps with
  | zero => rw [prmsOf_nil l (by omega)] at hp; simp at hp; subst hp; intro i hi; simp at hi
  | succ m ih =>
    by_cases h0 : l.length = 0
    · rw [prmsOf_nil l h0] at hp; simp at hp; subst hp; intro i hi; simp at hi
    · by_cases hb : l.length < 4 ∨ chL l < 4 ∨ l.length < chL l
      · rw [prmsOf_bad l h0 hb] at hp; simp at hp
      · rw [prmsOf_cons l (by omega) (by omega) (by omega)] at hp
        obtain ⟨ps', hp', rfl⟩ : ∃ ps', prmsOf (l.drop (min (up4 (chL l)) l.length)) = some ps' ∧ prmAt l :: ps' = ps := by simpa using hp
        have hu : 4 ≤ up4 (chL l) := by unfold up4; omega
        have hd : (l.drop (min (up4 (chL l)) l.length)).length + 4 ≤ l.length := by rw [List.length_drop]; omega
        have hbd : By (l.drop (min (up4 (chL l)) l.length)) := by rw [← sub_drop]; exact hl.sub _ _
        have hi' := ih _ ps' (by omega) hbd hp'
        intro i hi
        cases i with
        | zero =>
          have b0 := be_bd2 (sub l 0 2) (hl.sub _ _) (by rw [sub_length _ _ _ (by omega)])
          have hc := chL_le l hl (by omega)
          refine ⟨be (sub l 0 2), (chL l : Int), (up4 (chL l) : Int), rfl, b0, ⟨by omega, by omega⟩, ⟨by omega, by unfold up4; omega⟩, ?_⟩
          show (sub l 4 (chL l)).length ≤ l.length
          rw [sub_length _ _ _ (by omega)]
          omega
        | succ i =>
          obtain ⟨T, L, U, h1, h2, h3, h4, h5⟩ := hi' i (by simpa using hi)
          exact ⟨T, L, U, by simpa using h1, h2, h3, h4, by simp only [List.getD_cons_succ]; omega⟩
end Go.Proofs.Ytoljdgfbkebgcaa
