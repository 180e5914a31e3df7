/- Decoded parameters as parts, in plain Lean. -/
import Derived.Test.YtoljdgfbkebgcaaDecHea
namespace Go.Proofs.Ytoljdgfbkebgcaa
open Go.RowKit
/-- Cells of decoded parameters, and the parts that they are. -/
def PCells (w : World) (vs : List Value) (ps : List Prt) : Prop :=
  vs.length = ps.length * 4 ∧ ∀ i, i < ps.length → ∃ (T L U : Int) (A : Option Addr) (n c : Nat), vs[i * 4]? = some (.int .u16 T) ∧ vs[i * 4 + 1]? = some (.int .u16 L) ∧ vs[i * 4 + 2]? = some (.int .i64 U) ∧ vs[i * 4 + 3]? = some (.slice A n c) ∧
    (ps.getD i Prt.nil).nums = [T, L, U] ∧ (0 ≤ T ∧ T ≤ 65535) ∧ (0 ≤ L ∧ L ≤ 65535) ∧ (0 ≤ U ∧ U ≤ 100000) ∧ Rd .u8 w A n c (ps.getD i Prt.nil).data ∧ By (ps.getD i Prt.nil).data ∧ n ≤ 2000
theorem PCells.nil (w : World) : PCells w [] [] := ⟨rfl, fun i hi => by simp at hi⟩
theorem PCells.cons {w : World} {vs : List Value} {ps : List Prt} {P : Prt} (h : PCells w vs ps) (T L U : Int) (A : Option Addr) (n c : Nat) (hN : P.nums = [T, L, U]) (hT : 0 ≤ T ∧ T ≤ 65535) (hL : 0 ≤ L ∧ L ≤ 65535) (hU : 0 ≤ U ∧ U ≤ 100000) (r : Rd .u8 w A n c P.data) (hb : By P.data) (hn : n ≤ 2000) :
    PCells w ([.int .u16 T, .int .u16 L, .int .i64 U, .slice A n c] ++ vs) (P :: ps) := by
  refine ⟨by simp [h.1]; omega, fun i hi => ?_⟩
  cases i with
  | zero => exact ⟨T, L, U, A, n, c, rfl, rfl, rfl, rfl, hN, hT, hL, hU, r, hb, hn⟩
  | succ i =>
    obtain ⟨T', L', U', A', n', c', h0, h1, h2, h3, hr⟩ := h.2 i (by simpa using hi)
    refine ⟨T', L', U', A', n', c', ?_, ?_, ?_, ?_, by simpa using hr⟩
    · rw [List.getElem?_append_right (by simp; omega)]; rw [← h0]; congr 1; simp; omega
    · rw [List.getElem?_append_right (by simp; omega)]; rw [← h1]; congr 1; simp; omega
    · rw [List.getElem?_append_right (by simp; omega)]; rw [← h2]; congr 1; simp; omega
    · rw [List.getElem?_append_right (by simp; omega)]; rw [← h3]; congr 1; simp; omega
theorem PCells.below {w w' : World} {vs : List Value} {ps : List Prt} (h : PCells w vs ps) (hb : Bl w w') : PCells w' vs ps :=
  ⟨h.1, fun i hi => by
    obtain ⟨T', L', U', A', n', c', h0, h1, h2, h3, h4, h5, h6, h7, r, hr⟩ := h.2 i hi
    exact ⟨T', L', U', A', n', c', h0, h1, h2, h3, h4, h5, h6, h7, r.below hb, hr⟩⟩
theorem pcells_of (m : Nat) (w : World) (A : Option Addr) (n c : Nat) (l : List Int) (ps : List Prt) (hm : l.length ≤ m) (h : Rd .u8 w A n c l) (hl : By l) (hn : n ≤ 2000) (hf : fullOf l = true) (hp : prmsOf l = some ps) : PCells w (prmCells A c l) ps := by
  induction m generalizing A n c l ps with
  | zero =>
    rw [prmsOf_nil l (by omega)] at hp
    rw [prmCells_nil _ _ _ (by omega)]
    simp at hp
    rw [hp]
    exact PCells.nil w
  | succ m ih =>
    by_cases h0 : l.length = 0
    · rw [prmsOf_nil l h0] at hp
      rw [prmCells_nil _ _ _ h0]
      simp at hp
      rw [hp]
      exact PCells.nil w
    · obtain ⟨h4, hc, hu, hq⟩ := fullOf_step l h0 hf
      have hul : chL l ≤ up4 (chL l) := by unfold up4; omega
      have hlen := h.len
      rw [prmCells_cons _ _ _ h0 hf]
      rw [prmsOf_cons l h4 hc (by omega), Nat.min_eq_left hu] at hp
      obtain ⟨ps', hp', rfl⟩ : ∃ ps', prmsOf (l.drop (up4 (chL l))) = some ps' ∧ prmAt l :: ps' = ps := by simpa using hp
      have hr := h.cut (up4 (chL l)) n (by omega) (Nat.le_refl _)
      have es : sub l (up4 (chL l)) n = l.drop (up4 (chL l)) := by rw [← hlen]; simp [sub]
      rw [es] at hr
      have hb : By (l.drop (up4 (chL l))) := by rw [← es]; exact hl.sub _ _
      have hi := ih _ _ _ _ ps' (by rw [List.length_drop]; omega) hr hb (by omega) hq hp'
      have b0 := be_bd2 (sub l 0 2) (hl.sub _ _) (by rw [sub_length _ _ _ (by omega)])
      have b1 := be_bd2 (sub l 2 4) (hl.sub _ _) (by rw [sub_length _ _ _ (by omega)])
      have e1 := chL_int l hl
      refine PCells.cons hi (be (sub l 0 2)) (be (sub l 2 4)) (up4 (chL l) : Nat) (cutA A c 4) (chL l - 4) (c - 4) ?_ b0 b1 ⟨by omega, by omega⟩ (h.cut 4 (chL l) hc (by omega)) (hl.sub _ _) (by omega)
      unfold prmAt
      rw [e1]
theorem prms_len (m : Nat) (l : List Int) (ps : List Prt) (hm : l.length ≤ m) (hp : prmsOf l = some ps) : ps.length ≤ l.length ∧ ∀ p ∈ ps, p.nums.length = 3 ∧ p.data.length ≤ l.length := by
  induction m generalizing l ps with
  | zero => rw [prmsOf_nil l (by omega)] at hp; simp at hp; subst hp; simp
  | succ m ih =>
    by_cases h0 : l.length = 0
    · rw [prmsOf_nil l h0] at hp; simp at hp; subst hp; simp
    · by_cases hb : l.length < 4 ∨ chL l < 4 ∨ l.length < chL l
      · rw [prmsOf_bad l h0 hb] at hp; simp at hp
      · rw [prmsOf_cons l (by omega) (by omega) (by omega)] at hp
        obtain ⟨ps', hp', rfl⟩ : ∃ ps', prmsOf (l.drop (min (up4 (chL l)) l.length)) = some ps' ∧ prmAt l :: ps' = ps := by simpa using hp
        have hu : 4 ≤ up4 (chL l) := by unfold up4; omega
        have hd : (l.drop (min (up4 (chL l)) l.length)).length + 4 ≤ l.length := by rw [List.length_drop]; omega
        obtain ⟨h1, h2⟩ := ih _ ps' (by omega) hp'
        refine ⟨by simp; omega, fun p hp => ?_⟩
        rcases List.mem_cons.1 hp with rfl | hp
        · exact ⟨rfl, by unfold prmAt; simp only; rw [sub_length _ _ _ (by omega)]; omega⟩
        · have := h2 p hp
          exact ⟨this.1, by omega⟩
end Go.Proofs.Ytoljdgfbkebgcaa
