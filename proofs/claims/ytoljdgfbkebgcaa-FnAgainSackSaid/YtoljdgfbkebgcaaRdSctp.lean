/- impl.Read of the kind sctp. -/
import Derived.Test.YtoljdgfbkebgcaaToSctp
import Derived.Test.YtoljdgfbkebgcaaSrSctp
namespace Go.Proofs.Ytoljdgfbkebgcaa
open Go.RowKit
theorem payload_any (g : Nat) (A : Option Addr) (n c : Nat) (w : World) (h : w.cell? ⟨g, 1, none⟩ = some (.slice A n c)) :
    Calls Try.prog 110 #[.pointer (some ⟨g, 0, none⟩)] w fun e w' => e = .returned (.slice A n c) ∧ w = w' := by
  go_enter Try.func110, Try.ntmps110
  go_wp2
  go_ret
  exact ⟨rfl, rfl⟩
theorem contents_any (g : Nat) (A : Option Addr) (n c : Nat) (w : World) (h : w.cell? ⟨g, 0, none⟩ = some (.slice A n c)) :
    Calls Try.prog 109 #[.pointer (some ⟨g, 0, none⟩)] w fun e w' => e = .returned (.slice A n c) ∧ w = w' := by
  go_enter Try.func109, Try.ntmps109
  go_wp2
  go_ret
  exact ⟨rfl, rfl⟩
/-- What impl.Read gives: a layer and whether there is one. -/
def Got (w w' : World) (e : Ending) (L : Lyr) : Prop :=
  ∃ v, e = .returned (.tuple #[v, .bool true]) ∧ LyrV (fun k => w.heap.size ≤ k) w' v L ∧ Bl w w'
set_option maxHeartbeats 1000000 in
theorem readSctp_any (A : Option Addr) (n c : Nat) (l : List Int) (w : World) (h : Rd .u8 w A n c l) (hl : By l) (hn : 12 ≤ n) (hn2 : n ≤ 2000) :
    Calls Try.prog 33 #[.string ⟨#[115, 99, 116, 112]⟩, .slice A n c] w fun e w' => Got w w' e (specSctp l) := by
  have H := Lib.hid h
  have HB := Lib.hid hl
  have hlen := h.len
  clear h hl
  go_enter Try.func33, Try.ntmps33
  go_wp2_with fail
  (with_reducible refine (decodedSctp_any _ _ _ _ _ (H.out.below (by go_grown)) HB.out hn hn2).mono ?_)
  rintro e w1 ⟨A1, c1, gl, rfl, ho, r1⟩
  have R1 := Lib.hid r1
  have kl := ho.layer
  have kr := Blk.keep ho.bl (Blk.new w _ _)
  have cl : w1.cell? ⟨gl, 1, none⟩ = some (.slice (cutA A1 c1 12) (n - 12) (c1 - 12)) := by rw [kl.cell]; rfl
  have HO := Lib.hid ho.bl
  have zr := kr.lt
  clear r1 ho
  go_wp2_with fail
  (with_reducible refine (payload_any _ _ _ _ _ cl).mono ?_)
  rintro e w2 ⟨rfl, rfl⟩
  go_wp2_with fail
  have q := (R1.out.cut 12 n (by omega) (by omega))
  (with_reducible refine (toldSctp_any _ _ _ _ _ _ _ _ _ _ HB.out kl q (HB.out.sub _ _) (by omega) (by omega)).mono ?_)
  rintro e w2 ⟨v0, v3, rfl, h0, h3, hb2⟩
  have hL : LyrV (fun k => w1.heap.size ≤ k) w2 (.agg #[v0, .slice none 0 0, .slice none 0 0, v3]) (specSctp l) :=
    ⟨_, _, _, _, rfl, h0, DataV.nil _ _, PartsV.nil _ _, by rw [show (specSctp l).payload = sub l 12 n from by rw [← hlen]; rfl]; exact h3⟩
  have HL := Lib.hid hL
  clear hL
  obtain ⟨A0, c0, rfl, _, _⟩ := h0
  obtain ⟨⟨A3, c3, rfl, _, _⟩, _⟩ := h3
  have kr2 := Blk.keep hb2 kr
  have cr := kr2.cell
  have fr := kr2.frozen
  have zr2 := kr2.lt
  have B2 := Lib.hid ((Bl.trans (Below.alloc (Below.refl _ w) (Nat.le_refl _) _) HO.out).trans hb2)
  go_wp2_with fail
  have hz : w.heap.size ≤ w1.heap.size := Nat.le_of_lt zr
  refine bodyPost_ret (v := .tuple #[.agg #[.slice A0 4 c0, .slice none 0 0, .slice none 0 0, .slice A3 (sub l 12 n).length c3], .bool true]) (by simp [results, Try.results33, go_sem, cr]) rfl
    ⟨_, rfl, (LyrV.mono (LyrV.boxed HL.out (by simp; omega) _ _ _ _) (fun k hk => Nat.le_trans hz hk)), Bl.boxed B2.out (Nat.le_refl _) _ _ _ _⟩
theorem readSctp_short (A : Option Addr) (n c : Nat) (l : List Int) (w : World) (h : Rd .u8 w A n c l) (hn : n < 12) :
    Calls Try.prog 33 #[.string ⟨#[115, 99, 116, 112]⟩, .slice A n c] w fun e w' => e = .returned (.tuple #[.agg #[.slice none 0 0, .slice none 0 0, .slice none 0 0, .slice none 0 0], .bool false]) ∧ Bl w w' := by
  have H := Lib.hid h
  clear h
  go_enter Try.func33, Try.ntmps33
  go_wp2_with fail
  (with_reducible refine (decodedSctp_short _ _ _ _ _ (H.out.below (by go_grown)) hn).mono ?_)
  rintro e w1 ⟨rfl, hb1⟩
  have kr := Blk.keep hb1 (Blk.new w _ _)
  have cr := kr.cell
  have fr := kr.frozen
  have zr := kr.lt
  have B2 := Lib.hid (Bl.trans (Below.alloc (Below.refl _ w) (Nat.le_refl _) _) hb1)
  go_wp2_with fail
  refine bodyPost_ret (v := .tuple #[.agg #[.slice none 0 0, .slice none 0 0, .slice none 0 0, .slice none 0 0], .bool false]) (by simp [results, Try.results33, go_sem, cr]) rfl
    ⟨rfl, Bl.boxed B2.out (Nat.le_refl _) _ _ _ _⟩
end Go.Proofs.Ytoljdgfbkebgcaa
