/- spec.Read of the kind sctp. -/
import Derived.Test.YtoljdgfbkebgcaaNum
import Derived.Test.YtoljdgfbkebgcaaLay
import Derived.Deep.RegionWith
import Derived.Outline
namespace Go.Proofs.Ytoljdgfbkebgcaa
open Go.RowKit
def specSctp (l : List Int) : Lyr := ⟨[be (sub l 0 2), be (sub l 2 4), be (sub l 4 8), be (sub l 8 12)], [], [], sub l 12 l.length⟩
def zeroLyr : Value := .agg #[.slice none 0 0, .slice none 0 0, .slice none 0 0, .slice none 0 0]
/-- What a read gives: a layer, or none. -/
def Told (B : Nat) (w w' : World) (e : Ending) (L : Lyr) (ok told : Bool) : Prop :=
  ∃ v, e = .returned (.tuple #[v, .bool ok, .bool told]) ∧ LyrV (Fr B w) w' v L ∧ Bl w w'
set_option maxHeartbeats 2000000 in
set_option maxRecDepth 100000 in
theorem specRead_sctp_short (A : Option Addr) (n c : Nat) (w : World) (hn : n < 12) :
    Calls Try.prog 43 #[.string ⟨#[115, 99, 116, 112]⟩, .slice A n c] w fun e w' => e = .returned (.tuple #[zeroLyr, .bool false, .bool true]) ∧ Bl w w' := by
  go_enter Try.func43, Try.ntmps43
  go_wp2
  refine bodyPost_ret (v := .tuple #[zeroLyr, .bool false, .bool true]) (by simp [results, Try.results43, go_sem, zeroLyr]) rfl ⟨rfl, ?_⟩
  go_grown
set_option maxHeartbeats 4000000 in
set_option maxRecDepth 100000 in
theorem specRead_sctp (A : Option Addr) (n c B : Nat) (l : List Int) (w : World) (hA : InF (· < B) A n) (h : Rd .u8 w A n c l) (hl : By l) (hn : 12 ≤ n) (hn2 : n ≤ 2147483647) :
    Calls Try.prog 43 #[.string ⟨#[115, 99, 116, 112]⟩, .slice A n c] w fun e w' => Told B w w' e (specSctp l) true true := by
  have hcap := h.cap
  have s1 := run_cut_h A n c 2 2 rfl (by omega) 24 Try.underlying24 size5
  have s2 := run_cut A n c 2 4 2 4 rfl rfl (by omega) (by omega) 24 Try.underlying24 size5
  have s3 := run_cut A n c 4 8 4 8 rfl rfl (by omega) (by omega) 24 Try.underlying24 size5
  have s4 := run_cut A n c 8 12 8 12 rfl rfl (by omega) (by omega) 24 Try.underlying24 size5
  have s5 := run_cut_l A n c 12 12 rfl (by omega) 24 Try.underlying24 size5
  have R1 := Lib.hid (h.cut0 2 (by omega))
  have R2 := Lib.hid (h.cutm 2 4 2 (by omega) (by omega))
  have R3 := Lib.hid (h.cutm 4 8 4 (by omega) (by omega))
  have R4 := Lib.hid (h.cutm 8 12 4 (by omega) (by omega))
  have R5 := Lib.hid (h.cut 12 n (by omega) (by omega))
  have HL := Lib.hid h.len
  have HB := Lib.hid hl
  clear h hl
  go_enter Try.func43, Try.ntmps43
  go_wp2
  go_region_with (first | (go_at_call 38; (with_reducible refine (num_any _ _ _ _ _ (R1.out.below (by go_grown)) (HB.out.sub _ _) (by omega) (by omega)).mono ?_); rintro e w1 ⟨rfl, rfl⟩) | (go_at_call 38; (with_reducible refine (num_any _ _ _ _ _ (R2.out.below (by go_grown)) (HB.out.sub _ _) (by omega) (by omega)).mono ?_); rintro e w1 ⟨rfl, rfl⟩) | (go_at_call 38; (with_reducible refine (num_any _ _ _ _ _ (R3.out.below (by go_grown)) (HB.out.sub _ _) (by omega) (by omega)).mono ?_); rintro e w1 ⟨rfl, rfl⟩) | (go_at_call 38; (with_reducible refine (num_any _ _ _ _ _ (R4.out.below (by go_grown)) (HB.out.sub _ _) (by omega) (by omega)).mono ?_); rintro e w1 ⟨rfl, rfl⟩))
  go_wp2
  refine bodyPost_ret (v := .tuple #[.agg #[.slice (some ⟨w.heap.size + 1, 0, none⟩) 4 4, .slice none 0 0, .slice none 0 0, .slice (cutA A c 12) (n - 12) (c - 12)], .bool true, .bool true]) (by simp [results, Try.results43, go_sem]) rfl ?_
  refine ⟨_, rfl, ⟨_, _, _, _, rfl, ?_, DataV.nil _ _, PartsV.nil _ _, ?_⟩, by go_grown⟩
  · exact NumV.of_block _ (.inr (by simp)) (Blk.newAt (w.alloc _) _ 26 (w.heap.size + 1) (by simp)).heap rfl rfl
  · show BytV _ _ _ (sub l 12 l.length)
    rw [HL.out]
    exact (R5.out.below (by go_grown)).bytV (cutA_inF (hA.mono fun _ h => .inl h) (fun _ => by omega)) (HB.out.sub _ _)
end Go.Proofs.Ytoljdgfbkebgcaa
