/- ZZDecode, called, decoded, of the kind sctp. -/
import Derived.Test.YtoljdgfbkebgcaaDecSctp
import Derived.Test.YtoljdgfbkebgcaaCopy
namespace Go.Proofs.Ytoljdgfbkebgcaa
open Go.RowKit
/-- What ZZDecode leaves: the layer's block. -/
structure Obj1 (w w' : World) (gl : Nat) (E : TypeId) (cs : Array Value) : Prop where
  bl : Bl w w'
  layer : Blk w' gl cs E

set_option maxHeartbeats 1000000 in
theorem zzSctp_any (A : Option Addr) (n c : Nat) (l : List Int) (w : World) (h : Rd .u8 w A n c l) (hl : By l) (hn : 12 ≤ n) :
    Calls Try.prog 69 #[.string ⟨#[115, 99, 116, 112]⟩, .slice A n c] w fun e w' =>
      ∃ gl, e = .returned (.tuple #[.iface 90 (.pointer (some ⟨gl, 0, none⟩)), .nilIface]) ∧
        Obj1 w w' gl 95 #[.slice A 12 c, .slice (cutA A c 12) (n - 12) (c - 12), .int .u16 (be (sub l 0 2)), .int .u16 (be (sub l 2 4)), .int .u32 (be (sub l 4 8)), .int .u32 (be (sub l 8 12))] := by
  have HA : ∀ x, A = some x → x.block < w.heap.size := by
    intro x hx
    obtain ⟨g, o, e, hc⟩ := h.cell 0 (by omega)
    rw [hx] at e
    simp at e
    subst e
    exact World.block_lt_of_cell? w _ hc
  have H := Lib.hid h
  have HB := Lib.hid hl
  have HA' := Lib.hid HA
  clear h hl HA
  go_enter Try.func69, Try.ntmps69
  go_wp2_with fail
  (with_reducible refine (errNew_any _ _).mono ?_)
  rintro e w1 ⟨rfl, hb1⟩
  have k1 := Blk.keep hb1 (Blk.new w _ _)
  have hz : w.heap.size < w1.heap.size := k1.lt
  go_wp2_with fail
  (with_reducible refine (decSctp_any _ _ _ _ _ _ (H.out.below (Bl.trans (by go_grown) hb1)) HB.out hn HA'.out _ k1).mono ?_)
  rintro e w2 ⟨rfl, gl, kp⟩
  have c2 := kp.keeper.cell
  go_wp2_with fail
  go_ret2
  exact ⟨gl, rfl, Below.trans (Bl.trans (by go_grown) hb1) kp.low, kp.layer⟩
theorem zzSctp_short (A : Option Addr) (n c : Nat) (w : World) (hn : n < 12) :
    Calls Try.prog 69 #[.string ⟨#[115, 99, 116, 112]⟩, .slice A n c] w fun e w' => (∃ u, e = .returned (.tuple #[.nilIface, .iface 167 u])) ∧ Bl w w' := by
  go_enter Try.func69, Try.ntmps69
  go_wp2_with fail
  (with_reducible refine (errNew_any _ _).mono ?_)
  rintro e w1 ⟨rfl, hb1⟩
  have k1 := Blk.keep hb1 (Blk.new w _ _)
  have hz : w.heap.size < w1.heap.size := k1.lt
  go_wp2_with fail
  (with_reducible refine (decSctp_short _ _ _ _ _ hn _ k1).mono ?_)
  rintro e w2 ⟨⟨u, rfl⟩, hb2⟩
  go_wp2_with fail
  go_ret2
  exact ⟨⟨_, rfl⟩, Below.trans (Bl.trans (by go_grown) hb1) hb2⟩
theorem calledSctp_any (v : Value) (w : World) :
    Calls Try.prog 68 #[.string ⟨#[115, 99, 116, 112]⟩, v] w fun e w' => e = .returned (.bool true) ∧ w = w' := by
  go_enter Try.func68, Try.ntmps68
  go_wp2
  go_ret
  exact ⟨rfl, rfl⟩
/-- A header's object. -/
def sctpCells (A : Option Addr) (n c : Nat) (l : List Int) : Array Value :=
  #[.slice A 12 c, .slice (cutA A c 12) (n - 12) (c - 12), .int .u16 (be (sub l 0 2)), .int .u16 (be (sub l 2 4)), .int .u32 (be (sub l 4 8)), .int .u32 (be (sub l 8 12))]
theorem decodedSctp_any (A : Option Addr) (n c : Nat) (l : List Int) (w : World) (h : Rd .u8 w A n c l) (hl : By l) (hn : 12 ≤ n) (hn2 : n ≤ 2000) :
    Calls Try.prog 48 #[.string ⟨#[115, 99, 116, 112]⟩, .slice A n c] w fun e w' =>
      ∃ A1 c1 gl, e = .returned (.tuple #[.iface 90 (.pointer (some ⟨gl, 0, none⟩)), .bool true]) ∧ Obj1 w w' gl 95 (sctpCells A1 n c1 l) ∧ Rd .u8 w' A1 n c1 l := by
  have H := Lib.hid h
  have HB := Lib.hid hl
  clear h hl
  go_enter Try.func48, Try.ntmps48
  go_wp2_with fail
  (with_reducible refine (calledSctp_any _ _).mono ?_)
  rintro e w1 ⟨rfl, rfl⟩
  go_wp2_with fail
  (with_reducible refine (bclone_any _ _ _ _ _ H.out (by omega)).mono ?_)
  rintro e w1 ⟨⟨A1, c1, rfl, r1⟩, hb1⟩
  have R1 := Lib.hid r1
  clear r1
  go_wp2_with fail
  (with_reducible refine (zzSctp_any _ _ _ _ _ R1.out HB.out hn).mono ?_)
  rintro e w2 ⟨gl, rfl, ho⟩
  have O := Lib.hid ho
  clear ho
  go_wp2_with fail
  go_quiet (fail)
  go_wp2_with fail
  go_ret2
  exact ⟨A1, c1, gl, rfl, ⟨(hb1.trans O.out.bl).drewN _, O.out.layer.same rfl⟩, (R1.out.below O.out.bl).below ((Bl.refl _).drewN _)⟩
theorem decodedSctp_short (A : Option Addr) (n c : Nat) (l : List Int) (w : World) (h : Rd .u8 w A n c l) (hn : n < 12) :
    Calls Try.prog 48 #[.string ⟨#[115, 99, 116, 112]⟩, .slice A n c] w fun e w' => e = .returned (.tuple #[.nilIface, .bool false]) ∧ Bl w w' := by
  have H := Lib.hid h
  clear h
  go_enter Try.func48, Try.ntmps48
  go_wp2_with fail
  (with_reducible refine (calledSctp_any _ _).mono ?_)
  rintro e w1 ⟨rfl, rfl⟩
  go_wp2_with fail
  (with_reducible refine (bclone_any _ _ _ _ _ H.out (by omega)).mono ?_)
  rintro e w1 ⟨⟨A1, c1, rfl, r1⟩, hb1⟩
  clear r1
  go_wp2_with fail
  (with_reducible refine (zzSctp_short _ _ _ _ hn).mono ?_)
  rintro e w2 ⟨⟨u, rfl⟩, hb2⟩
  go_wp2_with fail
  go_quiet (fail)
  go_wp2_with fail
  go_ret2
  exact ⟨rfl, (hb1.trans hb2).drewN _⟩
end Go.Proofs.Ytoljdgfbkebgcaa
