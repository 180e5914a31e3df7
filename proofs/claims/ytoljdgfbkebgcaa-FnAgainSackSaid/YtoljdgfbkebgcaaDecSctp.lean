/- The header's decoder. -/
import Derived.Test.YtoljdgfbkebgcaaLeaf
import Derived.Deep.RegionWith
namespace Go.Proofs.Ytoljdgfbkebgcaa
open Go.RowKit
set_option maxHeartbeats 2000000 in
theorem sctp_bytes (A : Option Addr) (n c g : Nat) (l : List Int) (df : Value) (w : World) (h : Rd .u8 w A n c l) (hl : By l) (hn : 12 ≤ n) (hA : ∀ x, A = some x → x.block < g)
    (k0 : Blk w g #[.slice none 0 0, .slice none 0 0, .int .u16 0, .int .u16 0, .int .u32 0, .int .u32 0] 95) :
    Calls Try.prog 88 #[.pointer (some ⟨g, 0, none⟩), .slice A n c, df] w fun e w' => e = .returned .nilIface ∧
      Blk w' g #[.slice A 12 c, .slice (cutA A c 12) (n - 12) (c - 12), .int .u16 (be (sub l 0 2)), .int .u16 (be (sub l 2 4)), .int .u32 (be (sub l 4 8)), .int .u32 (be (sub l 8 12))] 95 ∧ Below g w w' := by
  have hcap := h.cap
  have s1 := run_cut_h A n c 2 2 rfl (by omega) 24 Try.underlying24 size5
  have s2 := run_cut A n c 2 4 2 4 rfl rfl (by omega) (by omega) 24 Try.underlying24 size5
  have s3 := run_cut A n c 4 8 4 8 rfl rfl (by omega) (by omega) 24 Try.underlying24 size5
  have s4 := run_cut A n c 8 12 8 12 rfl rfl (by omega) (by omega) 24 Try.underlying24 size5
  have s5 := run_cut_h A n c 12 12 rfl (by omega) 24 Try.underlying24 size5
  have s6 := run_cut_l A n c 12 12 rfl (by omega) 24 Try.underlying24 size5
  have R1 := Lib.hid (h.cut0 2 (by omega))
  have R2 := Lib.hid (h.cutm 2 4 2 (by omega) (by omega))
  have R3 := Lib.hid (h.cutm 4 8 4 (by omega) (by omega))
  have R4 := Lib.hid (h.cutm 8 12 4 (by omega) (by omega))
  have HA := Lib.hid hA
  have HB := Lib.hid hl
  have hg := k0.lt
  clear h hl hA
  go_enter Try.func88, Try.ntmps88
  go_wp2
  go_region_with (go_at_call 91; (with_reducible refine (be16_any _ _ _ _ (R1.out.belowB HA.out (Below.drew (Below.refl g w))) (HB.out.sub 0 2)).mono ?_); rintro e w1 ⟨rfl, hb1⟩; have k1 := Blk.keep hb1 (Blk.same k0 rfl); have c1 := k1.cell; have f1 := k1.frozen)
  have B1 : Below g w (w1.setCell ⟨g, 2, none⟩ (.int .u16 (be (sub l 0 2)))) := ((Below.drew (Below.refl g w)).trans (Below.ofBl hb1 (Nat.le_of_lt k0.lt))).setCell (Nat.le_refl _) _
  have K1 := k1.set 2 (.int .u16 (be (sub l 0 2)))
  clear k1 c1 f1 hb1
  generalize w1.setCell ⟨g, 2, none⟩ (.int .u16 (be (sub l 0 2))) = W1 at *
  go_wp2
  go_region_with (go_at_call 91; (with_reducible refine (be16_any _ _ _ _ (R2.out.belowB (cutA_block HA.out) (Below.drew B1)) (HB.out.sub 2 4)).mono ?_); rintro e w2 ⟨rfl, hb2⟩; have k2 := Blk.keep hb2 (Blk.same K1 rfl); have c2 := k2.cell; have f2 := k2.frozen)
  have B2 : Below g w (w2.setCell ⟨g, 3, none⟩ (.int .u16 (be (sub l 2 4)))) := ((Below.drew B1).trans (Below.ofBl hb2 (Nat.le_of_lt K1.lt))).setCell (Nat.le_refl _) _
  have K2 := k2.set 3 (.int .u16 (be (sub l 2 4)))
  clear k2 c2 f2 hb2
  generalize w2.setCell ⟨g, 3, none⟩ (.int .u16 (be (sub l 2 4))) = W2 at *
  go_wp2
  go_region_with (go_at_call 90; (with_reducible refine (be32_any _ _ _ _ (R3.out.belowB (cutA_block HA.out) (Below.drew B2)) (HB.out.sub 4 8)).mono ?_); rintro e w3 ⟨rfl, hb3⟩; have k3 := Blk.keep hb3 (Blk.same K2 rfl); have c3 := k3.cell; have f3 := k3.frozen)
  have B3 : Below g w (w3.setCell ⟨g, 4, none⟩ (.int .u32 (be (sub l 4 8)))) := ((Below.drew B2).trans (Below.ofBl hb3 (Nat.le_of_lt K2.lt))).setCell (Nat.le_refl _) _
  have K3 := k3.set 4 (.int .u32 (be (sub l 4 8)))
  clear k3 c3 f3 hb3
  generalize w3.setCell ⟨g, 4, none⟩ (.int .u32 (be (sub l 4 8))) = W3 at *
  go_wp2
  go_region_with (go_at_call 90; (with_reducible refine (be32_any _ _ _ _ (R4.out.belowB (cutA_block HA.out) (Below.drew B3)) (HB.out.sub 8 12)).mono ?_); rintro e w4 ⟨rfl, hb4⟩; have k4 := Blk.keep hb4 (Blk.same K3 rfl); have c4 := k4.cell; have f4 := k4.frozen)
  have B4 : Below g w (w4.setCell ⟨g, 5, none⟩ (.int .u32 (be (sub l 8 12)))) := ((Below.drew B3).trans (Below.ofBl hb4 (Nat.le_of_lt K3.lt))).setCell (Nat.le_refl _) _
  have K4 := k4.set 5 (.int .u32 (be (sub l 8 12)))
  clear k4 c4 f4 hb4
  generalize w4.setCell ⟨g, 5, none⟩ (.int .u32 (be (sub l 8 12))) = W4 at *
  go_wp2
  have c5 := K4.cell
  have f5 := K4.frozen
  go_region
  go_wp2
  go_ret
  refine ⟨rfl, ?_, ?_⟩
  · exact ((K4.same (w' := W4.drew) rfl).set 0 _).set 1 _
  · exact ((B4.drew).setCell (Nat.le_refl _) _).setCell (Nat.le_refl _) _

theorem addLayer_any (g : Nat) (x : Value) (T : TypeId) (u : Value) (w : World) (k : Blk w g #[x] 164) :
    Calls Try.prog 144 #[.pointer (some ⟨g, 0, none⟩), .iface T u] w fun e w' => e = .returned (.tuple #[]) ∧ w.setCell ⟨g, 0, none⟩ (.iface T u) = w' := by
  have c1 := k.cell
  have f1 := k.frozen
  go_enter Try.func144, Try.ntmps144
  go_wp2
  go_end0
  exact ⟨rfl, rfl⟩

/-- The memory behind a decoder: below the keeper's block as it was, the keeper holds the layer, the layer lies in a block of its own. -/
structure Kept (w w' : World) (gk : Nat) (T : TypeId) (E : TypeId) (gl : Nat) (cs : Array Value) : Prop where
  low : Below gk w w'
  keeper : Blk w' gk #[.iface T (.pointer (some ⟨gl, 0, none⟩))] 164
  layer : Blk w' gl cs E

set_option maxHeartbeats 1000000 in
theorem decSctp_any (A : Option Addr) (n c gk : Nat) (l : List Int) (w : World) (h : Rd .u8 w A n c l) (hl : By l) (hn : 12 ≤ n) (hA : ∀ x, A = some x → x.block < gk) (x : Value) (k : Blk w gk #[x] 164) :
    Calls Try.prog 77 #[.slice A n c, .iface 162 (.pointer (some ⟨gk, 0, none⟩))] w fun e w' => e = .returned .nilIface ∧
      ∃ gl, Kept w w' gk 90 95 gl #[.slice A 12 c, .slice (cutA A c 12) (n - 12) (c - 12), .int .u16 (be (sub l 0 2)), .int .u16 (be (sub l 2 4)), .int .u32 (be (sub l 4 8)), .int .u32 (be (sub l 8 12))] := by
  have hk := k.lt
  have H := Lib.hid h
  have HB := Lib.hid hl
  have HA := Lib.hid hA
  clear h hl hA
  go_enter Try.func77, Try.ntmps77
  go_wp2_with fail
  (with_reducible refine (sctp_bytes _ _ _ _ _ _ _ (H.out.below (by go_grown)) HB.out hn (fun x hx => Nat.lt_trans (HA.out x hx) hk) (Blk.new w _ _)).mono ?_)
  rintro e w1 ⟨rfl, kl, bl⟩
  have k1 : Blk w1 gk #[x] 164 := ⟨(bl.block gk hk).trans (k.alloc _).heap⟩
  have c1 := k1.cell
  have f1 := k1.frozen
  go_wp2_with fail
  (with_reducible refine (addLayer_any _ _ _ _ _ k1).mono ?_)
  rintro e w2 ⟨rfl, rfl⟩
  go_wp2_with fail
  go_ret
  exact ⟨rfl, w.heap.size, (((Below.refl gk w).alloc (Nat.le_of_lt hk) _).trans (bl.mono (Nat.le_of_lt hk))).setCell (Nat.le_refl _) _, k1.set 0 _, kl.far (Nat.ne_of_gt hk) _⟩

/-- Fewer than twelve bytes: an error (the layer is kept all the same). -/
theorem sctp_short (A : Option Addr) (n c g : Nat) (df : Value) (w : World) (hn : n < 12) :
    Calls Try.prog 88 #[.pointer (some ⟨g, 0, none⟩), .slice A n c, df] w fun e w' => (∃ u, e = .returned (.iface 167 u)) ∧ Bl w w' := by
  go_enter Try.func88, Try.ntmps88
  go_wp2_with (go_at_call 76; (with_reducible refine (errNew_any _ _).mono ?_); rintro e w1 ⟨rfl, hb1⟩)
  go_ret
  exact ⟨⟨_, rfl⟩, by assumption⟩
theorem decSctp_short (A : Option Addr) (n c gk : Nat) (w : World) (hn : n < 12) (x : Value) (k : Blk w gk #[x] 164) :
    Calls Try.prog 77 #[.slice A n c, .iface 162 (.pointer (some ⟨gk, 0, none⟩))] w fun e w' => (∃ u, e = .returned (.iface 167 u)) ∧ Below gk w w' := by
  have hk := k.lt
  go_enter Try.func77, Try.ntmps77
  go_wp2_with fail
  (with_reducible refine (sctp_short _ _ _ _ _ _ hn).mono ?_)
  rintro e w1 ⟨⟨u, rfl⟩, bl⟩
  have k1 := Blk.keep bl (k.alloc _)
  have c1 := k1.cell
  have f1 := k1.frozen
  go_wp2_with fail
  (with_reducible refine (addLayer_any _ _ _ _ _ k1).mono ?_)
  rintro e w2 ⟨rfl, rfl⟩
  go_wp2_with fail
  go_ret
  exact ⟨⟨_, rfl⟩, (((Below.refl gk w).alloc (Nat.le_of_lt hk) _).trans (Below.ofBl bl (by simp; omega))).setCell (Nat.le_refl _) _⟩
end Go.Proofs.Ytoljdgfbkebgcaa
