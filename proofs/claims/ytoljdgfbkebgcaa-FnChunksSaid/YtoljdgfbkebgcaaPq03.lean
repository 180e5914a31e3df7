/- spec.Read of the kind sctp. impl.Read of the kind sctp. laws.alive is true. Rows of one's own, taken apart: the block, its cells. decodeSCTPChunk: what heads a chunk. Rows of parts under construction; what parameters are, in plain Lean. impl.areParameters. -/
import Derived.Test.YtoljdgfbkebgcaaPq02
import Derived.Test.YtoljdgfbkebgcaaPq01
import Derived.Deep.RegionWith
import Derived.Outline
import Derived.LoopTactic
namespace Go.Proofs.Ytoljdgfbkebgcaa
open Go.RowKit
set_option linter.unusedVariables false
def specSctp (l : List Int) : Lyr := ⟨[be (sub l 0 2), be (sub l 2 4), be (sub l 4 8), be (sub l 8 12)], [], [], sub l 12 l.length⟩
def zeroLyr : Value := .agg #[.slice none 0 0, .slice none 0 0, .slice none 0 0, .slice none 0 0]
/-- What a read gives: a layer, or none. -/
def Told (B : Nat) (w w' : World) (e : Ending) (L : Lyr) (ok told : Bool) : Prop :=
  ∃ v, e = .returned (.tuple #[v, .bool ok, .bool told]) ∧ LyrV (Fr B w) w' v L ∧ Bl w w'
set_option maxHeartbeats 2000000 in
set_option maxRecDepth 100000 in
theorem specRead_sctp_short (A : Option Addr) (n c : Nat) (w : World) (hn : n < 12) :
    Calls Try.prog 43 #[.string ⟨#[115, 99, 116, 112]⟩, .slice A n c] w fun e w' => e = .returned (.tuple #[zeroLyr, .bool false, .bool true]) ∧ Bl w w' := by
  go_enter Try.func43, Try.ntmps43
  go_wp2
  refine bodyPost_ret (v := .tuple #[zeroLyr, .bool false, .bool true]) (by simp [results, Try.results43, go_sem, zeroLyr]) rfl ⟨rfl, ?_⟩
  go_grown
set_option maxHeartbeats 4000000 in
set_option maxRecDepth 100000 in
theorem specRead_sctp (A : Option Addr) (n c B : Nat) (l : List Int) (w : World) (hA : InF (· < B) A n) (h : Rd .u8 w A n c l) (hl : By l) (hn : 12 ≤ n) (hn2 : n ≤ 2147483647) :
    Calls Try.prog 43 #[.string ⟨#[115, 99, 116, 112]⟩, .slice A n c] w fun e w' => Told B w w' e (specSctp l) true true := by
  have hcap := h.cap
  have s1 := run_cut_h A n c 2 2 rfl (by omega) 24 Try.underlying24 size5
  have s2 := run_cut A n c 2 4 2 4 rfl rfl (by omega) (by omega) 24 Try.underlying24 size5
  have s3 := run_cut A n c 4 8 4 8 rfl rfl (by omega) (by omega) 24 Try.underlying24 size5
  have s4 := run_cut A n c 8 12 8 12 rfl rfl (by omega) (by omega) 24 Try.underlying24 size5
  have s5 := run_cut_l A n c 12 12 rfl (by omega) 24 Try.underlying24 size5
  have R1 := Lib.hid (h.cut0 2 (by omega))
  have R2 := Lib.hid (h.cutm 2 4 2 (by omega) (by omega))
  have R3 := Lib.hid (h.cutm 4 8 4 (by omega) (by omega))
  have R4 := Lib.hid (h.cutm 8 12 4 (by omega) (by omega))
  have R5 := Lib.hid (h.cut 12 n (by omega) (by omega))
  have HL := Lib.hid h.len
  have HB := Lib.hid hl
  clear h hl
  go_enter Try.func43, Try.ntmps43
  go_wp2
  go_region_with (first | (go_at_call 38; (with_reducible refine (num_any _ _ _ _ _ (R1.out.below (by go_grown)) (HB.out.sub _ _) (by omega) (by omega)).mono ?_); rintro e w1 ⟨rfl, rfl⟩) | (go_at_call 38; (with_reducible refine (num_any _ _ _ _ _ (R2.out.below (by go_grown)) (HB.out.sub _ _) (by omega) (by omega)).mono ?_); rintro e w1 ⟨rfl, rfl⟩) | (go_at_call 38; (with_reducible refine (num_any _ _ _ _ _ (R3.out.below (by go_grown)) (HB.out.sub _ _) (by omega) (by omega)).mono ?_); rintro e w1 ⟨rfl, rfl⟩) | (go_at_call 38; (with_reducible refine (num_any _ _ _ _ _ (R4.out.below (by go_grown)) (HB.out.sub _ _) (by omega) (by omega)).mono ?_); rintro e w1 ⟨rfl, rfl⟩))
  go_wp2
  refine bodyPost_ret (v := .tuple #[.agg #[.slice (some ⟨w.heap.size + 1, 0, none⟩) 4 4, .slice none 0 0, .slice none 0 0, .slice (cutA A c 12) (n - 12) (c - 12)], .bool true, .bool true]) (by simp [results, Try.results43, go_sem]) rfl ?_
  refine ⟨_, rfl, ⟨_, _, _, _, rfl, ?_, DataV.nil _ _, PartsV.nil _ _, ?_⟩, by go_grown⟩
  · exact NumV.of_block _ (.inr (by simp)) (Blk.newAt (w.alloc _) _ 26 (w.heap.size + 1) (by simp)).heap rfl rfl
  · show BytV _ _ _ (sub l 12 l.length)
    rw [HL.out]
    exact (R5.out.below (by go_grown)).bytV (cutA_inF (hA.mono fun _ h => .inl h) (fun _ => by omega)) (HB.out.sub _ _)
end Go.Proofs.Ytoljdgfbkebgcaa
namespace Go.Proofs.Ytoljdgfbkebgcaa
open Go.RowKit
set_option linter.unusedVariables false
theorem payload_any (g : Nat) (A : Option Addr) (n c : Nat) (w : World) (h : w.cell? ⟨g, 1, none⟩ = some (.slice A n c)) :
    Calls Try.prog 110 #[.pointer (some ⟨g, 0, none⟩)] w fun e w' => e = .returned (.slice A n c) ∧ w = w' := by
  go_enter Try.func110, Try.ntmps110
  go_wp2
  go_ret
  exact ⟨rfl, rfl⟩
theorem contents_any (g : Nat) (A : Option Addr) (n c : Nat) (w : World) (h : w.cell? ⟨g, 0, none⟩ = some (.slice A n c)) :
    Calls Try.prog 109 #[.pointer (some ⟨g, 0, none⟩)] w fun e w' => e = .returned (.slice A n c) ∧ w = w' := by
  go_enter Try.func109, Try.ntmps109
  go_wp2
  go_ret
  exact ⟨rfl, rfl⟩
/-- What impl.Read gives: a layer and whether there is one. -/
def Got (w w' : World) (e : Ending) (L : Lyr) : Prop :=
  ∃ v, e = .returned (.tuple #[v, .bool true]) ∧ LyrV (fun k => w.heap.size ≤ k) w' v L ∧ Bl w w'
set_option maxHeartbeats 1000000 in
theorem readSctp_any (A : Option Addr) (n c : Nat) (l : List Int) (w : World) (h : Rd .u8 w A n c l) (hl : By l) (hn : 12 ≤ n) (hn2 : n ≤ 2000) :
    Calls Try.prog 33 #[.string ⟨#[115, 99, 116, 112]⟩, .slice A n c] w fun e w' => Got w w' e (specSctp l) := by
  have H := Lib.hid h
  have HB := Lib.hid hl
  have hlen := h.len
  clear h hl
  go_enter Try.func33, Try.ntmps33
  go_wp2_with fail
  (with_reducible refine (decodedSctp_any _ _ _ _ _ (H.out.below (by go_grown)) HB.out hn hn2).mono ?_)
  rintro e w1 ⟨A1, c1, gl, rfl, ho, r1⟩
  have R1 := Lib.hid r1
  have kl := ho.layer
  have kr := Blk.keep ho.bl (Blk.new w _ _)
  have cl : w1.cell? ⟨gl, 1, none⟩ = some (.slice (cutA A1 c1 12) (n - 12) (c1 - 12)) := by rw [kl.cell]; rfl
  have HO := Lib.hid ho.bl
  have zr := kr.lt
  clear r1 ho
  go_wp2_with fail
  (with_reducible refine (payload_any _ _ _ _ _ cl).mono ?_)
  rintro e w2 ⟨rfl, rfl⟩
  go_wp2_with fail
  have q := (R1.out.cut 12 n (by omega) (by omega))
  (with_reducible refine (toldSctp_any _ _ _ _ _ _ _ _ _ _ HB.out kl q (HB.out.sub _ _) (by omega) (by omega)).mono ?_)
  rintro e w2 ⟨v0, v3, rfl, h0, h3, hb2⟩
  have hL : LyrV (fun k => w1.heap.size ≤ k) w2 (.agg #[v0, .slice none 0 0, .slice none 0 0, v3]) (specSctp l) :=
    ⟨_, _, _, _, rfl, h0, DataV.nil _ _, PartsV.nil _ _, by rw [show (specSctp l).payload = sub l 12 n from by rw [← hlen]; rfl]; exact h3⟩
  have HL := Lib.hid hL
  clear hL
  obtain ⟨A0, c0, rfl, _, _⟩ := h0
  obtain ⟨⟨A3, c3, rfl, _, _⟩, _⟩ := h3
  have kr2 := Blk.keep hb2 kr
  have cr := kr2.cell
  have fr := kr2.frozen
  have zr2 := kr2.lt
  have B2 := Lib.hid ((Bl.trans (Below.alloc (Below.refl _ w) (Nat.le_refl _) _) HO.out).trans hb2)
  go_wp2_with fail
  have hz : w.heap.size ≤ w1.heap.size := Nat.le_of_lt zr
  refine bodyPost_ret (v := .tuple #[.agg #[.slice A0 4 c0, .slice none 0 0, .slice none 0 0, .slice A3 (sub l 12 n).length c3], .bool true]) (by simp [results, Try.results33, go_sem, cr]) rfl
    ⟨_, rfl, (LyrV.mono (LyrV.boxed HL.out (by simp; omega) _ _ _ _) (fun k hk => Nat.le_trans hz hk)), Bl.boxed B2.out (Nat.le_refl _) _ _ _ _⟩
theorem readSctp_short (A : Option Addr) (n c : Nat) (l : List Int) (w : World) (h : Rd .u8 w A n c l) (hn : n < 12) :
    Calls Try.prog 33 #[.string ⟨#[115, 99, 116, 112]⟩, .slice A n c] w fun e w' => e = .returned (.tuple #[.agg #[.slice none 0 0, .slice none 0 0, .slice none 0 0, .slice none 0 0], .bool false]) ∧ Bl w w' := by
  have H := Lib.hid h
  clear h
  go_enter Try.func33, Try.ntmps33
  go_wp2_with fail
  (with_reducible refine (decodedSctp_short _ _ _ _ _ (H.out.below (by go_grown)) hn).mono ?_)
  rintro e w1 ⟨rfl, hb1⟩
  have kr := Blk.keep hb1 (Blk.new w _ _)
  have cr := kr.cell
  have fr := kr.frozen
  have zr := kr.lt
  have B2 := Lib.hid (Bl.trans (Below.alloc (Below.refl _ w) (Nat.le_refl _) _) hb1)
  go_wp2_with fail
  refine bodyPost_ret (v := .tuple #[.agg #[.slice none 0 0, .slice none 0 0, .slice none 0 0, .slice none 0 0], .bool false]) (by simp [results, Try.results33, go_sem, cr]) rfl
    ⟨rfl, Bl.boxed B2.out (Nat.le_refl _) _ _ _ _⟩
end Go.Proofs.Ytoljdgfbkebgcaa
namespace Go.Proofs.Ytoljdgfbkebgcaa
open Go.RowKit
set_option linter.unusedVariables false
def aliveBytes : List Int := [0, 7, 0, 8, 0, 0, 0, 9, 0, 0, 0, 0]
theorem aliveBytes_by : By aliveBytes := by
  intro x hx
  simp [aliveBytes] at hx
  omega
theorem alive_rd (w : World) : Rd .u8 (w.alloc (.cells #[.int .u8 0, .int .u8 7, .int .u8 0, .int .u8 8, .int .u8 0, .int .u8 0, .int .u8 0, .int .u8 9, .int .u8 0, .int .u8 0, .int .u8 0, .int .u8 0] 5)) (some ⟨w.heap.size, 0, none⟩) 12 12 aliveBytes := by
  refine Blk.rd .u8 (Blk.new w _ 5) aliveBytes (by decide) ?_
  intro i hi
  have : i < 12 := hi
  rcases i with _ | _ | _ | _ | _ | _ | _ | _ | _ | _ | _ | _ | i <;> first | rfl | omega
set_option maxHeartbeats 1000000 in
theorem alive_any (w : World) : Calls Try.prog 35 #[] w fun e w' => e = .returned (.bool true) ∧ Bl w w' := by
  go_enter Try.func35, Try.ntmps35
  go_wp2_with fail
  (with_reducible refine (readSctp_any _ _ _ aliveBytes _ (alive_rd w) aliveBytes_by (by decide) (by decide)).mono ?_)
  rintro e w1 ⟨v, rfl, hL, hb⟩
  obtain ⟨v0, v1, v2, v3, rfl, ⟨A0, c0, rfl, _, r0⟩, ⟨A1, c1, rfl, -⟩, ⟨A2, c2, rfl, -⟩, ⟨⟨A3, c3, rfl, -⟩, -⟩⟩ := hL
  obtain ⟨g, o, rfl, hg, hc⟩ := r0.at (by decide)
  have d0 : w1.cell? ⟨g, o + 0, none⟩ = some (.int .u64 7) := hc 0 (by decide)
  have e0 : (specSctp aliveBytes).nums.length = 4 := rfl
  have e1 : (specSctp aliveBytes).data.length = 0 := rfl
  have e2 : (specSctp aliveBytes).parts.length = 0 := rfl
  have e3 : (specSctp aliveBytes).payload.length = 0 := rfl
  simp only [Nat.add_zero] at d0
  rw [e0, e1, e2, e3]
  have B1 := Lib.hid (Bl.trans (Below.alloc (Below.refl _ w) (Nat.le_refl _) _) hb)
  clear hc r0 hb
  go_wp2_with fail
  go_ret
  exact ⟨rfl, B1.out.trans (by go_grown)⟩
end Go.Proofs.Ytoljdgfbkebgcaa
namespace Go.Proofs.Ytoljdgfbkebgcaa
open Go.RowKit
set_option linter.unusedVariables false
theorem own_split {w : World} {base e n c : Nat} {A : Option Addr} {xs : List Value} (h : w.ownsRow base e 1 (.slice A n c) n xs) (hn : 0 < n) :
    ∃ g cs, A = some ⟨g, 0, none⟩ ∧ base ≤ g ∧ Blk w g cs e ∧ n ≤ cs.size ∧ cs.size = c ∧ ∀ i, i < n → cs[i]? = xs[i]? := by
  rcases h.2 with ⟨h1, _⟩ | ⟨g, cap, cur, h1, hg, hh, hc, _, hs, ht⟩
  · simp at h1; omega
  · simp at h1
    obtain ⟨rfl, rfl⟩ := h1
    have hs' : cur.size = c := by simpa using hs
    refine ⟨g, cur, rfl, hg, ⟨hh⟩, by omega, hs', fun i hi => ?_⟩
    rw [← ht]
    simp
    rw [List.getElem?_take_of_lt (by omega)]
    simp
theorem Blk.ne {w : World} {g g' : Nat} {cs cs' : Array Value} {T T' : TypeId} (h : Blk w g cs T) (h' : Blk w g' cs' T') (hT : T ≠ T') : g ≠ g' := by
  rintro rfl
  have := h.heap.symm.trans h'.heap
  simp at this
  exact hT this.2
theorem Blk.numsV {F : Nat → Prop} {w : World} {g n c : Nat} {cs : Array Value} {T : TypeId} (h : Blk w g cs T) (hF : F g) (l : List Int) (hn : n = l.length) (hc : n ≤ c) (hcs : ∀ i, i < l.length → cs[i]? = some (.int .u64 (l.getD i 0))) : NumV F w (.slice (some ⟨g, 0, none⟩) n c) l := by
  subst hn
  exact ⟨_, _, rfl, fun _ x hx => by simp at hx; subst hx; exact hF, h.rd .u64 l hc hcs⟩
/-! ### single bits of a byte -/
theorem and_fin : ∀ k : Fin 256, bits .and .u8 (k.val : Int) 1 = (k.val : Int) % 2 := by decide +kernel
theorem and1 (y : Int) (h0 : 0 ≤ y) (h1 : y ≤ 255) : bits .and .u8 y 1 = y % 2 := by
  have := and_fin ⟨y.toNat, by omega⟩
  simp only at this
  rwa [show ((y.toNat : Nat) : Int) = y by omega] at this
theorem and_fin4 : ∀ k : Fin 256, (if (bits .and .u8 (k.val : Int) 4 != 0) = true then (1 : Int) else 0) = (k.val : Int) / 4 % 2 := by decide +kernel
theorem and_fin2 : ∀ k : Fin 256, (if (bits .and .u8 (k.val : Int) 2 != 0) = true then (1 : Int) else 0) = (k.val : Int) / 2 % 2 := by decide +kernel
theorem and_fin1 : ∀ k : Fin 256, (if (bits .and .u8 (k.val : Int) 1 != 0) = true then (1 : Int) else 0) = (k.val : Int) % 2 := by decide +kernel
theorem bit4 (y : Int) (h0 : 0 ≤ y) (h1 : y ≤ 255) : (if (bits .and .u8 y 4 != 0) = true then (1 : Int) else 0) = y / 4 % 2 := by
  have := and_fin4 ⟨y.toNat, by omega⟩
  simp only at this
  rwa [show ((y.toNat : Nat) : Int) = y by omega] at this
theorem bit2 (y : Int) (h0 : 0 ≤ y) (h1 : y ≤ 255) : (if (bits .and .u8 y 2 != 0) = true then (1 : Int) else 0) = y / 2 % 2 := by
  have := and_fin2 ⟨y.toNat, by omega⟩
  simp only at this
  rwa [show ((y.toNat : Nat) : Int) = y by omega] at this
theorem bit1 (y : Int) (h0 : 0 ≤ y) (h1 : y ≤ 255) : (if (bits .and .u8 y 1 != 0) = true then (1 : Int) else 0) = y % 2 := by
  have := and_fin1 ⟨y.toNat, by omega⟩
  simp only at this
  rwa [show ((y.toNat : Nat) : Int) = y by omega] at this
end Go.Proofs.Ytoljdgfbkebgcaa
namespace Go.Proofs.Ytoljdgfbkebgcaa
open Go.RowKit
set_option linter.unusedVariables false
/-- A part up to a number of two bytes. -/
theorem run_cutu {e : TypeId} (A : Option Addr) (n c lo hi : Nat) (ilo ihi : Int) (e1 : ilo = lo) (e2 : ihi = hi) (h1 : lo ≤ hi) (h2 : hi ≤ c)
    (t : TypeId) (ht : Try.prog.underlying t = some (.slice e)) (hs : ∀ W, (sizeOf e).run Try.prog W = .ok 1 W) (W : World) :
    (Instr.slice t (.slice A n c) (some (.int .i64 ilo)) (some (.int .u16 ihi)) none).run Try.prog W = .ok (.slice (cutA A c lo) (hi - lo) (c - lo)) W := by
  subst e1 e2
  have hel : Try.prog.elem t = e := by simp [Program.elem, ht]
  have hu : Try.prog.underlying t = some (.slice (Try.prog.elem t)) := by rw [hel]; exact ht
  rw [run_slice_lh W t A n c hu .i64 .u16 lo hi (by omega) (by omega) (by omega), hel, hs]
  simp [sliced, Result.andThen, cutA]
theorem Bl.boxed6 {w w1 : World} {g : Nat} (hb : Bl w w1) (hg : w.heap.size ≤ g) (u0 u1 u2 u3 u4 u5 : Value) :
    Bl w ((((((w1.setCell ⟨g, 0, none⟩ u0).setCell ⟨g, 1, none⟩ u1).setCell ⟨g, 2, none⟩ u2).setCell ⟨g, 3, none⟩ u3).setCell ⟨g, 4, none⟩ u4).setCell ⟨g, 5, none⟩ u5) :=
  (((((Below.setCell hb hg _).setCell hg _).setCell hg _).setCell hg _).setCell hg _).setCell hg _
/-- A chunk's length, and the length filled up. -/
def chL (l : List Int) : Nat := (be (sub l 2 4)).toNat
def up4 (n : Nat) : Nat := (n + 3) / 4 * 4
theorem chL_int (l : List Int) (hl : By l) : be (sub l 2 4) = (chL l : Int) := by
  have := be_nonneg _ (hl.sub 2 4)
  unfold chL; omega
theorem chL_le (l : List Int) (hl : By l) (h4 : 4 ≤ l.length) : chL l ≤ 65535 := by
  have := be_bd2 (sub l 2 4) (hl.sub _ _) (by rw [sub_length _ _ _ (by omega)])
  unfold chL; omega
/-- The cells of a chunk's head. -/
def chk (A : Option Addr) (n c : Nat) (l : List Int) : Array Value :=
  #[.slice A (up4 (chL l)) c, .slice (cutA A c (up4 (chL l))) (n - up4 (chL l)) (c - up4 (chL l)), .int .u8 (l.getD 0 0), .int .u8 (l.getD 1 0), .int .u16 (be (sub l 2 4)), .int .i64 (up4 (chL l))]
/-- The same at a chunk of data. -/
def chkD (A : Option Addr) (n c : Nat) (l : List Int) : Array Value :=
  #[.slice A 16 c, .slice (cutA A c 16) (n - (up4 (chL l) - chL l) - 16) (c - 16), .int .u8 0, .int .u8 (l.getD 1 0), .int .u16 (be (sub l 2 4)), .int .i64 16]
set_option maxHeartbeats 2000000 in
theorem chunk_short (A : Option Addr) (n c : Nat) (l : List Int) (w : World) (h : Rd .u8 w A n c l) (hl : By l) (h4 : 4 ≤ n) (hL : chL l < 4) :
    Calls Try.prog 89 #[.slice A n c] w fun e w' => (∃ x, e = .returned (.tuple #[.agg #[.slice none 0 0, .slice none 0 0, .int .u8 0, .int .u8 0, .int .u16 0, .int .i64 0], .iface 167 x])) ∧ Bl w w' := by
  have hcap := h.cap
  have s1 := run_cut A n c 2 4 2 4 rfl rfl (by omega) (by omega) 24 Try.underlying24 size5
  have R1 := Lib.hid (h.cutm 2 4 2 (by omega) (by omega))
  have HB := Lib.hid hl
  have e1 := chL_int l hl
  have b1 : be (sub l 2 4) < 4 := by omega
  have b2 := be_nonneg _ (hl.sub 2 4)
  clear h e1
  go_enter Try.func89, Try.ntmps89
  go_wp2_with fail
  go_region_with (go_at_call 91; (with_reducible refine (be16_any _ _ _ _ (R1.out.below (by go_grown)) (HB.out.sub 2 4)).mono ?_); rintro e w1 ⟨rfl, hb1⟩; have k1 := Blk.keep hb1 (Blk.same (Blk.new w _ _) rfl))
  have c1 := k1.cell
  have f1 := k1.frozen
  generalize be (sub l 2 4) = L at *
  go_wp2_with fail
  (with_reducible refine (errNew_any _ _).mono ?_)
  rintro e w2 ⟨rfl, hb2⟩
  have k2 := Blk.keep hb2 k1
  have c2 := k2.cell
  have f2 := k2.frozen
  have B2 : Bl w w2 := (Bl.trans (by go_grown) hb1).trans hb2
  go_wp2_with fail
  refine bodyPost_ret (v := .tuple #[.agg #[.slice none 0 0, .slice none 0 0, .int .u8 0, .int .u8 0, .int .u16 0, .int .i64 0], .iface 167 (.pointer (some ⟨w1.heap.size, 0, none⟩))]) (by simp [results, Try.results89, go_sem, c2]) rfl ⟨⟨_, rfl⟩, Bl.boxed6 B2 (Nat.le_refl _) _ _ _ _ _ _⟩
set_option maxHeartbeats 1000000 in
theorem chunk_any (A : Option Addr) (n c : Nat) (l : List Int) (w : World) (h : Rd .u8 w A n c l) (hl : By l) (h4 : 4 ≤ chL l) (hn : up4 (chL l) ≤ n) (h0 : l.getD 0 0 ≠ 0) (hn2 : n ≤ 2147483647) :
    Calls Try.prog 89 #[.slice A n c] w fun e w' => e = .returned (.tuple #[.agg (chk A n c l), .nilIface]) ∧ Bl w w' := by
  have hcap := h.cap
  have hlen := h.len
  have u4 : 4 ≤ up4 (chL l) := by unfold up4; omega
  have s1 := run_cut A n c 2 4 2 4 rfl rfl (by omega) (by omega) 24 Try.underlying24 size5
  have s2 := run_cut_h A n c (up4 (chL l)) _ rfl (by omega) 24 Try.underlying24 size5
  have s3 := run_cut A n c (up4 (chL l)) n _ _ rfl rfl (by omega) (by omega) 24 Try.underlying24 size5
  have R1 := Lib.hid (h.cutm 2 4 2 (by omega) (by omega))
  have HB := Lib.hid hl
  have e1 := chL_int l hl
  have b1 := chL_le l hl (by omega)
  have e2 : (be (sub l 2 4) + 3) / 4 * 4 = (up4 (chL l) : Int) := by rw [e1]; unfold up4; omega
  have b2 : 4 ≤ be (sub l 2 4) := by omega
  have b3 : be (sub l 2 4) ≤ 65535 := by omega
  obtain ⟨g, o, rfl, hg, hc⟩ := h.at (by omega)
  have d0 := hc 0 (by omega)
  have d1 := hc 1 (by omega)
  simp only [Nat.add_zero] at d0
  unfold chk
  generalize up4 (chL l) = U at *
  generalize HX : be (sub l 2 4) = L at *
  generalize l.getD 0 0 = x0 at *
  generalize l.getD 1 0 = x1 at *
  clear h e1 hc b1 h4
  go_enter Try.func89, Try.ntmps89
  go_wp2_with fail
  go_region_with (go_at_call 91; (with_reducible refine (be16_any _ _ _ _ (R1.out.below (by go_grown)) (HB.out.sub 2 4)).mono ?_); rintro e w1 ⟨rfl, hb1⟩; have k1 := Blk.keep hb1 (Blk.same (Blk.new w _ _) rfl))
  have c1 := k1.cell
  have f1 := k1.frozen
  have z1 := k1.lt
  have d0' := ((Bl.trans (by go_grown) hb1 : Bl w w1).cell (p := ⟨g, o, none⟩) hg).trans d0
  have d1' := ((Bl.trans (by go_grown) hb1 : Bl w w1).cell (p := ⟨g, o + 1, none⟩) hg).trans d1
  have B1 : Bl w w1 := Bl.trans (by go_grown) hb1
  have HX0 := Lib.hid h0
  clear d0 d1 hb1 HX
  go_wp2_with fail
  (with_reducible refine (round_any _ (by omega) (by omega) _).mono ?_)
  rintro e w2 ⟨rfl, rfl⟩
  rw [e2]
  have h0 := HX0.out
  go_wp2_with fail
  go_region
  go_wp2_with fail
  refine bodyPost_ret (v := .tuple #[.agg #[.slice (some ⟨g, o, none⟩) U c, .slice (cutA (some ⟨g, o, none⟩) c U) (n - U) (c - U), .int .u8 x0, .int .u8 x1, .int .u16 L, .int .i64 U], .nilIface]) (by simp [results, Try.results89, go_sem, c1]) rfl ⟨rfl, ?_⟩
  with_reducible exact Below.drew (Bl.boxed6 B1 (Nat.le_refl _) _ _ _ _ _ _)
set_option maxHeartbeats 1000000 in
theorem chunk_data (A : Option Addr) (n c : Nat) (l : List Int) (w : World) (h : Rd .u8 w A n c l) (hl : By l) (h4 : 4 ≤ chL l) (hn : up4 (chL l) ≤ n) (h16 : 16 + (up4 (chL l) - chL l) ≤ n) (h0 : l.getD 0 0 = 0) (hn2 : n ≤ 2147483647) :
    Calls Try.prog 89 #[.slice A n c] w fun e w' => e = .returned (.tuple #[.agg (chkD A n c l), .nilIface]) ∧ Bl w w' := by
  have hcap := h.cap
  have hlen := h.len
  have u4 : 4 ≤ up4 (chL l) := by unfold up4; omega
  have s1 := run_cut A n c 2 4 2 4 rfl rfl (by omega) (by omega) 24 Try.underlying24 size5
  have uK : up4 (chL l) - chL l ≤ 3 := by unfold up4; omega
  have uL : chL l ≤ up4 (chL l) := by unfold up4; omega
  have s2 := run_cut_h A n c 16 16 rfl (by omega) 24 Try.underlying24 size5
  have s3 := run_cut A n c 16 (n - (up4 (chL l) - chL l)) 16 ((n : Int) - ((up4 (chL l) : Int) - be (sub l 2 4))) rfl (by have := chL_int l hl; omega) (by omega) (by omega) 24 Try.underlying24 size5
  have R1 := Lib.hid (h.cutm 2 4 2 (by omega) (by omega))
  have HB := Lib.hid hl
  have e1 := chL_int l hl
  have b1 := chL_le l hl (by omega)
  have e2 : (be (sub l 2 4) + 3) / 4 * 4 = (up4 (chL l) : Int) := by rw [e1]; unfold up4; omega
  have b2 : 4 ≤ be (sub l 2 4) := by omega
  have b3 : be (sub l 2 4) ≤ 65535 := by omega
  obtain ⟨g, o, rfl, hg, hc⟩ := h.at (by omega)
  have d0 := hc 0 (by omega)
  have d1 := hc 1 (by omega)
  simp only [Nat.add_zero] at d0
  unfold chkD
  generalize HD : up4 (chL l) - chL l = D at *
  generalize up4 (chL l) = U at *
  generalize HX : be (sub l 2 4) = L at *
  rw [h0] at *
  generalize l.getD 1 0 = x1 at *
  clear h e1 hc b1 h4 HD uL
  go_enter Try.func89, Try.ntmps89
  go_wp2_with fail
  go_region_with (go_at_call 91; (with_reducible refine (be16_any _ _ _ _ (R1.out.below (by go_grown)) (HB.out.sub 2 4)).mono ?_); rintro e w1 ⟨rfl, hb1⟩; have k1 := Blk.keep hb1 (Blk.same (Blk.new w _ _) rfl))
  have c1 := k1.cell
  have f1 := k1.frozen
  have z1 := k1.lt
  have d0' := ((Bl.trans (by go_grown) hb1 : Bl w w1).cell (p := ⟨g, o, none⟩) hg).trans d0
  have d1' := ((Bl.trans (by go_grown) hb1 : Bl w w1).cell (p := ⟨g, o + 1, none⟩) hg).trans d1
  have B1 : Bl w w1 := Bl.trans (by go_grown) hb1
  clear d0 d1 hb1 HX h0
  go_wp2_with fail
  (with_reducible refine (round_any _ (by omega) (by omega) _).mono ?_)
  rintro e w2 ⟨rfl, rfl⟩
  rw [e2]
  go_wp2_with fail
  go_region
  go_wp2_with fail
  refine bodyPost_ret (v := .tuple #[.agg #[.slice (some ⟨g, o, none⟩) 16 c, .slice (cutA (some ⟨g, o, none⟩) c 16) (n - D - 16) (c - 16), .int .u8 0, .int .u8 x1, .int .u16 L, .int .i64 16], .nilIface]) (by simp [results, Try.results89, go_sem, c1]) rfl ⟨rfl, ?_⟩
  with_reducible exact Below.drew (Bl.boxed6 B1 (Nat.le_refl _) _ _ _ _ _ _)
end Go.Proofs.Ytoljdgfbkebgcaa
namespace Go.Proofs.Ytoljdgfbkebgcaa
open Go.RowKit
set_option linter.unusedVariables false
/-! ### Rows of parts -/
theorem InF.strong {F : Nat → Prop} {k : IntKind} {w : World} {A : Option Addr} {n c : Nat} {l : List Int} (h : Rd k w A n c l) (hA : InF F A n) : InF (fun x => F x ∧ x < w.heap.size) A n := by
  intro hn x hx
  obtain ⟨g, o, e, hg, _⟩ := h.at hn
  subst hx
  simp at e
  subst e
  exact ⟨hA hn _ rfl, hg⟩
theorem NumV.strong {F : Nat → Prop} {w : World} {v : Value} {l : List Int} (h : NumV F w v l) : NumV (fun x => F x ∧ x < w.heap.size) w v l := by
  obtain ⟨A, c, e, hA, r⟩ := h
  exact ⟨A, c, e, InF.strong r hA, r⟩
theorem BytV.strong {F : Nat → Prop} {w : World} {v : Value} {l : List Int} (h : BytV F w v l) : BytV (fun x => F x ∧ x < w.heap.size) w v l := by
  obtain ⟨⟨A, c, e, hA, r⟩, hb⟩ := h
  exact ⟨⟨A, c, e, InF.strong r hA, r⟩, hb⟩
/-- The blocks of F apart from the row's own. -/
def Off (F : Nat → Prop) (v : Value) (w : World) (k : Nat) : Prop := (F k ∧ v.ownBlock ≠ some k) ∧ k < w.heap.size
def PRow (F : Nat → Prop) (B : Nat) (w : World) (v : Value) (ps : List Prt) : Prop :=
  ∃ vs : List Value, w.ownsRow B 57 2 v ps.length vs ∧ ∀ i, i < ps.length → ∃ u0 u1, vs[i * 2]? = some u0 ∧ vs[i * 2 + 1]? = some u1 ∧ NumV (Off F v w) w u0 (ps.getD i Prt.nil).nums ∧ BytV (Off F v w) w u1 (ps.getD i Prt.nil).data
theorem PRow.nil (F : Nat → Prop) (B : Nat) (w : World) : PRow F B w (.slice none 0 0) [] := ⟨[], World.ownsRow_nil _ _ _ _, fun i hi => by simp at hi⟩
theorem PRow.of_own (F : Nat → Prop) {B : Nat} {w : World} {v : Value} (h : w.ownsRow B 57 2 v 0 []) : PRow F B w v [] := ⟨[], h, fun i hi => by simp at hi⟩
theorem PRow.below {F : Nat → Prop} {B : Nat} {w w' : World} {v : Value} {ps : List Prt} (h : PRow F B w v ps) (hb : Bl w w') : PRow F B w' v ps := by
  obtain ⟨vs, ho, he⟩ := h
  refine ⟨vs, own_bl ho hb, fun i hi => ?_⟩
  obtain ⟨u0, u1, e0, e1, h0, h1⟩ := he i hi
  have hm : ∀ k, Off F v w k → Off F v w' k := fun k hk => ⟨hk.1, Nat.lt_of_lt_of_le hk.2 hb.size⟩
  exact ⟨u0, u1, e0, e1, (h0.below hb).mono hm, (h1.below hb).mono hm⟩
theorem els_below {F : Nat → Prop} {w w' : World} {v : Value} {vs : List Value} {ps : List Prt} (h : ∀ i, i < ps.length → ∃ u0 u1, vs[i * 2]? = some u0 ∧ vs[i * 2 + 1]? = some u1 ∧ NumV (Off F v w) w u0 (ps.getD i Prt.nil).nums ∧ BytV (Off F v w) w u1 (ps.getD i Prt.nil).data) (hb : Bl w w') :
    ∀ i, i < ps.length → ∃ u0 u1, vs[i * 2]? = some u0 ∧ vs[i * 2 + 1]? = some u1 ∧ NumV (Off F v w') w' u0 (ps.getD i Prt.nil).nums ∧ BytV (Off F v w') w' u1 (ps.getD i Prt.nil).data := fun i hi => by
  obtain ⟨u0, u1, e0, e1, h0, h1⟩ := h i hi
  have hm : ∀ k, Off F v w k → Off F v w' k := fun k hk => ⟨hk.1, Nat.lt_of_lt_of_le hk.2 hb.size⟩
  exact ⟨u0, u1, e0, e1, (h0.below hb).mono hm, (h1.below hb).mono hm⟩
theorem PRow.app {F : Nat → Prop} {B : Nat} {W w1 : World} {v u0 u1 : Value} {ps : List Prt} {P : Prt} {A : Option Addr} {c : Nat} {vs : List Value}
    (he : ∀ i, i < ps.length → ∃ u0 u1, vs[i * 2]? = some u0 ∧ vs[i * 2 + 1]? = some u1 ∧ NumV (Off F v W) W u0 (ps.getD i Prt.nil).nums ∧ BytV (Off F v W) W u1 (ps.getD i Prt.nil).data)
    (ho : W.ownsRow B 57 2 v ps.length vs)
    (hp : Appd W B 57 2 v (ps.length + 1) (vs ++ [u0, u1]) A c w1) (h0 : NumV (fun k => F k ∧ v.ownBlock ≠ some k) W u0 P.nums) (h1 : BytV (fun k => F k ∧ v.ownBlock ≠ some k) W u1 P.data) :
    PRow F B w1 (.slice A (ps.length + 1) c) (ps ++ [P]) := by
  have hl : vs.length = ps.length * 2 := ho.1
  have hk : KeepF (Off F v W) W w1 := fun k hF hlt => hp.grown.block k hlt (fun e => hF.1.2 e.symm)
  have hm : ∀ k, Off F v W k → Off F (.slice A (ps.length + 1) c) w1 k := fun k hk => by
    refine ⟨⟨hk.1.1, fun e => ?_⟩, Nat.lt_of_lt_of_le hk.2 hp.grown.size⟩
    rcases hp.at_ with h | h
    · exact hk.1.2 (h.symm.trans e)
    · rw [h] at e
      have := hk.2
      simp at e
      omega
  refine ⟨vs ++ [u0, u1], by simpa using hp.own, fun i hi => ?_⟩
  by_cases hlt : i < ps.length
  · obtain ⟨x0, x1, e0, e1, g0, g1⟩ := he i hlt
    refine ⟨x0, x1, by rw [List.getElem?_append_left (by omega)]; exact e0, by rw [List.getElem?_append_left (by omega)]; exact e1, ?_, ?_⟩
    · rw [List.getD_eq_getElem?_getD, List.getElem?_append_left hlt, ← List.getD_eq_getElem?_getD]
      exact (g0.keepF hk).mono hm
    · rw [List.getD_eq_getElem?_getD, List.getElem?_append_left hlt, ← List.getD_eq_getElem?_getD]
      exact (g1.keepF hk).mono hm
  · obtain rfl : i = ps.length := by simp at hi; omega
    refine ⟨u0, u1, by rw [List.getElem?_append_right (by omega), hl, Nat.sub_self]; rfl, by rw [List.getElem?_append_right (by omega), hl, Nat.add_sub_cancel_left]; rfl, ?_, ?_⟩
    · rw [List.getD_eq_getElem?_getD, List.getElem?_append_right (Nat.le_refl _), Nat.sub_self]
      exact (h0.strong.keepF hk).mono hm
    · rw [List.getD_eq_getElem?_getD, List.getElem?_append_right (Nat.le_refl _), Nat.sub_self]
      exact (h1.strong.keepF hk).mono hm
theorem PRow.parts {F : Nat → Prop} {B : Nat} {w : World} {v : Value} {ps : List Prt} (h : PRow F B w v ps) (hF : ∀ k, B ≤ k → k < w.heap.size → F k) : PartsV F w v ps := by
  obtain ⟨vs, ho, he⟩ := h
  obtain ⟨A, c, rfl⟩ := ownsRow_form ho
  have hI := own_inF ho hF ps.length
  rcases ho.2 with ⟨h1, h2⟩ | ⟨g, cap, cur, h1, hg, hh, hc, _, hs, ht⟩
  · simp at h1
    obtain ⟨rfl, _, rfl⟩ := h1
    exact ⟨none, 0, rfl, by omega, hI, fun i hi => by omega⟩
  · simp at h1
    obtain ⟨rfl, rfl⟩ := h1
    have k : Blk w g cur 57 := ⟨hh⟩
    refine ⟨_, c, rfl, hc, hI, fun i hi => ?_⟩
    obtain ⟨u0, u1, e0, e1, g0, g1⟩ := he i hi
    refine ⟨g, 0, u0, u1, rfl, ?_, ?_, g0.mono fun k hk => hk.1.1, g1.mono fun k hk => hk.1.1⟩
    · rw [Nat.zero_add, k.cell, ← e0, ← ht, List.getElem?_take_of_lt (by omega), Array.getElem?_toList]
    · rw [Nat.zero_add, k.cell, ← e1, ← ht, List.getElem?_take_of_lt (by omega), Array.getElem?_toList]
/-! ### What parameters are -/
def prmAt (l : List Int) : Prt := ⟨[be (sub l 0 2), (chL l : Int), (up4 (chL l) : Int)], sub l 4 (chL l)⟩
/-- Of n rounds at most; none where the bytes are no parameters. -/
def prms : Nat → List Int → Option (List Prt)
  | 0, _ => none
  | f + 1, l => if l.length = 0 then some [] else if l.length < 4 ∨ chL l < 4 ∨ l.length < chL l then none else (prms f (l.drop (min (up4 (chL l)) l.length))).map (prmAt l :: ·)
theorem prms_mono (f f' : Nat) (l : List Int) (h : l.length < f) (hf : f ≤ f') : prms f' l = prms f l := by
  induction f generalizing f' l with
  | zero => omega
  | succ f ih =>
    obtain ⟨k, rfl⟩ : ∃ k, f' = k + 1 := ⟨f' - 1, by omega⟩
    unfold prms
    split
    · rfl
    · split
      · rfl
      · rename_i h1 h2
        have hu : 4 ≤ up4 (chL l) := by unfold up4; omega
        rw [ih k _ (by rw [List.length_drop]; omega) (by omega)]
/-- The parameters that bytes are. -/
def prmsOf (l : List Int) : Option (List Prt) := prms (l.length + 1) l
theorem prmsOf_nil (l : List Int) (h : l.length = 0) : prmsOf l = some [] := by unfold prmsOf prms; rw [if_pos h]
theorem prmsOf_bad (l : List Int) (h0 : l.length ≠ 0) (h : l.length < 4 ∨ chL l < 4 ∨ l.length < chL l) : prmsOf l = none := by unfold prmsOf prms; rw [if_neg h0, if_pos h]
theorem prmsOf_cons (l : List Int) (h4 : 4 ≤ l.length) (hc : 4 ≤ chL l) (hl : chL l ≤ l.length) : prmsOf l = (prmsOf (l.drop (min (up4 (chL l)) l.length))).map (prmAt l :: ·) := by
  have hu : 4 ≤ up4 (chL l) := by unfold up4; omega
  unfold prmsOf
  rw [prms, if_neg (by omega), if_neg (by omega)]
  rw [prms_mono ((l.drop (min (up4 (chL l)) l.length)).length + 1) l.length _ (by omega) (by rw [List.length_drop]; omega)]
/-- Whether bytes are parameters, each of them filled up. -/
def fulls : Nat → List Int → Bool
  | 0, _ => false
  | f + 1, l => if l.length = 0 then true else if l.length < 4 ∨ chL l < 4 ∨ l.length < up4 (chL l) then false else fulls f (l.drop (up4 (chL l)))
theorem fulls_mono (f f' : Nat) (l : List Int) (h : l.length < f) (hf : f ≤ f') : fulls f' l = fulls f l := by
  induction f generalizing f' l with
  | zero => omega
  | succ f ih =>
    obtain ⟨k, rfl⟩ : ∃ k, f' = k + 1 := ⟨f' - 1, by omega⟩
    unfold fulls
    split
    · rfl
    · split
      · rfl
      · rename_i h1 h2
        have hu : 4 ≤ up4 (chL l) := by unfold up4; omega
        rw [ih k _ (by rw [List.length_drop]; omega) (by omega)]
def fullOf (l : List Int) : Bool := fulls (l.length + 1) l
theorem fullOf_nil (l : List Int) (h : l.length = 0) : fullOf l = true := by unfold fullOf fulls; rw [if_pos h]
theorem fullOf_bad (l : List Int) (h0 : l.length ≠ 0) (h : l.length < 4 ∨ chL l < 4 ∨ l.length < up4 (chL l)) : fullOf l = false := by unfold fullOf fulls; rw [if_neg h0, if_pos h]
theorem fullOf_cons (l : List Int) (h4 : 4 ≤ l.length) (hc : 4 ≤ chL l) (hl : up4 (chL l) ≤ l.length) : fullOf l = fullOf (l.drop (up4 (chL l))) := by
  have hu : 4 ≤ up4 (chL l) := by unfold up4; omega
  unfold fullOf
  rw [fulls, if_neg (by omega), if_neg (by omega)]
  rw [fulls_mono ((l.drop (up4 (chL l))).length + 1) l.length _ (by omega) (by rw [List.length_drop]; omega)]
/-- Of bytes whose number is a multiple of four: filled up means parameters. -/
theorem full_prms (n : Nat) (l : List Int) (hn : l.length ≤ n) (h4 : l.length % 4 = 0) : fullOf l = (prmsOf l).isSome := by
  induction n generalizing l with
  | zero => rw [fullOf_nil l (by omega), prmsOf_nil l (by omega)]; rfl
  | succ n ih =>
    by_cases h0 : l.length = 0
    · rw [fullOf_nil l h0, prmsOf_nil l h0]; rfl
    · have hiff : l.length < up4 (chL l) ↔ l.length < chL l := by unfold up4; omega
      by_cases hb : l.length < 4 ∨ chL l < 4 ∨ l.length < chL l
      · rw [fullOf_bad l h0 (by omega), prmsOf_bad l h0 hb]; rfl
      · have hu : 4 ≤ up4 (chL l) := by unfold up4; omega
        have hle : up4 (chL l) ≤ l.length := by omega
        rw [fullOf_cons l (by omega) (by omega) hle, prmsOf_cons l (by omega) (by omega) (by omega), Nat.min_eq_left hle, Option.isSome_map]
        exact ih _ (by rw [List.length_drop]; omega) (by rw [List.length_drop]; unfold up4; omega)
end Go.Proofs.Ytoljdgfbkebgcaa
namespace Go.Proofs.Ytoljdgfbkebgcaa
open Go.RowKit
set_option linter.unusedVariables false
set_option maxHeartbeats 2000000 in
theorem are_any (A : Option Addr) (n c : Nat) (l : List Int) (w : World) (h : Rd .u8 w A n c l) (hl : By l) (hn : n ≤ 2147483647) :
    Calls Try.prog 75 #[.slice A n c] w fun e w' => e = .returned (.bool (fullOf l)) ∧ ∃ q, w' = w.drewN q := by
  have H := Lib.hid h
  have HB := Lib.hid hl
  clear h hl
  go_enter Try.func75, Try.ntmps75
  go_wp2_with fail
  go_loopw [0] (fun b wr => Hid (∃ (A' : Option Addr) (n' c' : Nat) (l' : List Int) (q : Nat), b = .slice A' n' c' ∧ Rd .u8 w A' n' c' l' ∧ By l' ∧ n' ≤ n ∧ wr = w.drewN q ∧ fullOf l = fullOf l')) (fun b _ => match b with | .slice _ n _ => n | _ => 0)
  case atStart => exact Lib.hid ⟨A, n, c, l, 0, rfl, H.out, HB.out, Nat.le_refl _, rfl, rfl⟩
  case round =>
    obtain ⟨A', n', c', l', q, rfl, h, hl, hnn, rfl, he⟩ := hrel.out
    clear hrel
    have hcap := h.cap
    have hlen := h.len
    by_cases h0 : n' = 0
    · have HE := Lib.hid (he.trans (fullOf_nil l' (by omega)))
      subst h0
      clear h hl he
      go_wp2_with fail
      go_ret
      exact ⟨by rw [HE.out]; rfl, q, rfl⟩
    have h0' : (0 : Int) < (n' : Int) := by omega
    by_cases h4 : n' < 4
    · have h4' : (n' : Int) < 4 := by omega
      have HE := Lib.hid (he.trans (fullOf_bad l' (by omega) (.inl (by omega))))
      clear h hl he
      go_wp2_with fail
      go_ret
      exact ⟨by rw [HE.out]; rfl, q, rfl⟩
    have h4' : (4 : Int) ≤ (n' : Int) := by omega
    have b1 := be_bd2 (sub l' 2 4) (hl.sub _ _) (by rw [sub_length _ _ _ (by omega)])
    have e1 := chL_int l' hl
    have E1 := Lib.hid e1
    have R := Lib.hid h
    have HB1 := Lib.hid hl
    have HU : Hid ((be (sub l' 2 4) + 3) / 4 * 4 = ((up4 (chL l') : Nat) : Int)) := Lib.hid (by unfold up4; omega)
    by_cases hV : chL l' < 4
    · have HE := Lib.hid (he.trans (fullOf_bad l' (by omega) (.inr (.inl hV))))
      have hV' : be (sub l' 2 4) < 4 := by omega
      clear h hl he e1 hV
      generalize HG : be (sub l' 2 4) = G at *
      go_wp2_with fail
      (with_reducible refine (number_any _ _ _ 2 _ _ (R.out.below ((Bl.refl w).drewN _)) HB1.out (by omega) (by omega) 2 rfl).mono ?_)
      rintro e w2 ⟨rfl, q2, rfl⟩
      rw [HG]
      go_wp2_with fail
      go_ret
      exact ⟨by rw [HE.out]; rfl, _, rfl⟩
    by_cases hL : n' < up4 (chL l')
    · have HE := Lib.hid (he.trans (fullOf_bad l' (by omega) (.inr (.inr (by omega)))))
      have hV' : 4 ≤ be (sub l' 2 4) := by omega
      have hL' : (n' : Int) < (be (sub l' 2 4) + 3) / 4 * 4 := by have := HU.out; omega
      clear h hl he e1 hV hL
      generalize HG : be (sub l' 2 4) = G at *
      go_wp2_with fail
      (with_reducible refine (number_any _ _ _ 2 _ _ (R.out.below ((Bl.refl w).drewN _)) HB1.out (by omega) (by omega) 2 rfl).mono ?_)
      rintro e w2 ⟨rfl, q2, rfl⟩
      rw [HG]
      go_wp2_with fail
      (with_reducible refine (number_any _ _ _ 2 _ _ (R.out.below ((Bl.refl w).drewN _)) HB1.out (by omega) (by omega) 2 rfl).mono ?_)
      rintro e w2 ⟨rfl, q3, rfl⟩
      rw [HG]
      go_wp2_with fail
      (with_reducible refine (iup_any _ (by omega) (by omega) _).mono ?_)
      rintro e w2 ⟨rfl, rfl⟩
      go_wp2_with fail
      go_ret
      exact ⟨by rw [HE.out]; rfl, _, rfl⟩
    have HE := Lib.hid (he.trans (fullOf_cons l' (by omega) (by omega) (by omega)))
    have hV' : 4 ≤ be (sub l' 2 4) := by omega
    have hL' : (be (sub l' 2 4) + 3) / 4 * 4 ≤ (n' : Int) := by have := HU.out; omega
    have s3 := run_cut_l A' n' c' (up4 (chL l')) _ HU.out (by omega) 24 Try.underlying24 size5
    have R3 := Lib.hid (h.cut (up4 (chL l')) n' (by omega) (Nat.le_refl _))
    have hu4 : 4 ≤ up4 (chL l') := by unfold up4; omega
    clear h hl he e1 hV hL
    generalize HG : be (sub l' 2 4) = G at *
    go_wp2_with fail
    (with_reducible refine (number_any _ _ _ 2 _ _ (R.out.below ((Bl.refl w).drewN _)) HB1.out (by omega) (by omega) 2 rfl).mono ?_)
    rintro e w2 ⟨rfl, q2, rfl⟩
    rw [HG]
    go_wp2_with fail
    (with_reducible refine (number_any _ _ _ 2 _ _ (R.out.below ((Bl.refl w).drewN _)) HB1.out (by omega) (by omega) 2 rfl).mono ?_)
    rintro e w2 ⟨rfl, q3, rfl⟩
    rw [HG]
    go_wp2_with fail
    (with_reducible refine (iup_any _ (by omega) (by omega) _).mono ?_)
    rintro e w2 ⟨rfl, rfl⟩
    go_wp2_with fail
    (with_reducible refine (number_any _ _ _ 2 _ _ (R.out.below ((Bl.refl w).drewN _)) HB1.out (by omega) (by omega) 2 rfl).mono ?_)
    rintro e w2 ⟨rfl, q4, rfl⟩
    rw [HG]
    go_wp2_with fail
    (with_reducible refine (iup_any _ (by omega) (by omega) _).mono ?_)
    rintro e w2 ⟨rfl, rfl⟩
    clear s3
    have s3 := run_cut_l A' n' c' (up4 (chL l')) ((G + 3) / 4 * 4) HU.out (by have := HU.out; omega) 24 Try.underlying24 size5
    go_wp2_with fail
    have es : sub l' (up4 (chL l')) n' = l'.drop (up4 (chL l')) := by rw [← hlen]; simp [sub]
    rw [es] at R3
    have hbd : By (l'.drop (up4 (chL l'))) := by rw [← es]; exact HB1.out.sub _ _
    generalize up4 (chL l') = U at *
    refine ⟨Lib.hid ⟨cutA A' c' U, n' - U, c' - U, l'.drop U, _, rfl, R3.out, hbd, by omega, rfl, HE.out⟩, by simp only; omega⟩
end Go.Proofs.Ytoljdgfbkebgcaa
