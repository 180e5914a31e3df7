/- The worlds of laws.FnChunks' loop: the bytes, the layer that is wanted, its parts. How many parts a packet has. laws.FnChunks is true. What is known of a head of twelve bytes and of a list of chunks that came in. -/
import Derived.Test.YtoljdgfbkebgcaaPc01
import Derived.Test.YtoljdgfbkebgcaaPq07
import Derived.Test.YtoljdgfbkebgcaaPq08
import Derived.Test.YtoljdgfbkebgcaaPq18
import Derived.Test.YtoljdgfbkebgcaaPc02
import Derived.Test.YtoljdgfbkebgcaaPq03
import Derived.Test.YtoljdgfbkebgcaaPq02
import Derived.Test.YtoljdgfbkebgcaaPq04
import Derived.Deep.DeepCutAuto
import Derived.Deep.Slices
import Derived.ChangeSlices
import Derived.OpenShut
namespace Go.Proofs.Ytoljdgfbkebgcaa
open Go.RowKit
set_option linter.unusedVariables false
/-- A row of one's own, where its block is as it was. -/
theorem own_keep {w w' : World} {B e sz n : Nat} {v : Value} {xs : List Value} (h : w.ownsRow B e sz v n xs) (hk : ∀ k, v.ownBlock = some k → k < w.heap.size → w'.heap[k]? = w.heap[k]?) : w'.ownsRow B e sz v n xs := by
  refine ⟨h.1, ?_⟩
  rcases h.2 with h2 | ⟨g, cap, cur, h1, h2, h3, h4⟩
  · exact .inl h2
  · have hl : g < w.heap.size := (Array.getElem?_eq_some_iff.1 h3).1
    exact .inr ⟨g, cap, cur, h1, h2, (hk g (by rw [h1]; rfl) hl).trans h3, h4⟩
/-- The block of a row of one's own has the row's type. -/
theorem own_type {w : World} {B e sz n g : Nat} {v : Value} {xs : List Value} {cs : Array Value} {T : TypeId} (h : w.ownsRow B e sz v n xs) (k : Blk w g cs T) (hT : e ≠ T) : v.ownBlock ≠ some g := by
  intro he
  rcases h.2 with ⟨h1, h2⟩ | ⟨g', cap, cur, h1, _, hh, _⟩
  · rw [h1] at he
    simp [Value.ownBlock] at he
  · rw [h1] at he
    simp [Value.ownBlock] at he
    subst he
    have := hh.symm.trans k.heap
    simp at this
    exact hT this.2
theorem own_apart {w : World} {B1 B2 e1 e2 s1 s2 n1 n2 : Nat} {v1 v2 : Value} {x1 x2 : List Value} (h1 : w.ownsRow B1 e1 s1 v1 n1 x1) (h2 : w.ownsRow B2 e2 s2 v2 n2 x2) (hT : e1 ≠ e2) (k : Nat) (h : v2.ownBlock = some k) : v1.ownBlock ≠ some k := by
  rcases h2.2 with ⟨h3, h4⟩ | ⟨g', cap, cur, h3, _, hh, _⟩
  · rw [h3] at h
    simp [Value.ownBlock] at h
  · rw [h3] at h
    simp [Value.ownBlock] at h
    subst h
    exact own_type h1 ⟨hh⟩ hT
theorem PRow.mono' {F G : Nat → Prop} {B : Nat} {w : World} {v : Value} {ps : List Prt} (h : PRow F B w v ps) (hFG : ∀ k, k < w.heap.size → F k → G k) : PRow G B w v ps := by
  obtain ⟨vs, ho, he⟩ := h
  refine ⟨vs, ho, fun j hj => ?_⟩
  obtain ⟨u0, u1, e0, e1, h0, h1⟩ := he j hj
  exact ⟨u0, u1, e0, e1, h0.mono fun k hk => ⟨⟨hFG k hk.2 hk.1.1, hk.1.2⟩, hk.2⟩, h1.mono fun k hk => ⟨⟨hFG k hk.2 hk.1.1, hk.1.2⟩, hk.2⟩⟩
theorem PRow.keep {F : Nat → Prop} {B : Nat} {w w' : World} {v : Value} {ps : List Prt} (h : PRow F B w v ps) (hk : ∀ k, v.ownBlock = some k ∨ F k → k < w.heap.size → w'.heap[k]? = w.heap[k]?) (hs : w.heap.size ≤ w'.heap.size) : PRow F B w' v ps := by
  obtain ⟨vs, ho, he⟩ := h
  refine ⟨vs, own_keep ho fun k h1 h2 => hk k (.inl h1) h2, fun j hj => ?_⟩
  obtain ⟨u0, u1, e0, e1, h0, h1⟩ := he j hj
  have hm : ∀ k, Off F v w k → Off F v w' k := fun k hk => ⟨hk.1, Nat.lt_of_lt_of_le hk.2 hs⟩
  have hkf : KeepF (Off F v w) w w' := fun k hF hlt => hk k (.inr hF.1.1) hlt
  exact ⟨u0, u1, e0, e1, (h0.keepF hkf).mono hm, (h1.keepF hkf).mono hm⟩
/-- The blocks apart from the layer's own and from the bytes'. -/
abbrev Fc (a g : Nat) (s : Value) (k : Nat) : Prop := (a ≤ k ∧ k ≠ g) ∧ s.ownBlock ≠ some k
structure ChR (w : World) (hl : List Int) (g6 BS : Nat) (v0 s5 : Value) (bs : List Int) (v2 : Value) (ps : List Prt) (wr : World) : Prop where
  own : wr.ownsRow w.heap.size 5 1 s5 (12 + bs.length) ((hl ++ bs).map (Value.int .u8))
  kg : Blk wr g6 #[v0, .slice none 0 0, v2, .slice none 0 0] 35
  nv : NumV (fun k => Fc w.heap.size g6 s5 k ∧ k < BS) wr v0 (hdNums hl)
  row : PRow (Fc w.heap.size g6 s5) BS wr v2 ps
  bl : Bl w wr
  sz : BS ≤ wr.heap.size
  g6h : w.heap.size ≤ g6 ∧ g6 < BS
theorem ChR.below {w wr wr' : World} {hl bs : List Int} {g6 BS : Nat} {v0 s5 v2 : Value} {ps : List Prt} (h : ChR w hl g6 BS v0 s5 bs v2 ps wr) (hb : Bl wr wr') : ChR w hl g6 BS v0 s5 bs v2 ps wr' :=
  ⟨own_bl h.own hb, Blk.keep hb h.kg, h.nv.below hb, h.row.below hb, h.bl.trans hb, Nat.le_trans h.sz hb.size, h.g6h⟩
/-- A part is put behind the parts. -/
theorem ChR.part {w W w7 : World} {hl bs con : List Int} {g6 BS BW gN c2 c5 : Nat} {v0 s5 u1 : Value} {ps : List Prt} {A2 A5 : Option Addr} {x0 x1 N : Int} {vs : List Value} (h : ChR w hl g6 BS v0 s5 bs (.slice A2 ps.length c2) ps W)
    (ho : W.ownsRow BS 57 2 (.slice A2 ps.length c2) ps.length vs)
    (hes : ∀ i, i < ps.length → ∃ u0 u1, vs[i * 2]? = some u0 ∧ vs[i * 2 + 1]? = some u1 ∧ NumV (Off (Fc w.heap.size g6 s5) (.slice A2 ps.length c2) W) W u0 (ps.getD i Prt.nil).nums ∧ BytV (Off (Fc w.heap.size g6 s5) (.slice A2 ps.length c2) W) W u1 (ps.getD i Prt.nil).data)
    (hBW : BS ≤ BW) (hown : ∀ k, BW ≤ k → s5.ownBlock ≠ some k ∧ (Value.slice A2 ps.length c2).ownBlock ≠ some k)
    (kn : Blk W gN #[.int .u64 x0, .int .u64 x1, .int .u64 N] 26) (hgN : BW ≤ gN) (bv : BytV (fun k => BW ≤ k) W u1 con)
    (hp : Appd W BS 57 2 (.slice A2 ps.length c2) (ps.length + 1) (vs ++ [.slice (some ⟨gN, 0, none⟩) 3 3, u1]) A5 c5 w7) :
    ChR w hl g6 BS v0 s5 bs (.slice A5 (ps.length + 1) c5) (ps ++ [⟨[x0, x1, N], con⟩]) (w7.setCell ⟨g6, 2, none⟩ (.slice A5 (ps.length + 1) c5)) := by
  obtain ⟨hg1, hg2⟩ := h.g6h
  have hlt : ∀ k, (Value.slice A2 ps.length c2).ownBlock = some k → BS ≤ k ∧ k < W.heap.size := fun k hk => ho.lt k hk
  have hon : ∀ k, k < BS → (Value.slice A2 ps.length c2).ownBlock ≠ some k := fun k hk e => by have := hlt k e; omega
  have hF : ∀ k, BW ≤ k → Fc w.heap.size g6 s5 k ∧ (Value.slice A2 ps.length c2).ownBlock ≠ some k := fun k hk => ⟨⟨⟨by omega, by omega⟩, (hown k hk).1⟩, (hown k hk).2⟩
  have h0n : NumV (fun k => Fc w.heap.size g6 s5 k ∧ (Value.slice A2 ps.length c2).ownBlock ≠ some k) W (.slice (some ⟨gN, 0, none⟩) 3 3) [x0, x1, N] := NumV.of_block _ (hF gN hgN) kn.heap rfl rfl
  have hrow := PRow.app (P := ⟨[x0, x1, N], con⟩) hes ho hp h0n (bv.mono hF)
  have kg7 := hp.blk h.kg (hon g6 hg2)
  have own7 := own_keep h.own (w' := w7) fun k h1 h2 => hp.grown.block k h2 (fun e => own_apart ho h.own (by decide) k h1 e.symm)
  have B7 : Bl w w7 := Below.grown h.bl hp.grown h.bl.size (fun k hk => by have := hlt k hk; omega)
  have nv7 := h.nv.keepF (w' := w7) (fun k hF hk => hp.grown.block k hk (fun e => hon k hF.2 e.symm))
  have kg8 := kg7.set 2 (.slice A5 (ps.length + 1) c5)
  refine ⟨?_, by simpa using kg8, nv7.keepF ((KeepF.refl _ w7).setCell (p := ⟨g6, 2, none⟩) (fun h => h.1.1.2 rfl) _), hrow.set kg7 (by decide) (fun h => h.1.2 rfl) 2 _, Below.setCell B7 hg1 _, ?_, h.g6h⟩
  · exact own_set own7 kg7 (by decide) 2 _
  · have := hp.grown.size
    have := h.sz
    simp
    omega
/-- Bytes are put behind the bytes. -/
theorem ChR.bytes {w W w8 : World} {hl bs x : List Int} {g6 BS c7 m : Nat} {v0 s5 v2 : Value} {ps : List Prt} {A7 : Option Addr} (h : ChR w hl g6 BS v0 s5 bs v2 ps W) (hm : m = x.length)
    (hp : Appd W w.heap.size 5 1 s5 (12 + bs.length + m) ((hl ++ bs).map (Value.int .u8) ++ x.map (Value.int .u8)) A7 c7 w8) :
    ChR w hl g6 BS v0 (.slice A7 (12 + bs.length + m) c7) (bs ++ x) v2 ps w8 := by
  subst hm
  obtain ⟨hg1, hg2⟩ := h.g6h
  obtain ⟨vs, ho, _⟩ := h.row
  have hown := hp.own
  have hF : ∀ k, k < W.heap.size → Fc w.heap.size g6 s5 k → Fc w.heap.size g6 (.slice A7 (12 + bs.length + x.length) c7) k := fun k hk hF => by
    refine ⟨hF.1, fun e => ?_⟩
    rcases hp.at_ with h1 | h1
    · exact hF.2 (h1.symm.trans e)
    · rw [h1] at e
      simp at e
      omega
  have hgr : ∀ k, Fc w.heap.size g6 s5 k → k < W.heap.size → w8.heap[k]? = W.heap[k]? := fun k hF hk => hp.grown.block k hk (fun e => hF.2 e.symm)
  have hsz := h.sz
  refine ⟨?_, hp.blk h.kg (own_type h.own h.kg (by decide)), ?_, ?_, Below.grown h.bl hp.grown h.bl.size (fun k hk => (h.own.lt k hk).1), Nat.le_trans h.sz hp.grown.size, h.g6h⟩
  · have e : (hl ++ (bs ++ x)).map (Value.int .u8) = (hl ++ bs).map (Value.int .u8) ++ x.map (Value.int .u8) := by simp
    have e2 : 12 + (bs ++ x).length = 12 + bs.length + x.length := by simp; omega
    rw [e, e2]
    exact hown
  · exact (h.nv.keepF (w' := w8) fun k hF hk => hgr k hF.1 hk).mono fun k hk => ⟨hF k (by omega) hk.1, hk.2⟩
  · have hr := (h.row.mono' (G := fun k => Fc w.heap.size g6 s5 k ∧ Fc w.heap.size g6 (.slice A7 (12 + bs.length + x.length) c7) k) fun k hk h1 => ⟨h1, hF k hk h1⟩).keep (w' := w8) (fun k hk hlt => hk.elim (fun h1 => hp.grown.block k hlt (fun e => own_apart h.own ho (by decide) k h1 e.symm)) (fun h1 => hgr k h1.1 hlt)) hp.grown.size
    exact hr.mono fun k hk => hk.2
end Go.Proofs.Ytoljdgfbkebgcaa
namespace Go.Proofs.Ytoljdgfbkebgcaa
open Go.RowKit
set_option linter.unusedVariables false
/-- How many parts there are, and numbers in each. -/
theorem PktN.small (k : Nat) : ∀ (l : List Int) (ps : List Prt) (pay : List Int), PktN k l ps pay → ps.length ≤ l.length ∧ ∀ p ∈ ps, p.nums.length = 3 := by
  induction k with
  | zero =>
    rintro l ps pay ⟨_, rfl, _⟩
    exact ⟨by simp, fun p hp => by simp at hp⟩
  | succ k ih =>
    intro l ps pay h
    rcases h with ⟨_, rfl, _⟩ | ⟨h0, _, L, hc, h⟩
    · exact ⟨by simp, fun p hp => by simp at hp⟩
    · have hp := payOf_len hc
      rcases h with ⟨_, rfl, _⟩ | ⟨_, qs, rfl, h⟩
      · exact ⟨by simp; omega, fun p hp => by simp at hp; subst hp; rfl⟩
      · obtain ⟨h1, h2⟩ := ih _ _ _ h
        refine ⟨by simp; omega, fun p hp => ?_⟩
        rcases List.mem_cons.1 hp with rfl | hp
        · rfl
        · exact h2 p hp
theorem Pkt.small {l : List Int} {ps : List Prt} {pay : List Int} (h : Pkt l ps pay) : ps.length ≤ l.length ∧ ∀ p ∈ ps, p.nums.length = 3 := by
  obtain ⟨k, h⟩ := h
  exact PktN.small k l ps pay h
end Go.Proofs.Ytoljdgfbkebgcaa
namespace Go.Proofs.Ytoljdgfbkebgcaa
open Go.RowKit
set_option linter.unusedVariables false
abbrev L4 (v0 : Value) : Array Value := #[v0, .slice none 0 0, .slice none 0 0, .slice none 0 0]
abbrev L4' (v0 v2 : Value) : Array Value := #[v0, .slice none 0 0, v2, .slice none 0 0]
theorem sub_left (a b : List Int) (lo hi : Nat) (h : hi ≤ a.length) : sub (a ++ b) lo hi = sub a lo hi := by
  unfold sub
  rw [List.take_append_of_le_length h]
theorem hdNums_app (hl bs : List Int) (h : hl.length = 12) : hdNums (hl ++ bs) = hdNums hl := by
  unfold hdNums
  rw [sub_left _ _ _ _ (by omega), sub_left _ _ _ _ (by omega), sub_left _ _ _ _ (by omega), sub_left _ _ _ _ (by omega)]
theorem ck_relA (W : World) (N0 N1 N2 N3 : Int) : Hid (∃ g6 An cn, Value.pointer (some ⟨W.heap.size + 1, 0, none⟩) = .pointer (some ⟨g6, 0, none⟩) ∧ Bl W ((W.alloc (.cells #[.int .u64 N0, .int .u64 N1, .int .u64 N2, .int .u64 N3] 26)).alloc (.cells #[.slice (some ⟨W.heap.size, 0, none⟩) 4 4, .slice none 0 0, .slice none 0 0, .slice none 0 0] 35)).drew ∧ W.heap.size ≤ g6 ∧
    g6 < ((W.alloc (.cells #[.int .u64 N0, .int .u64 N1, .int .u64 N2, .int .u64 N3] 26)).alloc (.cells #[.slice (some ⟨W.heap.size, 0, none⟩) 4 4, .slice none 0 0, .slice none 0 0, .slice none 0 0] 35)).drew.heap.size ∧
    Blk ((W.alloc (.cells #[.int .u64 N0, .int .u64 N1, .int .u64 N2, .int .u64 N3] 26)).alloc (.cells #[.slice (some ⟨W.heap.size, 0, none⟩) 4 4, .slice none 0 0, .slice none 0 0, .slice none 0 0] 35)).drew g6 (L4 (.slice An 4 cn)) 35 ∧
    NumV (fun k => W.heap.size ≤ k ∧ k ≠ g6) ((W.alloc (.cells #[.int .u64 N0, .int .u64 N1, .int .u64 N2, .int .u64 N3] 26)).alloc (.cells #[.slice (some ⟨W.heap.size, 0, none⟩) 4 4, .slice none 0 0, .slice none 0 0, .slice none 0 0] 35)).drew (.slice An 4 cn) [N0, N1, N2, N3]) :=
  Lib.hid ⟨_, _, _, rfl, (show Bl W ((W.alloc (.cells #[.int .u64 N0, .int .u64 N1, .int .u64 N2, .int .u64 N3] 26)).alloc (.cells #[.slice (some ⟨W.heap.size, 0, none⟩) 4 4, .slice none 0 0, .slice none 0 0, .slice none 0 0] 35)) by go_grown).drew, by omega, by simp, (Blk.newAt (W.alloc _) _ _ (W.heap.size + 1) (by simp)).same rfl,
    NumV.of_block _ ⟨by omega, by omega⟩ (((Blk.new W #[.int .u64 N0, .int .u64 N1, .int .u64 N2, .int .u64 N3] 26).alloc _).same rfl).heap rfl rfl⟩
theorem ck_relB (W : World) (N0 N1 N2 N3 : Int) : Hid (∃ g6 An cn, Value.pointer (some ⟨W.heap.size, 0, none⟩) = .pointer (some ⟨g6, 0, none⟩) ∧ Bl W ((W.alloc (.cells #[.slice (some ⟨W.heap.size + 1, 0, none⟩) 4 4, .slice none 0 0, .slice none 0 0, .slice none 0 0] 35)).alloc (.cells #[.int .u64 N0, .int .u64 N1, .int .u64 N2, .int .u64 N3] 26)).drew ∧ W.heap.size ≤ g6 ∧
    g6 < ((W.alloc (.cells #[.slice (some ⟨W.heap.size + 1, 0, none⟩) 4 4, .slice none 0 0, .slice none 0 0, .slice none 0 0] 35)).alloc (.cells #[.int .u64 N0, .int .u64 N1, .int .u64 N2, .int .u64 N3] 26)).drew.heap.size ∧
    Blk ((W.alloc (.cells #[.slice (some ⟨W.heap.size + 1, 0, none⟩) 4 4, .slice none 0 0, .slice none 0 0, .slice none 0 0] 35)).alloc (.cells #[.int .u64 N0, .int .u64 N1, .int .u64 N2, .int .u64 N3] 26)).drew g6 (L4 (.slice An 4 cn)) 35 ∧
    NumV (fun k => W.heap.size ≤ k ∧ k ≠ g6) ((W.alloc (.cells #[.slice (some ⟨W.heap.size + 1, 0, none⟩) 4 4, .slice none 0 0, .slice none 0 0, .slice none 0 0] 35)).alloc (.cells #[.int .u64 N0, .int .u64 N1, .int .u64 N2, .int .u64 N3] 26)).drew (.slice An 4 cn) [N0, N1, N2, N3]) :=
  Lib.hid ⟨_, _, _, rfl, (show Bl W ((W.alloc (.cells #[.slice (some ⟨W.heap.size + 1, 0, none⟩) 4 4, .slice none 0 0, .slice none 0 0, .slice none 0 0] 35)).alloc (.cells #[.int .u64 N0, .int .u64 N1, .int .u64 N2, .int .u64 N3] 26)) by go_grown).drew, by omega, by simp; omega, ((Blk.new W _ _).alloc _).same rfl,
    NumV.of_block _ ⟨by omega, by omega⟩ ((Blk.newAt (W.alloc _) #[.int .u64 N0, .int .u64 N1, .int .u64 N2, .int .u64 N3] 26 (W.heap.size + 1) (by simp)).same rfl).heap rfl rfl⟩
set_option maxHeartbeats 4000000 in
set_option maxRecDepth 100000 in
theorem chunks_law (hl : List Int) (cs : Array Value) (hcs : cs = (hl.map (Value.int .u8)).toArray) (h12 : hl.length = 12) (hby : By hl) (A : Option Addr) (n c : Nat) (w : World) (h : CkRow w A n c) :
    Calls Try.prog 19 #[.agg cs, .slice A n c] w fun e w' => e = .returned (.bool true) ∧ Bl w w' := by
  have HK := Lib.hid h
  have HB := Lib.hid hby
  have HR := Lib.hid (show Rd .u8 (w.alloc (.cells cs 47)) (some ⟨w.heap.size, 0, none⟩) 12 12 hl from by
    have k := Blk.rd .u8 (c := 12) (Blk.new w cs 47) hl (by omega) (fun i hi => by rw [hcs]; exact cells_getD .u8 hl i hi)
    rwa [h12] at k)
  clear h hby hcs
  go_enter Try.func19, Try.ntmps19
  go_wp2_with fail
  (with_reducible refine (fit1_any _ _ _ _ (HK.out.below (by go_grown))).mono ?_)
  rintro e w1 ⟨⟨b, rfl⟩, hb1⟩
  have B1 := Lib.hid ((show Bl w (w.alloc (.cells cs 47)) by go_grown).trans hb1)
  have R1 := Lib.hid (HR.out.below hb1)
  clear hb1
  cases b with
  | false =>
    go_wp2_with fail
    go_ret
    exact ⟨rfl, B1.out⟩
  | true =>
    by_cases h8 : (8 : Int) < (n : Int)
    · go_wp2_with fail
      go_ret
      exact ⟨rfl, B1.out⟩
    go_wp2_with fail
    (with_reducible refine (sclone_any _ _ _ _ _ R1.out (by omega)).mono ?_)
    rintro e W5 ⟨⟨A5, c5, rfl, ho5⟩, hb5⟩
    have B5 := Lib.hid (B1.out.trans hb5)
    have HO5 := Lib.hid (own_mono ho5 B1.out.size)
    have r5 := own_rd_at ho5
    have hcap5 := r5.cap
    have s1 := run_cut_h A5 12 c5 2 2 rfl (by omega) 24 Try.underlying24 size5
    have s2 := run_cut A5 12 c5 2 4 2 4 rfl rfl (by omega) (by omega) 24 Try.underlying24 size5
    have s3 := run_cut A5 12 c5 4 8 4 8 rfl rfl (by omega) (by omega) 24 Try.underlying24 size5
    have s4 := run_cut A5 12 c5 8 12 8 12 rfl rfl (by omega) (by omega) 24 Try.underlying24 size5
    have RR1 := Lib.hid (r5.cut0 2 (by omega))
    have RR2 := Lib.hid (r5.cutm 2 4 2 (by omega) (by omega))
    have RR3 := Lib.hid (r5.cutm 4 8 4 (by omega) (by omega))
    have RR4 := Lib.hid (r5.cutm 8 12 4 (by omega) (by omega))
    clear ho5 hb5 r5 R1 B1
    go_upto_region 6 with fail
    go_cut [6] (fun s6 wx => Hid (∃ g6 An cn, s6 = .pointer (some ⟨g6, 0, none⟩) ∧ Bl W5 wx ∧ W5.heap.size ≤ g6 ∧ g6 < wx.heap.size ∧ Blk wx g6 (L4 (.slice An 4 cn)) 35 ∧ NumV (fun k => W5.heap.size ≤ k ∧ k ≠ g6) wx (.slice An 4 cn) (hdNums hl)))
    case first =>
      go_region_with (first | (go_at_call 38; (with_reducible refine (num_any _ _ _ _ _ (RR1.out.below (by go_grown)) (HB.out.sub _ _) (by omega) (by omega)).mono ?_); rintro e w1 ⟨rfl, rfl⟩) | (go_at_call 38; (with_reducible refine (num_any _ _ _ _ _ (RR2.out.below (by go_grown)) (HB.out.sub _ _) (by omega) (by omega)).mono ?_); rintro e w1 ⟨rfl, rfl⟩) | (go_at_call 38; (with_reducible refine (num_any _ _ _ _ _ (RR3.out.below (by go_grown)) (HB.out.sub _ _) (by omega) (by omega)).mono ?_); rintro e w1 ⟨rfl, rfl⟩) | (go_at_call 38; (with_reducible refine (num_any _ _ _ _ _ (RR4.out.below (by go_grown)) (HB.out.sub _ _) (by omega) (by omega)).mono ?_); rintro e w1 ⟨rfl, rfl⟩))
      all_goals go_wp2_with fail
      all_goals go_meet
      all_goals case rel => first | exact ck_relA W5 _ _ _ _ | exact ck_relB W5 _ _ _ _
    case rest =>
      obtain ⟨g6, An, cn, rfl, hb6, hg6, hz6, kg, nv⟩ := hcut.out
      have hw5 := B5.out.size
      have R0 : Hid (ChR w hl g6 wc.heap.size (.slice An 4 cn) (.slice A5 12 c5) [] (.slice none 0 0) [] wc) := Lib.hid
        ⟨by simpa using own_bl HO5.out hb6, kg, nv.strong.mono (fun k hk => ⟨⟨⟨by omega, hk.1.2⟩, fun e => by have := HO5.out.lt k e; omega⟩, hk.2⟩), PRow.nil _ _ _, B5.out.trans hb6, Nat.le_refl _, ⟨by omega, hz6⟩⟩
      have hg6a : w.heap.size ≤ g6 := by omega
      clear hcut s1 s2 s3 s4 RR1 RR2 RR3 RR4 HO5 B5 hb6 kg nv
      generalize hBS : wc.heap.size = BS at *
      go_wp2_with fail
      go_loopw [5, 37] (fun s5 i wr => ∃ k : Nat, k ≤ n ∧ i = .int .i64 k ∧ Hid (∃ (bs : List Int) (ps : List Prt) (A2 : Option Addr) (c2 : Nat), ChR w hl g6 BS (.slice An 4 cn) s5 bs (.slice A2 ps.length c2) ps wr ∧ Chs bs ps ∧ ps.length = k)) (fun _ i _ => n - (intOf i).toNat)
      case atStart => exact ⟨0, Nat.zero_le _, rfl, Lib.hid ⟨[], [], none, 0, R0.out, Chs.nil, rfl⟩⟩
      case round =>
        obtain ⟨k, hk, rfl, hR⟩ := hrel
        obtain ⟨bs, ps, A2, c2, hr, hch, hps⟩ := hR.out
        obtain ⟨A7, c7, rfl⟩ := ownsRow_form hr.own
        have HPS := Lib.hid hps
        clear hR hps
        have HR' := Lib.hid hr
        have HCH := Lib.hid hch
        by_cases hlt : k < n
        · obtain ⟨g', o', kd, fl, B, m, d, body, rfl, hc⟩ := HK.out.2 k hlt
          have HC := Lib.hid (hc.below hr.bl)
          have j0 := hr.bl.keeps hc.c0
          have j1 := hr.bl.keeps hc.c1
          have j2 := hr.bl.keeps hc.c2
          have zj := World.block_lt_of_cell? _ _ j0
          clear hr hch hc
          go_wp2_with fail
          (with_reducible refine (mkc_any _ _ _ _ _ body _ (HC.out.rd.below (by go_grown)) HC.out.byt HC.out.kind HC.out.flags).mono ?_)
          rintro e W1 ⟨A1, c1, x, mm, P, rfl, hok, hP, hx4, hm0, hm255, rx, ix, hbx⟩
          have BX := Lib.hid ((show Bl wr (wr.alloc (.cells #[.int .u8 kd, .int .u8 fl, .slice B m d] 53)) by go_grown).trans hbx)
          have hr1 := HR'.out.below BX.out
          have IX : Hid (InF (fun k => wr.heap.size ≤ k) A1 x.length) := Lib.hid (ix.mono fun k hk => by simp at hk; omega)
          obtain ⟨gx, ox, rfl, hgx, hcx⟩ := rx.at (by omega)
          have d0 := hcx 0 (by omega)
          have d1 := hcx 1 (by omega)
          simp only [Nat.add_zero] at d0
          have RX := Lib.hid rx
          have HOK := Lib.hid hok
          have HP := Lib.hid hP
          have kg1 := hr1.kg
          have HR1 := Lib.hid hr1
          have hN : IntKind.u64.wrap mm = mm := by rw [IntKind.wrap_u64]; omega
          have hbz := BX.out.size
          clear hok hP rx ix hbx hr1 hcx j0 j1 j2 zj
          have c4 := kg1.cell
          have f4 := kg1.frozen
          have z4 := kg1.lt
          generalize hX0 : x.getD 0 0 = x0 at *
          generalize hX1 : x.getD 1 0 = x1 at *
          have HX0 := Lib.hid hX0
          have HX1 := Lib.hid hX1
          have b0 := HOK.out.by_.getD 0
          have b1 := HOK.out.by_.getD 1
          rw [HX0.out] at b0
          rw [HX1.out] at b1
          clear hX0 hX1
          go_upto_region 11 with fail
          have q2 : ∀ d os, (Sort.grow (redrawn W1 d) os).cell? ⟨g6, 2, none⟩ = some (.slice A2 ps.length c2) := fun d os => cell_regrown (kg1.cell 2) d os
          have qx0 : ∀ d os, (Sort.grow (redrawn W1 d) os).cell? ⟨gx, ox, none⟩ = some (.int .u8 x0) := fun d os => cell_regrown d0 d os
          have qx1 : ∀ d os, (Sort.grow (redrawn W1 d) os).cell? ⟨gx, ox + 1, none⟩ = some (.int .u8 x1) := fun d os => cell_regrown d1 d os
          refine wp_region_float (S := Grw W1) [true, true, true, true, true, true, true, true, true, true, true, true, false, true, false, false, false, false, false] 16 (by kernel_rfl) (by kernel_rfl) (Grw.drew W1) ?_
          simp only [selQ, selN, earlyN]
          repeat (first | go_big_quiet_skip | (go_big_quiet_want; go_big_quiet_op; go_big_quiet_on))
          refine wpQuiet_nil ?_
          refine wpN_want rfl (fun K hK => ?_)
          go_big_op
          have KN := Lib.hid (show Blk (W1.alloc (.cells #[.int .u64 x0, .int .u64 x1, .int .u64 mm] 26)).drew W1.heap.size #[.int .u64 x0, .int .u64 x1, .int .u64 mm] 26 from (Blk.new W1 _ _).same rfl)
          have B2 : Hid (Bl W1 (W1.alloc (.cells #[.int .u64 x0, .int .u64 x1, .int .u64 mm] 26)).drew) := Lib.hid ((show Bl W1 (W1.alloc (.cells #[.int .u64 x0, .int .u64 x1, .int .u64 mm] 26)) by go_grown).drew)
          generalize (W1.alloc (.cells #[.int .u64 x0, .int .u64 x1, .int .u64 mm] 26)).drew = W2 at *
          refine hK _ _ (Grw.of B2.out) ?_
          clear hK K
          refine wpN_want rfl (fun K hK => ?_)
          go_big_op
          refine hK _ _ (Grw.of B2.out) ?_
          clear hK K
          refine wpN_want rfl (fun K hK => ?_)
          go_big_op
          have KP := Lib.hid (Blk.new W2 #[.slice (some ⟨W1.heap.size, 0, none⟩) 3 3, .slice (some ⟨gx, ox, none⟩) x.length c1] 57)
          have B3 := Lib.hid (show Bl W2 (W2.alloc (.cells #[.slice (some ⟨W1.heap.size, 0, none⟩) 3 3, .slice (some ⟨gx, ox, none⟩) x.length c1] 57)) by go_grown)
          refine hK _ _ (Grw.of (Bl.trans B2.out B3.out)) ?_
          clear hK K
          refine wpN_late ?_
          have B23 := Lib.hid (Bl.trans B2.out B3.out)
          have KN3 := Lib.hid (Blk.keep B3.out KN.out)
          generalize W2.alloc (.cells #[.slice (some ⟨W1.heap.size, 0, none⟩) 3 3, .slice (some ⟨gx, ox, none⟩) x.length c1] 57) = W3 at *
          have hr3 := HR1.out.below B23.out
          have HR3 := Lib.hid hr3
          obtain ⟨vs, ho, hes⟩ := hr3.row
          have hwr : ∀ k, wr.heap.size ≤ k → (Value.slice A7 (12 + bs.length) c7).ownBlock ≠ some k ∧ (Value.slice A2 ps.length c2).ownBlock ≠ some k := fun k hk => by
            obtain ⟨vs', ho', _⟩ := HR'.out.row
            exact ⟨fun e => by have := HR'.out.own.lt k e; omega, fun e => by have := ho'.lt k e; omega⟩
          have HWR := Lib.hid hwr
          have hbw : BS ≤ wr.heap.size := HR'.out.sz
          have h13 := B23.out.size
          have BV3 : Hid (BytV (fun k => wr.heap.size ≤ k) W3 (.slice (some ⟨gx, ox, none⟩) x.length c1) x) := Lib.hid ((RX.out.below B23.out).bytV IX.out HOK.out.by_)
          have hpn := HPS.out
          refine wpList_app rfl (.tmp 47) (.tmp 61) 33 57 (.agg #[.slice none 0 0, .slice none 0 0]) 2 48 BS rfl ud33p info57 rfl (by decide) (by decide) (.slice A2 ps.length c2) ps.length vs (some ⟨W2.heap.size, 0, none⟩) 1 1 [.slice (some ⟨W1.heap.size, 0, none⟩) 3 3, .slice (some ⟨gx, ox, none⟩) x.length c1] rfl rfl ho (Blk.src KP.out 1 2 rfl (by simp [Value.oneCell'])) (by omega) (by omega) ?_
          intro A6 c6 w7 hp7
          clear hpn
          have REL := Lib.hid (ChR.part HR3.out ho hes hbw HWR.out KN3.out (by omega) BV3.out hp7)
          have hg := HR'.out.g6h
          have kg7 := hp7.blk HR3.out.kg (fun e => by have := ho.lt g6 e; omega)
          have RX8 := Lib.hid ((((RX.out.below B23.out).keepF (F := fun k => wr.heap.size ≤ k) IX.out (w' := w7) (fun k hF hk => hp7.grown.block k hk (fun e => (HWR.out k hF).2 e.symm))).keepF (F := fun k => wr.heap.size ≤ k) IX.out ((KeepF.refl _ w7).setCell (p := ⟨g6, 2, none⟩) (fun h => by simp only at h; omega) (.slice A6 (ps.length + 1) c6))))
          clear c4 f4 z4 kg1 q2 qx0 qx1 d0 d1 ho hes hp7 hr3 hwr
          have c4 := kg7.cell
          have f4 := kg7.frozen
          have z4 := kg7.lt
          go_wp2_with fail
          refine NoPanic.normal ?_
          generalize w7.setCell ⟨g6, 2, none⟩ (.slice A6 (ps.length + 1) c6) = W8 at *
          clear c4 f4 z4 kg7
          have ho8 := Lib.hid REL.out.own
          have hz8 := REL.out.bl.size
          have hbn : bs.length ≤ 880 := by have := HCH.out.len; have := HPS.out; omega
          have hxn := HOK.out.len
          go_wp2_with (at_builtin; refine wpList_app rfl (.tmp 64) (.tmp 65) 24 5 (.int .u8 0) 1 1 w.heap.size rfl Try.underlying24 info5 rfl (by decide) (by decide) (.slice A7 (12 + bs.length) c7) (12 + bs.length) ((hl ++ bs).map (Value.int .u8)) (some ⟨gx, ox, none⟩) x.length c1 (x.map (Value.int .u8)) rfl rfl ho8.out RX8.out.src (by omega) hz8 ?_; intro A9 c9 w9 hp9)
          have REL9 := Lib.hid (REL.out.bytes rfl hp9)
          have hpl : (ps ++ [P]).length = ps.length + 1 := by simp
          exact ⟨⟨k + 1, by omega, by go_num, Lib.hid ⟨bs ++ x, ps ++ [P], A6, c6, by rw [hpl, HP.out]; exact REL9.out, HCH.out.app HOK.out, by rw [hpl, HPS.out]⟩⟩, by simp [intOf]; omega⟩
        · have hrd := own_rd_at hr.own
          have hbn : bs.length ≤ 880 := by have := hch.len; have := HPS.out; omega
          have hpn : ps.length ≤ 8 := by have := HPS.out; omega
          have hs : sub (hl ++ bs) 12 (hl ++ bs).length = bs := by rw [sub_drop]; exact List.drop_left' h12
          have HRD := readPkt_any A7 (12 + bs.length) c7 (hl ++ bs) wr hrd (HB.out.app hch.by_) (by omega) (by omega) ps [] (by rw [hs]; exact hch.all)
          rw [hdNums_app hl bs h12] at HRD
          have HRD := Lib.hid HRD
          have HW : Hid (LyrV (fun _ => True) wr (.agg (L4' (.slice An 4 cn) (.slice A2 ps.length c2))) ⟨hdNums hl, [], ps, []⟩) := Lib.hid (LyrV.of_row (hr.nv.mono fun _ _ => trivial) (hr.row.mono fun _ _ => trivial) (fun _ _ _ => trivial) (BytV.nil _ _))
          have HS : Hid (Small ⟨hdNums hl, [], ps, []⟩) := Lib.hid ⟨by simp [hdNums], by simp, by simp only; omega, fun p hp => by rw [hch.all.small.2 p hp]; omega⟩
          have kg := hr.kg
          have BR := Lib.hid hr.bl
          clear hr hch hs hrd
          generalize (⟨hdNums hl, [], ps, []⟩ : Lyr) = L at *
          go_wp2_with fail
          (with_reducible refine HRD.out.mono ?_)
          rintro e w2 ⟨v, rfl, hL2, hb2⟩
          obtain ⟨A4, c4, A5', c5', A6, c6, A8, c8, rfl⟩ := hL2.form
          have HL2 := Lib.hid hL2
          have kg2 := Blk.keep hb2 kg
          have d1 := kg2.cell
          have z1 := kg2.lt
          have HB2 := Lib.hid hb2
          clear hL2 hb2 kg kg2
          go_wp2_with fail
          (with_reducible refine (same_any _ _ L _ (LyrV.below HL2.out (by go_grown)) (LyrV.below HW.out (HB2.out.trans (by go_grown))) HS.out).mono ?_)
          rintro e w3 ⟨rfl, hb3⟩
          go_wp2_with fail
          (with_reducible refine (alive_any _).mono ?_)
          rintro e w4 ⟨rfl, hb4⟩
          go_wp2_with fail
          go_ret
          exact ⟨rfl, ((BR.out.trans HB2.out).trans (Bl.trans (by go_grown) hb3)).trans hb4⟩
end Go.Proofs.Ytoljdgfbkebgcaa
namespace Go.Proofs.Ytoljdgfbkebgcaa
open Go Go.RowKit Go.ChangeShapes Go.WideShapes
theorem cells47 : Try.prog.cellsOf 47 = 12 := by kernel_rfl
theorem cells5 : Try.prog.cellsOf 5 = 1 := by kernel_rfl
theorem cells53 : Try.prog.cellsOf 53 = 3 := by kernel_rfl
theorem cells24 : Try.prog.cellsOf 24 = 1 := by kernel_rfl
theorem list3 {α : Type} {l : List α} {n : Nat} (h : l.length = n) (hn : n = 3 := by rfl) : ∃ a b c, l = [a, b, c] := by
  subst hn
  match l, h with
  | [a, b, c], _ => exact ⟨a, b, c, rfl⟩
theorem byte_wf {n : Int} (h : (Lit.int .u8 n).wf = true) : 0 ≤ n ∧ n ≤ 255 := by
  simp [Lit.wf, IntKind.min, IntKind.max, IntKind.signed, IntKind.bits] at h
  omega
section
variable {H : Type} {enc : TypeId × Value → H} {W : World} {base b0 : Nat} {r : Reach} {sp : Nat → Bool} {hd : Bool}
set_option maxRecDepth 100000 in
/-- The head: twelve bytes. -/
theorem open_head {v : Value} {d : DataW H} {p : List MemPlace} (hval : Value.okWide Try.prog W r b0 47 v) (h : DataW.Trod enc Try.prog W base sp hd 47 v d p) : ∃ hl : List Int, v = .agg (hl.map (Value.int .u8)).toArray ∧ hl.length = 12 ∧ By hl := by
  have hv : ∃ cs, v = .agg cs ∧ cs.size = 12 := by
    simp only [Value.okWide, Try.underlying47] at hval
    obtain ⟨cs, h1, h2, _⟩ := hval
    exact ⟨cs, h1, h2.trans cells47⟩
  obtain ⟨cs, rfl, hs⟩ := hv
  obtain ⟨fuel, hf⟩ := h
  obtain ⟨xs, m, _, _, _, hxl, hx⟩ := DataW.trod_array Try.underlying47 hf
  have each : ∀ i, i < 12 → ∃ n : Int, cs[i]? = some (.int .u8 n) ∧ 0 ≤ n ∧ n ≤ 255 := by
    intro i hi
    have h1 := hx i hi
    rw [cells5, Nat.mul_one, List.getElem?_eq_getElem (by omega)] at h1
    obtain ⟨n, h2, _, h3⟩ := DataW.trod_int Try.underlying5 h1
    refine ⟨n, ?_, byte_wf h3⟩
    have h4 : ((cs.toList.drop i).take 1)[0]? = some (Value.int .u8 n) := by
      have e : (Value.agg cs).cells.toList = cs.toList := rfl
      rw [e] at h2
      rw [h2]
      rfl
    rw [List.getElem?_take_of_lt (by omega), List.getElem?_drop, Nat.add_zero, Array.getElem?_toList] at h4
    exact h4
  obtain ⟨q, hq⟩ := Go.Deep.choose_lt each
  refine ⟨(List.range 12).map q, ?_, by simp, ?_⟩
  · refine congrArg Value.agg (Array.ext_getElem? ?_)
    intro i
    by_cases hi : i < 12
    · rw [(hq i hi).1]
      simp [hi]
    · rw [Array.getElem?_eq_none (by omega), Array.getElem?_eq_none (by simp; omega)]
  · intro x hx
    obtain ⟨i, hi, rfl⟩ := List.mem_map.1 hx
    exact (hq i (List.mem_range.1 hi)).2
set_option maxRecDepth 100000 in
/-- The list. -/
theorem open_list {a : Option Addr} {n c : Nat} {d : DataW H} {p : List MemPlace} (h : DataW.Trod enc Try.prog W base (fun _ => true) hd 48 (.slice a n c) d p) : CkRow W a n c := by
  obtain ⟨fuel, hf⟩ := h
  rcases Go.Deep.open_slice Try.underlying48 hf with ⟨hcs, _⟩ | ⟨a', len, cap, m, n', D, Pl, hcs, _, hl, _, hmm, _, hx⟩
  · simp [Value.cells] at hcs
    obtain ⟨rfl, rfl, rfl⟩ := hcs
    exact ⟨Nat.le_refl _, fun i hi => absurd hi (by omega)⟩
  · simp [Value.cells] at hcs
    obtain ⟨rfl, rfl, rfl⟩ := hcs
    simp only [if_true] at hmm
    subst hmm
    refine ⟨hl, fun i hi => ?_⟩
    obtain ⟨cs', h1, h2⟩ := hx i (by omega)
    rw [cells53] at h1
    obtain ⟨_, hlen, hcell⟩ := World.cells?_some h1
    obtain ⟨xs, k, _, _, _, hxl, hfd⟩ := DataW.trod_struct Try.underlying53 h2
    have g0 := hfd 0 _ rfl
    have g1 := hfd 1 _ rfl
    have g2 := hfd 2 _ rfl
    obtain ⟨y0, y1, y2, rfl⟩ := list3 hxl
    obtain ⟨v0, v1, v2, rfl⟩ := list3 hlen
    · simp [cells5, cells24] at g0 g1 g2
      obtain ⟨kd, e0, _, w0⟩ := DataW.trod_int Try.underlying5 g0
      obtain ⟨fl, e1, _, w1⟩ := DataW.trod_int Try.underlying5 g1
      simp only [List.cons.injEq, and_true] at e0 e1
      subst e0 e1
      have c0 := hcell 0 (by omega)
      have c1 := hcell 1 (by omega)
      have c2 := hcell 2 (by omega)
      obtain ⟨g, o, spot⟩ := a'
      have hspot : spot = none := by
        obtain ⟨cs0, h10, _⟩ := hx 0 (by omega)
        rw [cells53] at h10
        obtain ⟨_, hl0, hc0⟩ := World.cells?_some h10
        obtain ⟨t0, t1, t2, rfl⟩ := list3 hl0
        simpa [Addr.add] using World.cell?_spot (hc0 0 (by omega))
      subst hspot
      rw [add_add, add_add] at c0 c1 c2
      have hrow : ∃ B q t zs, v2 = .slice B q t ∧ IsRow .u8 W B q t zs := by
        rcases open_ints Try.underlying24 Try.underlying5 cells5 g2 with ⟨hcs, _⟩ | ⟨x, q, t, zs, hcs, _, hl, hm, hz, _, hcell, hwz⟩
        · simp at hcs
          exact ⟨_, _, _, [], hcs, .inl ⟨rfl, rfl, rfl, rfl⟩⟩
        · simp at hcs
          exact ⟨_, _, _, zs, hcs, .inr ⟨_, rfl, hl, hm, by simpa using hz, hcell, hwz⟩⟩
      obtain ⟨B, q, t, zs, rfl, hr⟩ := hrow
      obtain ⟨hrd, hby⟩ := hr.rd
      refine ⟨g, o, kd, fl, B, q, t, _, rfl, ⟨?_, ?_, ?_, hrd, hby, byte_wf w0, byte_wf w1⟩⟩
      · simpa using c0
      · simpa using c1
      · simpa using c2
end
end Go.Proofs.Ytoljdgfbkebgcaa
