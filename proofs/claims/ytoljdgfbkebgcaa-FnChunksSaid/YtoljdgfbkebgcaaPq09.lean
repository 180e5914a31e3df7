/- impl.packet, of a packet. impl.told: sctpshutdownack. -/
import Derived.Test.YtoljdgfbkebgcaaPq08
import Derived.Test.YtoljdgfbkebgcaaPq06
import Derived.Test.YtoljdgfbkebgcaaPq03
import Derived.Test.YtoljdgfbkebgcaaPq07
import Derived.LoopTactic
import Derived.Deep.DeepCutAuto
import Derived.Test.YtoljdgfbkebgcaaPq04
namespace Go.Proofs.Ytoljdgfbkebgcaa
open Go.RowKit
set_option linter.unusedVariables false
theorem Rd.ne_blk {k : IntKind} {w : World} {A : Option Addr} {n c : Nat} {l : List Int} {g : Nat} {cs : Array Value} {T : TypeId} (h : Rd k w A n c l) (kb : Blk w g cs T) (hcs : ∀ (i : Nat) (u : Value), cs[i]? = some u → ∀ x, u ≠ .int k x) : InF (· ≠ g) A n := by
  intro h0 x hx e
  obtain ⟨g', o, e', hc⟩ := h.cell 0 h0
  rw [hx] at e'
  simp at e'
  subst e'
  have e2 : g' = g := e
  subst e2
  rw [kb.cell] at hc
  exact hcs _ _ hc _ rfl
theorem no_int4 {k : IntKind} (A0 A1 A2 A3 : Option Addr) (n0 n1 n2 n3 c0 c1 c2 c3 : Nat) : ∀ (i : Nat) (u : Value), (#[Value.slice A0 n0 c0, .slice A1 n1 c1, .slice A2 n2 c2, .slice A3 n3 c3] : Array Value)[i]? = some u → ∀ x, u ≠ .int k x := by
  intro i u h x e
  subst e
  rcases i with _ | _ | _ | _ | i <;> simp at h
/-- The blocks behind one, apart from another. -/
abbrev Fg (a b k : Nat) : Prop := a < k ∧ k ≠ b
theorem kind_nonempty (x : Int) : ((kindOf x).toList == []) = false := by
  by_cases hk : Known x
  · rcases hk with rfl | rfl | rfl | rfl | rfl | rfl | rfl | rfl | rfl | rfl | rfl | rfl | rfl <;> (simp [kindOf, kDat, kIni, kSac, kHea, kErr, kShu, kAck, kCoo, kEmp, go_sem])
  · rw [(kindRow_else x hk).2]
    simp [kUnk, go_sem]
theorem Chunk.byPay {l : List Int} {L : Lyr} (_h : Chunk l L) (hl : By l) : By (payOf l) := by
  unfold payOf
  split
  · exact hl.sub _ _
  · exact hl.sub _ _
theorem byCon {l : List Int} (hl : By l) : By (conOf l) := by
  unfold conOf
  split
  · exact hl.sub _ _
  · exact hl.sub _ _
theorem conOf_len {l : List Int} {L : Lyr} (h : Chunk l L) : (conOf l).length ≤ l.length := by
  have := h.up
  unfold conOf sub
  split <;> simp <;> omega
abbrev Y4 : Array Value := #[.slice none 0 0, .slice none 0 0, .slice none 0 0, .slice none 0 0]
theorem im_end {w W : World} {g6 B : Nat} {v0 v2 v3 u3 : Value} {ns : List Int} {ps : List Prt} {pay : List Int} (hb : Bl w W) (kg : Blk W g6 #[v0, .slice none 0 0, v2, u3] 35) (kr : Blk W w.heap.size Y4 35) (h6 : w.heap.size < g6) (hB : g6 < B)
    (h0 : NumV (fun k => Fg w.heap.size g6 k ∧ k < B) W v0 ns) (h2 : PRow (Fg w.heap.size g6) B W v2 ps) (h3 : BytV (Fg w.heap.size g6) W v3 pay) :
    Bl w (((((W.setCell ⟨g6, 3, none⟩ v3).setCell ⟨w.heap.size, 0, none⟩ v0).setCell ⟨w.heap.size, 1, none⟩ (.slice none 0 0)).setCell ⟨w.heap.size, 2, none⟩ v2).setCell ⟨w.heap.size, 3, none⟩ v3) ∧
    LyrV (fun k => w.heap.size ≤ k) (((((W.setCell ⟨g6, 3, none⟩ v3).setCell ⟨w.heap.size, 0, none⟩ v0).setCell ⟨w.heap.size, 1, none⟩ (.slice none 0 0)).setCell ⟨w.heap.size, 2, none⟩ v2).setCell ⟨w.heap.size, 3, none⟩ v3) (.agg #[v0, .slice none 0 0, v2, v3]) ⟨ns, [], ps, pay⟩ ∧
    Blk (((((W.setCell ⟨g6, 3, none⟩ v3).setCell ⟨w.heap.size, 0, none⟩ v0).setCell ⟨w.heap.size, 1, none⟩ (.slice none 0 0)).setCell ⟨w.heap.size, 2, none⟩ v2).setCell ⟨w.heap.size, 3, none⟩ v3) w.heap.size #[v0, .slice none 0 0, v2, v3] 35 := by
  have hn : ¬ Fg w.heap.size g6 g6 := fun h => h.2 rfl
  have B1 : Bl w (W.setCell ⟨g6, 3, none⟩ v3) := Below.setCell hb (Nat.le_of_lt h6) _
  have kr1 := kr.far (p := ⟨g6, 3, none⟩) (Nat.ne_of_lt h6) v3
  have h01 := (h0.keepF ((KeepF.refl _ W).setCell (p := ⟨g6, 3, none⟩) (fun h => hn h.1) v3)).mono fun k h => h.1
  have h21 := h2.set kg (by decide) hn 3 v3
  have h31 := h3.keepF ((KeepF.refl _ W).setCell (p := ⟨g6, 3, none⟩) hn v3)
  exact ⟨Bl.boxed B1 (Nat.le_refl _) _ _ _ _, (LyrV.boxed (LyrV.of_row h01 h21 (fun k h1 _ => ⟨by omega, by omega⟩) h31) (fun h => absurd h.1 (Nat.lt_irrefl _)) _ _ _ _).mono fun k hk => Nat.le_of_lt hk.1, (((kr1.set 0 _).set 1 _).set 2 _).set 3 _⟩
/-- What stands behind a round's append. -/
structure ImCut (w : World) (g6 BS : Nat) (v0 v3 : Value) (hd : List Int) (ps : List Prt) (gd : Nat) (cs : Array Value) (E : TypeId) (B1 : Option Addr) (m1 e1 : Nat) (pl : List Int) (wx : World) (A5 : Option Addr) (c5 : Nat) : Prop where
  kg : Blk wx g6 #[v0, .slice none 0 0, .slice A5 ps.length c5, v3] 35
  nv : NumV (fun k => Fg w.heap.size g6 k ∧ k < BS) wx v0 hd
  row : PRow (Fg w.heap.size g6) BS wx (.slice A5 ps.length c5) ps
  kr : Blk wx w.heap.size Y4 35
  bl : Bl w wx
  sz : BS ≤ wx.heap.size
  kd : Blk wx gd cs E
  rd : Rd .u8 wx B1 m1 e1 pl
  inf : InF (fun k => (k ≠ w.heap.size ∧ k ≠ g6) ∧ (Value.slice A5 ps.length c5).ownBlock ≠ some k) B1 m1
theorem im_rel {w wr w1 W6 w7 : World} {g6 BS gN gd m1 e1 c2 c5 : Nat} {v0 v3 u1 : Value} {hd : List Int} {ps1 : List Prt} {cs : Array Value} {E : TypeId} {A2 B1 A5 : Option Addr} {pl con : List Int} {x0 x1 N : Int} {vs : List Value}
    (h6 : w.heap.size < g6) (hB : g6 < BS) (hz : BS ≤ wr.heap.size) (hb : Bl w wr) (hb1 : Bl wr w1) (hb6 : Bl w1 W6)
    (kg : Blk wr g6 #[v0, .slice none 0 0, .slice A2 ps1.length c2, v3] 35) (kr : Blk wr w.heap.size Y4 35) (nv : NumV (fun k => Fg w.heap.size g6 k ∧ k < BS) wr v0 hd)
    (ho : wr.ownsRow BS 57 2 (.slice A2 ps1.length c2) ps1.length vs)
    (hes : ∀ i, i < ps1.length → ∃ u0 u1, vs[i * 2]? = some u0 ∧ vs[i * 2 + 1]? = some u1 ∧ NumV (Off (Fg w.heap.size g6) (.slice A2 ps1.length c2) wr) wr u0 (ps1.getD i Prt.nil).nums ∧ BytV (Off (Fg w.heap.size g6) (.slice A2 ps1.length c2) wr) wr u1 (ps1.getD i Prt.nil).data)
    (kd : Blk w1 gd cs E) (hE : E ≠ 35 ∧ E ≠ 57) (rd1 : Rd .u8 w1 B1 m1 e1 pl) (inf1 : InF (fun k => wr.heap.size ≤ k) B1 m1)
    (kn : Blk W6 gN #[.int .u64 x0, .int .u64 x1, .int .u64 N] 26) (hgN : w1.heap.size ≤ gN) (bv : BytV (fun k => w1.heap.size ≤ k) W6 u1 con)
    (hp : Appd W6 BS 57 2 (.slice A2 ps1.length c2) (ps1.length + 1) (vs ++ [.slice (some ⟨gN, 0, none⟩) 3 3, u1]) A5 c5 w7) :
    ImCut w g6 BS v0 v3 hd (ps1 ++ [⟨[x0, x1, N], con⟩]) gd cs E B1 m1 e1 pl (w7.setCell ⟨g6, 2, none⟩ (.slice A5 (ps1.length + 1) c5)) A5 c5 := by
  have hbr := hb1.trans hb6
  have hz1 := hb1.size
  have hz6 := hb6.size
  have hlt : ∀ k, (Value.slice A2 ps1.length c2).ownBlock = some k → BS ≤ k ∧ k < wr.heap.size := fun k hk => ho.lt k hk
  have hon : ∀ k, (k < BS ∨ wr.heap.size ≤ k) → (Value.slice A2 ps1.length c2).ownBlock ≠ some k := fun k hk e => by have := hlt k e; omega
  have hgd : (Value.slice A2 ps1.length c2).ownBlock ≠ some gd := by
    intro e
    rcases (own_bl ho hb1).2 with ⟨h1, h2⟩ | ⟨g, cap, cur, h1, _, hh, _⟩
    · rw [h1] at e
      simp [Value.ownBlock] at e
    · rw [h1] at e
      simp [Value.ownBlock] at e
      subst e
      have := hh.symm.trans kd.heap
      simp at this
      exact hE.2 this.2.symm
  have hg6d : gd ≠ g6 := by
    rintro rfl
    have := (Blk.keep hb1 kg).heap.symm.trans kd.heap
    simp at this
    exact hE.1 this.2.symm
  have hl : (ps1 ++ [(⟨[x0, x1, N], con⟩ : Prt)]).length = ps1.length + 1 := by simp
  have h0n : NumV (fun k => Fg w.heap.size g6 k ∧ (Value.slice A2 ps1.length c2).ownBlock ≠ some k) W6 (.slice (some ⟨gN, 0, none⟩) 3 3) [x0, x1, N] :=
    NumV.of_block _ ⟨⟨by omega, by omega⟩, hon _ (.inr (by omega))⟩ kn.heap rfl rfl
  have h1n : BytV (fun k => Fg w.heap.size g6 k ∧ (Value.slice A2 ps1.length c2).ownBlock ≠ some k) W6 u1 con := bv.mono fun k hk => ⟨⟨by omega, by omega⟩, hon _ (.inr (by omega))⟩
  have hrow := PRow.app (P := ⟨[x0, x1, N], con⟩) (els_below hes hbr) (own_bl ho hbr) hp h0n h1n
  have kg7 := hp.blk (Blk.keep hbr kg) (hon g6 (.inl hB))
  have kr7 := hp.blk (Blk.keep hbr kr) (hon _ (.inl (by omega)))
  have kd7 := hp.blk (Blk.keep hb6 kd) hgd
  have B7 : Bl w w7 := Below.grown (hb.trans hbr) hp.grown (hb.trans hbr).size (fun k hk => by have := hlt k hk; omega)
  have nv7 := (nv.below hbr).keepF (w' := w7) (fun k hF hk => hp.grown.block k hk (fun e => hon k (.inl hF.2) e.symm))
  have inf2 := InF.strong rd1 inf1
  have hF2 : ∀ k, (wr.heap.size ≤ k ∧ k < w1.heap.size) → (k ≠ w.heap.size ∧ k ≠ g6) ∧ (Value.slice A5 (ps1.length + 1) c5).ownBlock ≠ some k := fun k hk => by
    refine ⟨⟨by omega, by omega⟩, fun e => ?_⟩
    rcases hp.at_ with h | h
    · exact hon k (.inr hk.1) (h.symm.trans e)
    · rw [h] at e
      simp at e
      omega
  have rd7 := (rd1.below hb6).keepF (F := fun k => (wr.heap.size ≤ k ∧ k < w1.heap.size)) inf2 (w' := w7) (fun k hF hk => hp.grown.block k hk (fun e => hon k (.inr hF.1) e.symm))
  have kg8 := kg7.set 2 (.slice A5 (ps1.length + 1) c5)
  refine ⟨?_, nv7.keepF ((KeepF.refl _ w7).setCell (p := ⟨g6, 2, none⟩) (fun h => h.1.2 rfl) _), ?_, kr7.far (p := ⟨g6, 2, none⟩) (Nat.ne_of_lt h6) _, Below.setCell B7 (Nat.le_of_lt h6) _, ?_, kd7.far (p := ⟨g6, 2, none⟩) hg6d _, rd7.keepF (F := fun k => (wr.heap.size ≤ k ∧ k < w1.heap.size)) inf2 ((KeepF.refl _ w7).setCell (p := ⟨g6, 2, none⟩) (fun h => by simp only at h; omega) _), ?_⟩
  · rw [hl]
    simpa using kg8
  · rw [hl]
    exact hrow.set kg7 (by decide) (fun h => h.2 rfl) 2 _
  · have := hp.grown.size
    simp
    omega
  · rw [hl]
    exact inf2.mono hF2
set_option maxHeartbeats 4000000 in
set_option maxRecDepth 100000 in
theorem imPkt_any (A : Option Addr) (n c : Nat) (l : List Int) (w : World) (h : Rd .u8 w A n c l) (hl : By l) (h12 : 12 ≤ n) (hn : n ≤ 2000) (ps : List Prt) (pay : List Int) (hp : Pkt (sub l 12 l.length) ps pay) :
    Calls Try.prog 47 #[.slice A n c] w fun e w' => Got w w' e ⟨hdNums l, [], ps, pay⟩ := by
  have HLEN := Lib.hid h.len
  have H := Lib.hid h
  have HB := Lib.hid hl
  have HPK := Lib.hid hp
  clear h hl hp
  go_enter Try.func47, Try.ntmps47
  go_wp2_with fail
  (with_reducible refine (decodedSctp_any _ _ _ _ _ (H.out.below (by go_grown)) HB.out h12 hn).mono ?_)
  rintro e w1 ⟨A1, c1, gl, rfl, ho, r1⟩
  have R1 := Lib.hid r1
  have kl := ho.layer
  have kr := Blk.keep ho.bl (Blk.new w _ _)
  have B1 : Bl w w1 := Bl.trans (by go_grown) ho.bl
  have cl1 : w1.cell? ⟨gl, 1, none⟩ = some (.slice (cutA A1 c1 12) (n - 12) (c1 - 12)) := by rw [kl.cell]; rfl
  have hgr := kr.lt
  have KL := Lib.hid kl
  have KR := Lib.hid kr
  clear ho r1 kl kr
  go_wp2_with fail
  (with_reducible refine (toldSctp_any _ none _ _ 0 0 _ _ [] _ HB.out KL.out (Rd.nil _ _ _ _) By.nil (by omega) (by have := HLEN.out; omega)).mono ?_)
  rintro e w2 ⟨v0, v3, rfl, h0, h3, hb2⟩
  obtain ⟨A0, c0, rfl, hI0, hr0⟩ : ∃ A0 c0, v0 = .slice A0 4 c0 ∧ InF (fun k => w1.heap.size ≤ k) A0 4 ∧ Rd .u64 w2 A0 4 c0 (hdNums l) := h0
  obtain ⟨⟨A3, c3, rfl, _⟩, _⟩ := h3
  simp only [List.length_nil]
  have hz2 := hb2.size
  have kl3 := (Blk.keep hb2 KL.out).alloc (.cells #[.slice A0 4 c0, .slice none 0 0, .slice none 0 0, .slice A3 0 c3] 35)
  have kr3 := (Blk.keep hb2 KR.out).alloc (.cells #[.slice A0 4 c0, .slice none 0 0, .slice none 0 0, .slice A3 0 c3] 35)
  have kg3 := Blk.new w2 #[.slice A0 4 c0, .slice none 0 0, .slice none 0 0, .slice A3 0 c3] 35
  have B3 : Bl w (w2.alloc (.cells #[.slice A0 4 c0, .slice none 0 0, .slice none 0 0, .slice A3 0 c3] 35)) := (B1.trans hb2).trans (by go_grown)
  have R3 := Lib.hid ((R1.out.below hb2).below (show Bl w2 (w2.alloc (.cells #[.slice A0 4 c0, .slice none 0 0, .slice none 0 0, .slice A3 0 c3] 35)) by go_grown))
  have N3 := Lib.hid (hr0.below (show Bl w2 (w2.alloc (.cells #[.slice A0 4 c0, .slice none 0 0, .slice none 0 0, .slice A3 0 c3] 35)) by go_grown))
  have N0 := Lib.hid (InF.strong hr0 hI0)
  have cl3 : (w2.alloc (.cells #[.slice A0 4 c0, .slice none 0 0, .slice none 0 0, .slice A3 0 c3] 35)).cell? ⟨gl, 1, none⟩ = some (.slice (cutA A1 c1 12) (n - 12) (c1 - 12)) := by rw [kl3.cell]; rfl
  have mp := meth90.pay
  clear cl1 hI0 hr0 KL KR R1
  go_wp2_with fail
  clear mp
  (with_reducible refine (payload_any _ _ _ _ _ cl3).mono ?_)
  rintro e w3 ⟨rfl, rfl⟩
  have hzg : w2.heap.size < (w2.alloc (.cells #[.slice A0 4 c0, .slice none 0 0, .slice none 0 0, .slice A3 0 c3] 35)).heap.size := by simp
  generalize w2.alloc (.cells #[.slice A0 4 c0, .slice none 0 0, .slice none 0 0, .slice A3 0 c3] 35) = WL at *
  generalize w2.heap.size = g6 at *
  have hg6 : w.heap.size < g6 := by omega
  have NV0 : Hid (NumV (fun k => Fg w.heap.size g6 k ∧ k < WL.heap.size) WL (.slice A0 4 c0) (hdNums l)) := Lib.hid ⟨A0, c0, rfl, N0.out.mono fun k hk => ⟨⟨by omega, by omega⟩, by omega⟩, N3.out⟩
  have I1 : Hid (InF (fun k => (k ≠ w.heap.size ∧ k ≠ g6) ∧ (Value.slice none 0 0).ownBlock ≠ some k) (cutA A1 c1 12) (n - 12)) := Lib.hid (cutA_inF (n := n) (fun h0 x hx => ⟨⟨Rd.ne_blk R3.out kr3 (no_int4 _ _ _ _ _ _ _ _ _ _ _ _) h0 x hx, Rd.ne_blk R3.out kg3 (no_int4 _ _ _ _ _ _ _ _ _ _ _ _) h0 x hx⟩, by simp [Value.ownBlock]⟩) (fun _ => by omega))
  have KG3 := Lib.hid kg3
  have KR3 := Lib.hid kr3
  have BW := Lib.hid B3
  clear kl3 kr3 B3 cl3 kg3 N0 N3 B1 hb2
  go_wp2_with fail
  go_loopw [8] (fun b wr => Hid (∃ (A' : Option Addr) (n' c' : Nat) (l' : List Int) (ps1 ps2 : List Prt) (v2 : Value), b = .slice A' n' c' ∧ Rd .u8 wr A' n' c' l' ∧ By l' ∧ InF (fun k => (k ≠ w.heap.size ∧ k ≠ g6) ∧ v2.ownBlock ≠ some k) A' n' ∧ n' + ps1.length ≤ n ∧ Blk wr g6 #[.slice A0 4 c0, .slice none 0 0, v2, .slice A3 0 c3] 35 ∧
    NumV (fun k => Fg w.heap.size g6 k ∧ k < WL.heap.size) wr (.slice A0 4 c0) (hdNums l) ∧ PRow (Fg w.heap.size g6) WL.heap.size wr v2 ps1 ∧ Blk wr w.heap.size #[.slice none 0 0, .slice none 0 0, .slice none 0 0, .slice none 0 0] 35 ∧ Bl w wr ∧ WL.heap.size ≤ wr.heap.size ∧ Pkt l' ps2 pay ∧ ps = ps1 ++ ps2)) (fun b _ => match b with | .slice _ n _ => n | _ => 0)
  case atStart =>
    have hL := HLEN.out
    exact Lib.hid ⟨_, _, _, sub l 12 n, [], ps, _, rfl, R3.out.cut 12 n h12 (Nat.le_refl _), HB.out.sub _ _, I1.out, by simp, KG3.out, NV0.out, PRow.nil _ _ _, KR3.out, BW.out, Nat.le_refl _, by have := HPK.out; rwa [hL] at this, rfl⟩
  case round =>
    obtain ⟨A', n', c', l', ps1, ps2, v2, rfl, h, hl, hA, hnn, kg, hnv, hp, kr, hb, hz, hpk, hps⟩ := hrel.out
    clear hrel
    obtain ⟨A2, c2, rfl⟩ := hp.form
    have NV := Lib.hid hnv
    have HP := Lib.hid hp
    have KG := Lib.hid kg
    have KR := Lib.hid kr
    have HH := Lib.hid h
    have HA := Lib.hid hA
    have HB' := Lib.hid hl
    have HPS := Lib.hid hps
    have c4 := kg.cell
    have f4 := kg.frozen
    have z4 := kg.lt
    have cr := kr.cell
    have fr := kr.frozen
    have zr := kr.lt
    have hlen := h.len
    have hcap' := h.cap
    have hpk' := hpk.parts
    clear hps hA hnv hp kg kr hpk
    rcases hpk' with ⟨hl0, rfl, hpay⟩ | ⟨hlt, hku, L, hch, hpq⟩
    · have h0 : n' = 0 := by omega
      subst h0
      have HPAY := Lib.hid hpay
      clear h hl hl0 hpay
      go_wp2_with fail
      (with_reducible refine (clone_any _ _ _ _ _ HH.out (by omega)).mono ?_)
      rintro e w9 ⟨⟨A9, c9, rfl, ho9⟩, hb9⟩
      have kg9 := Blk.keep hb9 KG.out
      have kr9 := Blk.keep hb9 KR.out
      have hl0 : l' = [] := List.eq_nil_of_length_eq_zero hlen
      have BV9 : BytV (Fg w.heap.size g6) w9 (.slice A9 0 c9) [] := by
        rw [hl0] at ho9
        exact own_bytV ho9 By.nil (fun k h1 _ => ⟨by omega, by omega⟩)
      clear c4 f4 z4 cr fr zr ho9
      have c4 := kg9.cell
      have f4 := kg9.frozen
      have z4 := kg9.lt
      have cr := kr9.cell
      have fr := kr9.frozen
      have zr := kr9.lt
      have hz9 := hb9.size
      go_wp2_with fail
      obtain ⟨BF, hLF, kf⟩ := im_end (hb.trans hb9) kg9 kr9 hg6 hzg (NV.out.below hb9) (HP.out.below hb9) BV9
      have cf := kf.cell
      have ep : ps = ps1 := by have := HPS.out; rwa [List.append_nil] at this
      generalize (((((w9.setCell ⟨g6, 3, none⟩ (.slice A9 0 c9)).setCell ⟨w.heap.size, 0, none⟩ (.slice A0 4 c0)).setCell ⟨w.heap.size, 1, none⟩ (.slice none 0 0)).setCell ⟨w.heap.size, 2, none⟩ (.slice A2 ps1.length c2)).setCell ⟨w.heap.size, 3, none⟩ (.slice A9 0 c9)) = WF at *
      exact bodyPost_ret (v := .tuple #[.agg #[.slice A0 4 c0, .slice none 0 0, .slice A2 ps1.length c2, .slice A9 0 c9], .bool true]) (by simp [results, Try.results47, go_sem, cf]) rfl ⟨_, rfl, by rw [ep, HPAY.out]; exact hLF, BF⟩
    · have hgt : (0 : Int) < (n' : Int) := by omega
      obtain ⟨g, o, rfl, hg, hc⟩ := h.at (by omega)
      have hup := hch.up
      have hlow := hch.low
      have hu4 : chL l' ≤ up4 (chL l') := by unfold up4; omega
      have d0 := hc 0 (by omega)
      have d1 := hc 1 (by omega)
      simp only [Nat.add_zero] at d0
      have hdt := kind_data (l'.getD 0 0)
      have hne := kind_nonempty (l'.getD 0 0)
      have hdec := hch.dec (by omega)
      have HDEC := Lib.hid hdec
      have HCH := Lib.hid hch
      have HPQ := Lib.hid hpq
      have HKU := Lib.hid hku
      have hpl := payOf_len hch
      have b0 := hl.getD 0
      have b1 := hl.getD 1
      clear h hl hc hdec hch hpq hku hup
      generalize hX : l'.getD 0 0 = x0 at *
      generalize hX1 : l'.getD 1 0 = x1 at *
      have HX := Lib.hid hX
      have HX1 := Lib.hid hX1
      clear hX hX1
      go_wp2_with fail
      (with_reducible refine (zzkind_any _ _ HKU.out).mono ?_)
      rintro e w3 ⟨rfl, rfl⟩
      go_wp2_with fail
      have hd1 := HDEC.out _ _ _ _ HH.out
      rw [HX.out] at hd1
      (with_reducible refine hd1.mono ?_)
      clear hd1
      rintro e w1 ⟨T, gd, E, cs, B0, m0, e0, B1, m1, e1, rfl, hT, hb1, kd, hE, cd0, cd1, rd0, rd1, rdI⟩
      have mc := hT.con
      have mp := hT.pay
      generalize kindOf x0 = S at *
      have hbz1 := hb1.size
      have KD := Lib.hid kd
      have RD0 := Lib.hid rd0
      have RD1 := Lib.hid rd1
      have RDI := Lib.hid rdI
      have HE := Lib.hid hE
      have kg1 := Blk.keep hb1 KG.out
      have kr1 := Blk.keep hb1 KR.out
      have D0 := hb1.keeps d0
      have D1 := hb1.keeps d1
      clear c4 f4 z4 cr fr zr d0 d1 rd0 rd1 rdI hE hT
      have c4 := kg1.cell
      have f4 := kg1.frozen
      have z4 := kg1.lt
      have cr := kr1.cell
      have fr := kr1.frozen
      have zr := kr1.lt
      go_upto_region 11 with fail
      go_cut [] from 27 to 71 (fun wx => Hid (∃ A5 c5, ImCut w g6 WL.heap.size (.slice A0 4 c0) (.slice A3 0 c3) (hdNums l) (ps1 ++ [chPrt l']) gd cs E B1 m1 e1 (payOf l') wx A5 c5))
      case first =>
        have hN : IntKind.u64.wrap (be (sub l' 2 4)) = be (sub l' 2 4) := by
          have := be_bd2 _ (HB'.out.sub 2 4) (sub_length l' 2 4 (by omega))
          rw [IntKind.wrap_u64]
          omega
        have eP : chPrt l' = ⟨[x0, x1, be (sub l' 2 4)], conOf l'⟩ := by unfold chPrt; rw [HX.out, HX1.out]
        have hm0 := RD0.out.len
        have hcl := conOf_len HCH.out
        have cpc : ∀ {V : World}, Bl w1 V → V.cell? ⟨gd, 0, none⟩ = some (.slice B0 m0 e0) := fun hV => by rw [(Blk.keep hV kd).cell]; exact cd0
        have q2 : ∀ d os, (Sort.grow (redrawn w1 d) os).cell? ⟨g6, 2, none⟩ = some (.slice A2 ps1.length c2) := fun d os => cell_regrown (kg1.cell 2) d os
        have qx0 : ∀ d os, (Sort.grow (redrawn w1 d) os).cell? ⟨g, o, none⟩ = some (.int .u8 x0) := fun d os => cell_regrown D0 d os
        have qx1 : ∀ d os, (Sort.grow (redrawn w1 d) os).cell? ⟨g, o + 1, none⟩ = some (.int .u8 x1) := fun d os => cell_regrown D1 d os
        refine wp_region_pfl (S := Grw w1) [0, 1, 2, 3, 4, 5, 6, 7, 8, 9, 10, 14] 11 13 19 [true, true, true, true, true, true, true, true, true, true, true, true, true, true, true, true, true, false, false, false, false, false] [([12], 15), ([], 16)] (by kernel_rfl) (by kernel_rfl) (Grw.drew w1) ?_
        simp only [getL, pickL, List.cons_append, List.nil_append]
        repeat (first | go_big_quiet_skip | (go_big_quiet_want; go_big_quiet_op; go_big_quiet_on))
        refine wpQuiet_nil ?_
        refine wpAct_want rfl (fun K hK => ?_)
        go_big_op
        (with_reducible refine (number_any _ _ _ 2 l' _ (HH.out.below (hb1.trans ((Bl.refl w1).drew))) HB'.out (by omega) (by omega) 2 (by simp)).mono ?_)
        rintro e w9 ⟨rfl, qd, rfl⟩
        have BD : Bl w1 (w1.drew.drewN qd) := Bl.drewN ((Bl.refl w1).drew) qd
        generalize w1.drew.drewN qd = WD at *
        refine hK _ _ (Grw.of BD) ?_
        clear hK K
        refine wpFlL_cons ?_
        simp only [getL, pickL, List.cons_append, List.nil_append]
        repeat (first | go_big_quiet_skip | (go_big_quiet_want; go_big_quiet_op; go_big_quiet_on))
        refine wpQuiet_nil ⟨?b1, ?b2⟩
        case' b1 =>
          refine wpAct_want rfl (fun K hK => ?_)
          go_big_op
          have KN := Lib.hid (Blk.new WD #[.int .u64 x0, .int .u64 x1, .int .u64 (be (sub l' 2 4))] 26)
          have BN : Bl WD (WD.alloc (.cells #[.int .u64 x0, .int .u64 x1, .int .u64 (be (sub l' 2 4))] 26)) := by go_grown
          have hgN : w1.heap.size ≤ WD.heap.size := BD.size
          have BM := Lib.hid (BD.trans BN)
          have BN := Lib.hid BN
          generalize WD.alloc (.cells #[.int .u64 x0, .int .u64 x1, .int .u64 (be (sub l' 2 4))] 26) = WN at *
          generalize hGN : WD.heap.size = gN at *
          refine hK _ _ (Grw.of BM.out) ?_
          clear hK K hGN
          refine wpAct_want rfl (fun K hK => ?_)
          go_big_op
          (with_reducible refine (contents_any _ _ _ _ _ (cpc BM.out)).mono ?_)
          rintro e w9 ⟨rfl, rfl⟩
          refine hK _ _ (Grw.of BM.out) ?_
          clear hK K
          refine wpGrL_cons ?_
          simp only [getL, pickL]
          refine wpQuiet_nil ?_
          refine wpAct_want rfl (fun K hK => ?_)
          go_big_op
          (with_reducible refine (clone_any _ _ _ _ _ (RD0.out.below BM.out) (by omega)).mono ?_)
          rintro e W5 ⟨⟨A9, c9, rfl, ho9⟩, hb9⟩
          have HO9 := Lib.hid (own_mono ho9 BM.out.size)
          have B5 := Lib.hid (BM.out.trans hb9)
          have KN5 := Lib.hid (Blk.keep hb9 KN.out)
          refine hK _ _ (Grw.of B5.out) ?_
          clear hK K ho9
          clear hb9 BM BN KN
        case' b2 =>
          refine wpAct_want rfl (fun K hK => ?_)
          go_big_op
          (with_reducible refine (contents_any _ _ _ _ _ (cpc BD)).mono ?_)
          rintro e w9 ⟨rfl, rfl⟩
          refine hK _ _ (Grw.of BD) ?_
          clear hK K
          refine wpFlL_cons ?_
          simp only [getL, pickL]
          refine wpQuiet_nil ⟨?b3, ?b4⟩
        case' b3 =>
          refine wpAct_want rfl (fun K hK => ?_)
          go_big_op
          have KN := Lib.hid (Blk.new WD #[.int .u64 x0, .int .u64 x1, .int .u64 (be (sub l' 2 4))] 26)
          have BN : Bl WD (WD.alloc (.cells #[.int .u64 x0, .int .u64 x1, .int .u64 (be (sub l' 2 4))] 26)) := by go_grown
          have hgN : w1.heap.size ≤ WD.heap.size := BD.size
          have BM := Lib.hid (BD.trans BN)
          have BN := Lib.hid BN
          generalize WD.alloc (.cells #[.int .u64 x0, .int .u64 x1, .int .u64 (be (sub l' 2 4))] 26) = WN at *
          generalize hGN : WD.heap.size = gN at *
          refine hK _ _ (Grw.of BM.out) ?_
          clear hK K hGN
          refine wpAct_want rfl (fun K hK => ?_)
          go_big_op
          (with_reducible refine (clone_any _ _ _ _ _ (RD0.out.below BM.out) (by omega)).mono ?_)
          rintro e W5 ⟨⟨A9, c9, rfl, ho9⟩, hb9⟩
          have HO9 := Lib.hid (own_mono ho9 BM.out.size)
          have B5 := Lib.hid (BM.out.trans hb9)
          have KN5 := Lib.hid (Blk.keep hb9 KN.out)
          refine hK _ _ (Grw.of B5.out) ?_
          clear hK K ho9
          clear hb9 BM BN KN
        case' b4 =>
          refine wpAct_want rfl (fun K hK => ?_)
          go_big_op
          (with_reducible refine (clone_any _ _ _ _ _ (RD0.out.below BD) (by omega)).mono ?_)
          rintro e WQ ⟨⟨A9, c9, rfl, ho9⟩, hb9⟩
          have HO8 := Lib.hid (own_mono ho9 BD.size)
          have BQ := Lib.hid (BD.trans hb9)
          refine hK _ _ (Grw.of BQ.out) ?_
          clear hK K ho9
          refine wpFlL_nil ?_
          simp only [pickL]
          refine wpAct_want rfl (fun K hK => ?_)
          go_big_op
          have KN5 := Lib.hid (Blk.new WQ #[.int .u64 x0, .int .u64 x1, .int .u64 (be (sub l' 2 4))] 26)
          have BN : Bl WQ (WQ.alloc (.cells #[.int .u64 x0, .int .u64 x1, .int .u64 (be (sub l' 2 4))] 26)) := by go_grown
          have hgN : w1.heap.size ≤ WQ.heap.size := BQ.out.size
          have B5 := Lib.hid (BQ.out.trans BN)
          have BN := Lib.hid BN
          generalize WQ.alloc (.cells #[.int .u64 x0, .int .u64 x1, .int .u64 (be (sub l' 2 4))] 26) = W5 at *
          generalize hGN : WQ.heap.size = gN at *
          refine hK _ _ (Grw.of B5.out) ?_
          clear hK K hGN
          have HO9 := Lib.hid (own_bl HO8.out BN.out)
          clear BN HO8 BQ hb9
        all_goals refine wpGrL_nil ?_
        all_goals simp only [selN, earlyN]
        all_goals refine wpN_want rfl (fun K hK => ?_)
        all_goals go_big_op
        all_goals refine hK _ _ (Grw.of B5.out) ?_
        all_goals clear hK K
        all_goals refine wpN_want rfl (fun K hK => ?_)
        all_goals go_big_op
        all_goals have BX : Bl W5 (W5.alloc (.cells #[.slice (some ⟨gN, 0, none⟩) 3 3, .slice A9 m0 c9] 57)) := by go_grown
        all_goals have KP := Lib.hid (Blk.new W5 #[.slice (some ⟨gN, 0, none⟩) 3 3, .slice A9 m0 c9] 57)
        all_goals have B6 := Lib.hid (B5.out.trans BX)
        all_goals have KN6 := Lib.hid (Blk.keep BX KN5.out)
        all_goals have BV6 : Hid (BytV (fun k => w1.heap.size ≤ k) (W5.alloc (.cells #[.slice (some ⟨gN, 0, none⟩) 3 3, .slice A9 m0 c9] 57)) (.slice A9 m0 c9) (conOf l')) := Lib.hid (own_bytV (own_bl HO9.out BX) (byCon HB'.out) (fun k h1 _ => h1))
        all_goals refine hK _ _ (Grw.of B6.out) ?_
        all_goals clear hK K KN5 HO9 B5 BX
        all_goals generalize hG9 : W5.heap.size = g9 at *
        all_goals generalize W5.alloc (.cells #[.slice (some ⟨gN, 0, none⟩) 3 3, .slice A9 m0 c9] 57) = W6 at *
        all_goals refine wpN_late ?_
        all_goals obtain ⟨vs, ho, hes⟩ := HP.out
        all_goals have hz6 := B6.out.size
        all_goals refine wpList_app rfl (.tmp 48) (.tmp 65) 33 57 (.agg #[.slice none 0 0, .slice none 0 0]) 2 48 WL.heap.size rfl ud33p info57 rfl (by decide) (by decide) (.slice A2 ps1.length c2) ps1.length vs (some ⟨g9, 0, none⟩) 1 1 [.slice (some ⟨gN, 0, none⟩) 3 3, .slice A9 m0 c9] rfl rfl (own_bl ho (hb1.trans B6.out)) (Blk.src KP.out 1 2 rfl (by simp [Value.oneCell'])) (by omega) (by omega) ?_
        all_goals intro A5 c5 w7 hp7
        all_goals have hon : (Value.slice A2 ps1.length c2).ownBlock ≠ some g6 := fun e => by have := ho.lt g6 e; omega
        all_goals have kg7 := hp7.blk (Blk.keep B6.out kg1) hon
        all_goals have REL := Lib.hid (im_rel hg6 hzg hz hb hb1 B6.out KG.out KR.out NV.out ho hes KD.out HE.out RD1.out RDI.out KN6.out hgN BV6.out hp7)
        all_goals clear c4 f4 z4 cr fr zr ho hes hp7 KP KN6 BV6
        all_goals have c4 := kg7.cell
        all_goals have f4 := kg7.frozen
        all_goals have z4 := kg7.lt
        all_goals go_wp2_with fail
        all_goals refine NoPanic.normal ?_
        all_goals go_wp2_with fail
        all_goals go_meet
        all_goals case rel => exact Lib.hid ⟨_, _, by rw [eP]; exact REL.out⟩
      case rest =>
        obtain ⟨A5, c5, hc⟩ := hcut.out
        have HC := Lib.hid hc
        have cpd : wc.cell? ⟨gd, 1, none⟩ = some (.slice B1 m1 e1) := by rw [hc.kd.cell]; exact cd1
        have hlen1 := hc.rd.len
        have KD9 := hc.kg
        have c4' := hc.kg.cell
        clear hcut hc kg1 kr1 D0 D1 mc kd
        clear c4 f4 z4 cr fr zr
        have c4 := HC.out.kg.cell
        have f4 := HC.out.kg.frozen
        have z4 := HC.out.kg.lt
        clear c4' KD9
        go_wp2_with fail
        (with_reducible refine (payload_any _ _ _ _ _ cpd).mono ?_)
        rintro e w3 ⟨rfl, rfl⟩
        by_cases hx : x0 = 0
        · rw [decide_eq_true hx] at hdt
          have HX0 := Lib.hid hx
          clear hx
          go_wp2_with fail
          (with_reducible refine (clone_any _ _ _ _ _ HC.out.rd (by omega)).mono ?_)
          rintro e w9 ⟨⟨A9, c9, rfl, ho9⟩, hb9⟩
          have kg9 := Blk.keep hb9 HC.out.kg
          have kr9 := Blk.keep hb9 HC.out.kr
          have BV9 : BytV (Fg w.heap.size g6) w9 (.slice A9 m1 c9) (payOf l') := own_bytV ho9 (HCH.out.byPay HB'.out) (fun k h1 _ => ⟨by omega, by omega⟩)
          clear c4 f4 z4 ho9
          have c4 := kg9.cell
          have f4 := kg9.frozen
          have z4 := kg9.lt
          have cr := kr9.cell
          have fr := kr9.frozen
          have zr := kr9.lt
          go_wp2_with fail
          obtain ⟨BF, hLF, kf⟩ := im_end (HC.out.bl.trans hb9) kg9 kr9 hg6 hzg (HC.out.nv.below hb9) (HC.out.row.below hb9) BV9
          have el : (ps1 ++ [chPrt l']).length = ps1.length + 1 := by simp
          rw [el] at BF hLF kf
          have cf := kf.cell
          obtain ⟨ep, ey⟩ : ps = ps1 ++ [chPrt l'] ∧ pay = payOf l' := by
            rcases HPQ.out with ⟨_, e2, e3⟩ | ⟨h, _⟩
            · exact ⟨by rw [HPS.out, e2], e3⟩
            · exact absurd HX0.out h
          generalize (((((w9.setCell ⟨g6, 3, none⟩ (.slice A9 m1 c9)).setCell ⟨w.heap.size, 0, none⟩ (.slice A0 4 c0)).setCell ⟨w.heap.size, 1, none⟩ (.slice none 0 0)).setCell ⟨w.heap.size, 2, none⟩ (.slice A5 (ps1.length + 1) c5)).setCell ⟨w.heap.size, 3, none⟩ (.slice A9 m1 c9)) = WF at *
          exact bodyPost_ret (v := .tuple #[.agg #[.slice A0 4 c0, .slice none 0 0, .slice A5 (ps1.length + 1) c5, .slice A9 m1 c9], .bool true]) (by simp [results, Try.results47, go_sem, cf]) rfl ⟨_, rfl, by rw [ep, ey]; exact hLF, BF⟩
        · rw [decide_eq_false hx] at hdt
          obtain ⟨qs, eq, hq⟩ : ∃ qs, ps2 = chPrt l' :: qs ∧ Pkt (payOf l') qs pay := by
            rcases HPQ.out with ⟨h, _⟩ | ⟨_, h⟩
            · exact absurd h hx
            · exact h
          go_wp2_with fail
          refine ⟨Lib.hid ⟨_, _, _, payOf l', ps1 ++ [chPrt l'], qs, _, rfl, HC.out.rd, HCH.out.byPay HB'.out, HC.out.inf, by simp; omega, HC.out.kg, HC.out.nv, HC.out.row, HC.out.kr, HC.out.bl, HC.out.sz, hq, by rw [HPS.out, eq]; simp⟩, by simp only; omega⟩
end Go.Proofs.Ytoljdgfbkebgcaa
namespace Go.Proofs.Ytoljdgfbkebgcaa
open Go.RowKit
set_option linter.unusedVariables false
set_option maxHeartbeats 4000000 in
set_option maxRecDepth 100000 in
theorem toldAck_any (A1 A : Option Addr) (n c1 m c gl : Nat) (l p : List Int) (w : World) (hl : By l) (h4 : 4 ≤ chL l) (hup : up4 (chL l) ≤ n) (hn2 : n ≤ 2000) (r : Rd .u8 w A1 n c1 l) (k : Blk w gl (chk A1 n c1 l) 135) (h : Rd .u8 w A m c p) (hp : By p) (hm : m ≤ 2000) :
    Calls Try.prog 49 #[.iface 133 (.pointer (some ⟨gl, 0, none⟩)), .slice A m c] w fun e w' =>
      Got w w' e ⟨[l.getD 0 0, l.getD 1 0, be (sub l 2 4), (up4 (chL l) : Int)], [], [], p⟩ := by
  have u4 : chL l ≤ up4 (chL l) := by unfold up4; omega
  have H := Lib.hid h
  have HP := Lib.hid hp
  have R := Lib.hid r
  have HB := Lib.hid hl
  have hlen := r.len
  have b0 := hl.getD 0
  have b1 := hl.getD 1
  have b2 := be_bd2 (sub l 2 4) (hl.sub _ _) (by rw [sub_length _ _ _ (by omega)])
  have b3 : (0 : Int) ≤ (up4 (chL l) : Int) ∧ (up4 (chL l) : Int) ≤ 2147483647 := by omega
  have hk : Blk w gl (#[.slice A1 (up4 (chL l)) c1, .slice (cutA A1 c1 (up4 (chL l))) (n - up4 (chL l)) (c1 - up4 (chL l)), .int .u8 (l.getD 0 0), .int .u8 (l.getD 1 0), .int .u16 (be (sub l 2 4)), .int .i64 (up4 (chL l))]) 135 := k
  generalize l.getD 0 0 = x0 at *
  generalize l.getD 1 0 = x1 at *
  generalize be (sub l 2 4) = L at *
  generalize up4 (chL l) = U at *
  generalize chL l = V at *
  clear h hp hl r k
  have t0 := ta_133_90
  have t1 := ta_133_97
  have t2 := ta_133_105
  have t3 := ta_133_115
  have t4 := ta_133_120
  have t5 := ta_133_125
  have t6 := ta_133_130
  have t7 := ta_133
  go_enter Try.func49, Try.ntmps49
  go_wp2_with fail
  (with_reducible refine (clone_any _ _ _ _ _ (H.out.below (by go_grown)) (by omega)).mono ?_)
  rintro e w1 ⟨⟨A2, c2, rfl, ho⟩, hb1⟩
  have kr := Blk.keep hb1 (Blk.new w _ _)
  have kl := Blk.keep hb1 (hk.alloc _)
  have OW := Lib.hid ho
  have cl := kl.cell
  have zl := kl.lt
  have cr := kr.cell
  have fr := kr.frozen
  have zr := kr.lt
  have B0 : Bl w w1 := Bl.trans (by go_grown) hb1
  have v3 := Lib.hid (own_bytV (F := fun k => w.heap.size < k ∧ k ≠ w1.heap.size) ho HP.out (fun k h1 h2 => by simp at h1; exact ⟨by omega, by omega⟩))
  clear ho
  go_wp2_with fail
  have kb := Blk.new w1 #[.slice none 0 0, .slice none 0 0, .slice none 0 0, .slice A2 m c2] 35
  have kl1 := kl.alloc (.cells #[.slice none 0 0, .slice none 0 0, .slice none 0 0, .slice A2 m c2] 35)
  have kr1 := kr.alloc (.cells #[.slice none 0 0, .slice none 0 0, .slice none 0 0, .slice A2 m c2] 35)
  have B1 : Bl w (w1.alloc (.cells #[.slice none 0 0, .slice none 0 0, .slice none 0 0, .slice A2 m c2] 35)) := B0.trans (by go_grown)
  have v31 := Lib.hid (BytV.below v3.out (w' := w1.alloc (.cells #[.slice none 0 0, .slice none 0 0, .slice none 0 0, .slice A2 m c2] 35)) (by go_grown))
  clear v3 cl zl cr fr kl kr hb1 hk OW B0
  have zr' : w.heap.size < w1.heap.size := zr
  generalize w1.alloc (.cells #[.slice none 0 0, .slice none 0 0, .slice none 0 0, .slice A2 m c2] 35) = W at *
  generalize w1.heap.size = gb at *
  clear zr
  (with_reducible refine (chunkv_any _ _ _ _ _ _ _ _ _ _ _ b0 b1 b2 b3).mono ?_)
  rintro e w2 ⟨rfl, hb2, kn, _⟩
  have kb2 := Blk.keep hb2 kb
  have kr2 := Blk.keep hb2 kr1
  have kl2 := Blk.keep hb2 kl1
  have zW : gb < W.heap.size := kb.lt
  have B2 := B1.trans hb2
  have cb := kb2.cell
  have fb := kb2.frozen
  have zb := kb2.lt
  have cr := kr2.cell
  have fr := kr2.frozen
  have zr := kr2.lt
  have cl := kl2.cell
  have zl := kl2.lt
  have hne : w.heap.size ≠ gb := Nat.ne_of_lt zr'
  go_wp2_with fail
  have hv0 := Lib.hid (NumV.of_block (F := fun k => w.heap.size < k ∧ k ≠ gb) [x0, x1, L, (U : Int)] (show _ ∧ _ from ⟨by omega, by omega⟩) kn.heap rfl rfl)
  refine bodyPost_ret (v := .tuple #[.agg #[.slice (some ⟨W.heap.size + 1, 0, none⟩) 4 4, .slice none 0 0, .slice none 0 0, .slice A2 m c2], .bool true]) (by simp [results, Try.results49, go_sem, cr]) rfl ⟨_, rfl, ?_, ?_⟩
  · have hL : LyrV (fun k => w.heap.size < k ∧ k ≠ gb) w2 (.agg #[.slice (some ⟨W.heap.size + 1, 0, none⟩) 4 4, .slice none 0 0, .slice none 0 0, .slice A2 m c2]) ⟨[x0, x1, L, (U : Int)], [], [], p⟩ :=
      ⟨_, _, _, _, rfl, hv0.out, DataV.nil _ _, PartsV.nil _ _, BytV.below v31.out hb2⟩
    have hL1 := LyrV.keepF hL ((KeepF.refl _ w2).setCell (p := ⟨gb, 0, none⟩) (fun h => h.2 rfl) (.slice (some ⟨W.heap.size + 1, 0, none⟩) 4 4))
    exact LyrV.mono (LyrV.boxed (g := w.heap.size) hL1 (fun h => by omega) _ _ _ _) (fun k h => Nat.le_of_lt h.1)
  · exact Bl.boxed (Below.setCell B2 (p := ⟨gb, 0, none⟩) (Nat.le_of_lt zr') _) (Nat.le_refl _) _ _ _ _
end Go.Proofs.Ytoljdgfbkebgcaa
