/- Rows of parts under construction: where another block is written. What a packet's chunks are, in plain Lean; rows of parts where a layer is made of them. layers.ZZKind at the known types. spec.parameters. -/
import Derived.Test.YtoljdgfbkebgcaaPq03
import Derived.Test.YtoljdgfbkebgcaaPq07
import Derived.Test.YtoljdgfbkebgcaaPq04
import Derived.Test.YtoljdgfbkebgcaaPq02
import Derived.LoopTactic
namespace Go.Proofs.Ytoljdgfbkebgcaa
open Go.RowKit
set_option linter.unusedVariables false
theorem PRow.set {F : Nat → Prop} {B g : Nat} {w : World} {v : Value} {ps : List Prt} {cs : Array Value} {T : TypeId} (h : PRow F B w v ps) (k : Blk w g cs T) (hT : 57 ≠ T) (hF : ¬ F g) (i : Nat) (u : Value) : PRow F B (w.setCell ⟨g, i, none⟩ u) v ps := by
  obtain ⟨vs, ho, he⟩ := h
  refine ⟨vs, own_set ho k hT i u, fun j hj => ?_⟩
  obtain ⟨u0, u1, e0, e1, h0, h1⟩ := he j hj
  have hm : ∀ k, Off F v w k → Off F v (w.setCell ⟨g, i, none⟩ u) k := fun k hk => ⟨hk.1, by simpa using hk.2⟩
  have hk : KeepF (Off F v w) w (w.setCell ⟨g, i, none⟩ u) := (KeepF.refl _ w).setCell (p := ⟨g, i, none⟩) (fun h => hF h.1.1) u
  exact ⟨u0, u1, e0, e1, (h0.keepF hk).mono hm, (h1.keepF hk).mono hm⟩
theorem PRow.mono {F G : Nat → Prop} {B : Nat} {w : World} {v : Value} {ps : List Prt} (h : PRow F B w v ps) (hFG : ∀ k, F k → G k) : PRow G B w v ps := by
  obtain ⟨vs, ho, he⟩ := h
  refine ⟨vs, ho, fun j hj => ?_⟩
  obtain ⟨u0, u1, e0, e1, h0, h1⟩ := he j hj
  exact ⟨u0, u1, e0, e1, h0.mono fun k hk => ⟨⟨hFG k hk.1.1, hk.1.2⟩, hk.2⟩, h1.mono fun k hk => ⟨⟨hFG k hk.1.1, hk.1.2⟩, hk.2⟩⟩
theorem PRow.form {F : Nat → Prop} {B : Nat} {w : World} {v : Value} {ps : List Prt} (h : PRow F B w v ps) : ∃ A c, v = .slice A ps.length c := by
  obtain ⟨vs, ho, _⟩ := h
  exact ownsRow_form ho
/-- The cells of a row of one's own, of elements of four cells. -/
theorem own_cell4 {w : World} {B e q : Nat} {A : Option Addr} {n c : Nat} {vs : List Value} (h : w.ownsRow B e 4 (.slice A n c) q vs) (hq : 0 < q) : ∃ g cs, A = some ⟨g, 0, none⟩ ∧ n = q ∧ B ≤ g ∧ Blk w g cs e ∧ ∀ i, i < q * 4 → cs[i]? = vs[i]? := by
  rcases h.2 with ⟨h1, h2⟩ | ⟨g, cap, cur, h1, hg, hh, hc, _, hs, ht⟩
  · simp at h1; omega
  · simp at h1
    obtain ⟨rfl, rfl, rfl⟩ := h1
    refine ⟨g, cur, rfl, rfl, hg, ⟨hh⟩, fun i hi => ?_⟩
    rw [← ht, List.getElem?_take_of_lt hi, Array.getElem?_toList]
end Go.Proofs.Ytoljdgfbkebgcaa
namespace Go.Proofs.Ytoljdgfbkebgcaa
open Go.RowKit
set_option linter.unusedVariables false
/-- The part that a chunk is. -/
def chPrt (l : List Int) : Prt := ⟨[l.getD 0 0, l.getD 1 0, be (sub l 2 4)], conOf l⟩
/-- Chunks one behind the other: their parts, and what stands behind them (of a chunk of data: its data). -/
def PktN : Nat → List Int → List Prt → List Int → Prop
  | 0, l, ps, pay => l.length = 0 ∧ ps = [] ∧ pay = []
  | k + 1, l, ps, pay => (l.length = 0 ∧ ps = [] ∧ pay = []) ∨ (0 < l.length ∧ kindOf (l.getD 0 0) ≠ kUnk ∧ ∃ L, Chunk l L ∧ ((l.getD 0 0 = 0 ∧ ps = [chPrt l] ∧ pay = payOf l) ∨ (l.getD 0 0 ≠ 0 ∧ ∃ qs, ps = chPrt l :: qs ∧ PktN k (payOf l) qs pay)))
def Pkt (l : List Int) (ps : List Prt) (pay : List Int) : Prop := ∃ k, PktN k l ps pay
theorem Pkt.nil (l : List Int) (h : l.length = 0) : Pkt l [] [] := ⟨0, h, rfl, rfl⟩
theorem Pkt.data {l : List Int} {L : Lyr} (h0 : 0 < l.length) (h : Chunk l L) (hx : l.getD 0 0 = 0) : Pkt l [chPrt l] (payOf l) := ⟨1, .inr ⟨h0, by rw [hx]; simp [kindOf, kDat, kUnk], L, h, .inl ⟨hx, rfl, rfl⟩⟩⟩
theorem Pkt.cons {l : List Int} {L : Lyr} {qs : List Prt} {pay : List Int} (h0 : 0 < l.length) (hk : kindOf (l.getD 0 0) ≠ kUnk) (h : Chunk l L) (hx : l.getD 0 0 ≠ 0) (hq : Pkt (payOf l) qs pay) : Pkt l (chPrt l :: qs) pay := by
  obtain ⟨k, hq⟩ := hq
  exact ⟨k + 1, .inr ⟨h0, hk, L, h, .inr ⟨hx, qs, rfl, hq⟩⟩⟩
theorem Pkt.parts {l : List Int} {ps : List Prt} {pay : List Int} (h : Pkt l ps pay) : (l.length = 0 ∧ ps = [] ∧ pay = []) ∨ (0 < l.length ∧ kindOf (l.getD 0 0) ≠ kUnk ∧ ∃ L, Chunk l L ∧ ((l.getD 0 0 = 0 ∧ ps = [chPrt l] ∧ pay = payOf l) ∨ (l.getD 0 0 ≠ 0 ∧ ∃ qs, ps = chPrt l :: qs ∧ Pkt (payOf l) qs pay))) := by
  obtain ⟨k, hk⟩ := h
  cases k with
  | zero => exact .inl hk
  | succ k =>
    rcases hk with hk | ⟨h0, hu, L, hc, hk⟩
    · exact .inl hk
    · refine .inr ⟨h0, hu, L, hc, ?_⟩
      rcases hk with hk | ⟨hx, qs, e, hk⟩
      · exact .inl hk
      · exact .inr ⟨hx, qs, e, k, hk⟩
theorem payOf_len {l : List Int} {L : Lyr} (h : Chunk l L) : (payOf l).length + 4 ≤ l.length := by
  have h1 := h.low
  have h2 := h.up
  have h3 : chL l ≤ up4 (chL l) := by unfold up4; omega
  unfold payOf
  split
  · rename_i h0
    have := h.dat h0
    rw [sub_length _ _ _ (by omega)]
    omega
  · rw [sub_length _ _ _ (by omega)]
    omega
theorem kind_data (x : Int) : ((kindOf x).toList == [115, 99, 116, 112, 100, 97, 116, 97]) = decide (x = 0) := by
  by_cases h : x = 0
  · subst h
    simp [kindOf, kDat, go_sem]
  · by_cases hk : Known x
    · rcases hk with rfl | rfl | rfl | rfl | rfl | rfl | rfl | rfl | rfl | rfl | rfl | rfl | rfl <;> first | exact absurd rfl h | (simp [kindOf, kIni, kSac, kHea, kErr, kShu, kAck, kCoo, kEmp, go_sem])
    · rw [(kindRow_else x hk).2]
      simp [kUnk, go_sem, h]
theorem kind_unk (x : Int) : ((kindOf x).toList == [115, 99, 116, 112, 117, 110, 107, 110, 111, 119, 110]) = decide (kindOf x = kUnk) := by
  by_cases hk : Known x
  · rcases hk with rfl | rfl | rfl | rfl | rfl | rfl | rfl | rfl | rfl | rfl | rfl | rfl | rfl <;> (simp [kindOf, kDat, kIni, kSac, kHea, kErr, kShu, kAck, kCoo, kEmp, kUnk, go_sem])
  · rw [(kindRow_else x hk).2]
    simp [kUnk, go_sem]
/-- A layer of numbers, of a row of parts, and of a payload. -/
theorem LyrV.of_row {F : Nat → Prop} {B : Nat} {w : World} {v0 v2 v3 : Value} {ns : List Int} {ps : List Prt} {pay : List Int} (h0 : NumV F w v0 ns) (h2 : PRow F B w v2 ps) (hF : ∀ k, B ≤ k → k < w.heap.size → F k) (h3 : BytV F w v3 pay) :
    LyrV F w (.agg #[v0, .slice none 0 0, v2, v3]) ⟨ns, [], ps, pay⟩ :=
  ⟨_, _, _, _, rfl, h0, DataV.nil _ _, h2.parts hF, h3⟩
/-- The header's numbers. -/
def hdNums (l : List Int) : List Int := [be (sub l 0 2), be (sub l 2 4), be (sub l 4 8), be (sub l 8 12)]
/-- The blocks apart from two. -/
abbrev Two (a b k : Nat) : Prop := k ≠ a ∧ k ≠ b
end Go.Proofs.Ytoljdgfbkebgcaa
namespace Go.Proofs.Ytoljdgfbkebgcaa
open Go.RowKit
set_option linter.unusedVariables false
set_option maxHeartbeats 2000000 in
theorem zzkind_any (x : Int) (w : World) (h : kindOf x ≠ kUnk) : Calls Try.prog 65 #[.int .u8 x] w fun e w' => e = .returned (.string (kindOf x)) ∧ w = w' := by
  have hk : Known x := by
    by_cases hk : Known x
    · exact hk
    · exact absurd (kindRow_else x hk).2 h
  clear h
  rcases hk with rfl | rfl | rfl | rfl | rfl | rfl | rfl | rfl | rfl | rfl | rfl | rfl | rfl
  all_goals go_enter Try.func65, Try.ntmps65
  all_goals go_wp2_with fail
  all_goals go_ret
  all_goals exact ⟨rfl, rfl⟩
end Go.Proofs.Ytoljdgfbkebgcaa
namespace Go.Proofs.Ytoljdgfbkebgcaa
open Go.RowKit
set_option linter.unusedVariables false
theorem ud33p : Try.prog.underlying 33 = some (.slice 57) := by kernel_rfl
set_option maxHeartbeats 2000000 in
set_option maxRecDepth 100000 in
theorem prm_any (F : Nat → Prop) (A : Option Addr) (n c : Nat) (l : List Int) (w : World) (h : Rd .u8 w A n c l) (hl : By l) (hA : InF F A n) (hF : ∀ k, w.heap.size ≤ k → F k) (hn : n ≤ 2147483647) :
    Calls Try.prog 64 #[.slice A n c] w fun e w' => Bl w w' ∧ ((prmsOf l = none ∧ e = .returned (.tuple #[.slice none 0 0, .bool false])) ∨ ∃ v ps, prmsOf l = some ps ∧ e = .returned (.tuple #[v, .bool true]) ∧ PartsV F w' v ps) := by
  have H := Lib.hid h
  have HA := Lib.hid hA
  have HF := Lib.hid hF
  have HB := Lib.hid hl
  clear h hA hF hl
  go_enter Try.func64, Try.ntmps64
  go_wp2_with fail
  go_loopw [0, 4] (fun b v wr => Hid (∃ (A' : Option Addr) (n' c' : Nat) (l' : List Int) (ps : List Prt), b = .slice A' n' c' ∧ Rd .u8 wr A' n' c' l' ∧ By l' ∧ InF (fun k => F k ∧ k < w.heap.size) A' n' ∧ n' + ps.length ≤ n ∧ PRow F w.heap.size wr v ps ∧ Bl w wr ∧ prmsOf l = (prmsOf l').map (ps ++ ·))) (fun b _ _ => match b with | .slice _ n _ => n | _ => 0)
  case atStart => exact Lib.hid ⟨A, n, c, l, [], rfl, H.out.below (by go_grown), HB.out, InF.strong H.out HA.out, by simp, PRow.of_own F (World.ownsRow_lit w #[] 0 (Nat.le_refl _) (by decide) rfl), by go_grown, by simp⟩
  case round =>
    obtain ⟨A', n', c', l', ps, rfl, h, hl, hA, hnn, hp, hb, he⟩ := hrel.out
    clear hrel
    have hcap := h.cap
    have hlen := h.len
    by_cases h0 : n' = 0
    · have hz : prmsOf l' = some [] := prmsOf_nil l' (by omega)
      have HP := Lib.hid hp
      have HE := Lib.hid (he.trans (by rw [hz]))
      obtain ⟨vs, ho, _⟩ := hp
      obtain ⟨A4, c4, rfl⟩ := ownsRow_form ho
      subst h0
      clear h hl hA he ho hz
      go_wp2_with fail
      go_ret2
      exact ⟨hb, .inr ⟨_, ps, by simpa using HE.out, rfl, HP.out.parts (fun k hk _ => HF.out k hk)⟩⟩
    have h0' : (0 : Int) < (n' : Int) := by omega
    by_cases h4 : n' < 4
    · have h4' : (n' : Int) < 4 := by omega
      have HE := Lib.hid (he.trans (by rw [prmsOf_bad l' (by omega) (.inl (by omega))]))
      obtain ⟨vs, ho, _⟩ := hp
      obtain ⟨A4, c4, rfl⟩ := ownsRow_form ho
      clear h hl hA he ho
      go_wp2_with fail
      go_ret2
      exact ⟨hb, .inl ⟨by simpa using HE.out, rfl⟩⟩
    have h4' : (4 : Int) ≤ (n' : Int) := by omega
    have s1 := run_cut A' n' c' 2 4 2 4 rfl rfl (by omega) (by omega) 24 Try.underlying24 size5
    have R1 := Lib.hid (h.cutm 2 4 2 (by omega) (by omega))
    have HB1 := Lib.hid hl
    have b1 := be_bd2 (sub l' 2 4) (hl.sub _ _) (by rw [sub_length _ _ _ (by omega)])
    have e1 := chL_int l' hl
    have E1 := Lib.hid e1
    have R := Lib.hid h
    have HE0 := Lib.hid he
    have HP := Lib.hid hp
    have HA1 := Lib.hid hA
    by_cases hV : chL l' < 4
    · have HE := Lib.hid (he.trans (by rw [prmsOf_bad l' (by omega) (.inr (.inl hV))]))
      have hV' : be (sub l' 2 4) < 4 := by omega
      obtain ⟨vs, ho, _⟩ := hp
      obtain ⟨A4, c4, rfl⟩ := ownsRow_form ho
      clear h hl hA he ho e1 hV
      generalize HG : be (sub l' 2 4) = G at *
      go_wp2_with fail
      (with_reducible refine (num_any _ _ _ _ _ R1.out (HB1.out.sub 2 4) (by omega) (by omega)).mono ?_)
      rintro e w2 ⟨rfl, rfl⟩
      rw [HG]
      go_wp2_with fail
      go_ret2
      exact ⟨hb, .inl ⟨by simpa using HE.out, rfl⟩⟩
    by_cases hL : n' < chL l'
    · have HE := Lib.hid (he.trans (by rw [prmsOf_bad l' (by omega) (.inr (.inr (by omega)))]))
      have hV' : 4 ≤ be (sub l' 2 4) := by omega
      have hL' : (n' : Int) < be (sub l' 2 4) := by omega
      obtain ⟨vs, ho, _⟩ := hp
      obtain ⟨A4, c4, rfl⟩ := ownsRow_form ho
      clear h hl hA he ho e1 hV hL
      generalize HG : be (sub l' 2 4) = G at *
      go_wp2_with fail
      (with_reducible refine (num_any _ _ _ _ _ R1.out (HB1.out.sub 2 4) (by omega) (by omega)).mono ?_)
      rintro e w2 ⟨rfl, rfl⟩
      rw [HG]
      go_wp2_with fail
      go_ret2
      exact ⟨hb, .inl ⟨by simpa using HE.out, rfl⟩⟩
    have HE := Lib.hid (he.trans (by rw [prmsOf_cons l' (by omega) (by omega) (by omega), Option.map_map]))
    have hV' : 4 ≤ be (sub l' 2 4) := by omega
    have hL' : be (sub l' 2 4) ≤ (n' : Int) := by omega
    obtain ⟨vs, ho, hes⟩ := hp
    obtain ⟨A4, c4, rfl⟩ := ownsRow_form ho
    have HO := Lib.hid ho
    have HES := Lib.hid hes
    have s2 := run_cut_h A' n' c' 2 2 rfl (by omega) 24 Try.underlying24 size5
    have s3 := run_cut A' n' c' 4 (chL l') 4 (be (sub l' 2 4)) rfl e1 (by omega) (by omega) 24 Try.underlying24 size5
    have R2 := Lib.hid (h.cut0 2 (by omega))
    have R3 := Lib.hid (h.cut 4 (chL l') (by omega) (by omega))
    have hb0 := be_bd2 (sub l' 0 2) (hl.sub _ _) (by rw [sub_length _ _ _ (by omega)])
    clear h hl hA he ho e1 hV hL hes
    generalize HG : be (sub l' 2 4) = G at *
    go_wp2_with fail
    (with_reducible refine (num_any _ _ _ _ _ R1.out (HB1.out.sub 2 4) (by omega) (by omega)).mono ?_)
    rintro e w2 ⟨rfl, rfl⟩
    rw [HG]
    go_wp2_with fail
    clear s1
    generalize HV : chL l' = V at *
    refine wp_region_float (S := Grw wr) [true, true, true, false, true, true, true, false, false, false, true, true, true, false, false, false, false] 15 (by kernel_rfl) (by kernel_rfl) (Grw.drew wr) ?_
    simp only [selQ, selN, earlyN]
    repeat (first | go_big_quiet_skip | (go_big_quiet_want; go_big_quiet_op; go_big_quiet_on))
    refine wpQuiet_nil ?_
    have Bd : Bl wr wr.drew := (Bl.refl wr).drew
    refine wpN_want rfl (fun K hK => ?_)
    go_big_op
    (with_reducible refine (num_any _ _ _ _ _ (R2.out.below Bd) (HB1.out.sub 0 2) (by omega) (by omega)).mono ?_)
    rintro e w2 ⟨rfl, rfl⟩
    refine hK _ _ (Grw.of Bd) ?_
    clear hK K
    generalize HG0 : be (sub l' 0 2) = G0 at *
    refine wpN_want rfl (fun K hK => ?_)
    go_big_op
    (with_reducible refine (sup_any _ (by omega) (by omega) _).mono ?_)
    rintro e w2 ⟨rfl, rfl⟩
    refine hK _ _ (Grw.of Bd) ?_
    clear hK K
    refine wpN_want rfl (fun K hK => ?_)
    go_big_op
    refine hK _ _ (Grw.of Bd) ?_
    clear hK K
    refine wpN_want rfl (fun K hK => ?_)
    go_big_op
    have B3 : Bl wr (wr.drew.alloc (.cells #[.int .u64 G0, .int .u64 G, .int .u64 ((G + 3) / 4 * 4)] 26)) := Bd.trans (by go_grown)
    refine hK _ _ (Grw.of B3) ?_
    clear hK K
    refine wpN_want rfl (fun K hK => ?_)
    go_big_op
    refine hK _ _ (Grw.of B3) ?_
    clear hK K
    refine wpN_want rfl (fun K hK => ?_)
    go_big_op
    have B4 : Bl wr (((wr.alloc (.cells #[.int .u64 G0, .int .u64 G, .int .u64 ((G + 3) / 4 * 4)] 26)).alloc (.cells #[.slice (some ⟨wr.heap.size, 0, none⟩) 3 3, .slice (cutA A' c' 4) (V - 4) (c' - 4)] 57)).drew) := (show Bl wr ((wr.alloc (.cells #[.int .u64 G0, .int .u64 G, .int .u64 ((G + 3) / 4 * 4)] 26)).alloc (.cells #[.slice (some ⟨wr.heap.size, 0, none⟩) 3 3, .slice (cutA A' c' 4) (V - 4) (c' - 4)] 57)) by go_grown).drew
    refine hK _ _ (Grw.of B4) ?_
    clear hK K
    refine wpN_late ?_
    have kn : Blk (((wr.alloc (.cells #[.int .u64 G0, .int .u64 G, .int .u64 ((G + 3) / 4 * 4)] 26)).alloc (.cells #[.slice (some ⟨wr.heap.size, 0, none⟩) 3 3, .slice (cutA A' c' 4) (V - 4) (c' - 4)] 57)).drew) wr.heap.size #[.int .u64 G0, .int .u64 G, .int .u64 ((G + 3) / 4 * 4)] 26 := ((Blk.new wr _ _).alloc _).same rfl
    have kp : Blk (((wr.alloc (.cells #[.int .u64 G0, .int .u64 G, .int .u64 ((G + 3) / 4 * 4)] 26)).alloc (.cells #[.slice (some ⟨wr.heap.size, 0, none⟩) 3 3, .slice (cutA A' c' 4) (V - 4) (c' - 4)] 57)).drew) (wr.heap.size + 1) #[.slice (some ⟨wr.heap.size, 0, none⟩) 3 3, .slice (cutA A' c' 4) (V - 4) (c' - 4)] 57 := (Blk.newAt (wr.alloc (.cells #[.int .u64 G0, .int .u64 G, .int .u64 ((G + 3) / 4 * 4)] 26)) _ _ _ (by simp)).same rfl
    have KN := Lib.hid kn
    have KP := Lib.hid kp
    clear kn kp B3
    generalize ((wr.alloc (.cells #[.int .u64 G0, .int .u64 G, .int .u64 ((G + 3) / 4 * 4)] 26)).alloc (.cells #[.slice (some ⟨wr.heap.size, 0, none⟩) 3 3, .slice (cutA A' c' 4) (V - 4) (c' - 4)] 57)).drew = W4 at *
    have hbz := hb.size
    refine wpList_app rfl (.tmp 25) (.tmp 39) 33 57 (.agg #[.slice none 0 0, .slice none 0 0]) 2 48 w.heap.size rfl ud33p info57 rfl (by decide) (by decide) (.slice A4 ps.length c4) ps.length vs (some ⟨wr.heap.size + 1, 0, none⟩) 1 1 [.slice (some ⟨wr.heap.size, 0, none⟩) 3 3, .slice (cutA A' c' 4) (V - 4) (c' - 4)] rfl rfl (own_bl HO.out B4) (Blk.src KP.out 1 2 rfl (by simp [Value.oneCell'])) (by omega) (Nat.le_trans hbz B4.size) ?_
    intro A5 c5 w5 hp5
    have hU : (G + 3) / 4 * 4 = ((up4 V : Nat) : Int) := by have := E1.out; unfold up4; omega
    have hown : ∀ k, (Value.slice A4 ps.length c4).ownBlock = some k → w.heap.size ≤ k ∧ k < wr.heap.size := fun k hk => HO.out.lt k hk
    have h0n : NumV (fun k => F k ∧ (Value.slice A4 ps.length c4).ownBlock ≠ some k) W4 (.slice (some ⟨wr.heap.size, 0, none⟩) 3 3) (prmAt l').nums := by
      have e : (prmAt l').nums = [G0, G, (G + 3) / 4 * 4] := by unfold prmAt; rw [HG0, HV, hU, E1.out]
      rw [e]
      exact Blk.numV (F := fun k => F k ∧ (Value.slice A4 ps.length c4).ownBlock ≠ some k) KN.out ⟨HF.out _ hbz, fun e => by have := hown _ e; omega⟩ [G0, G, (G + 3) / 4 * 4] rfl
    have h1n : BytV (fun k => F k ∧ (Value.slice A4 ps.length c4).ownBlock ≠ some k) W4 (.slice (cutA A' c' 4) (V - 4) (c' - 4)) (prmAt l').data := by
      have e : (prmAt l').data = sub l' 4 V := by unfold prmAt; rw [HV]
      rw [e]
      refine (R3.out.below B4).bytV ?_ (HB1.out.sub _ _)
      exact cutA_inF (HA1.out.mono fun k hk => ⟨hk.1, fun e => by have := hown _ e; omega⟩) (fun _ => by omega)
    have hp6 := PRow.app (els_below HES.out B4) (own_bl HO.out B4) hp5 h0n h1n
    have HP6 := Lib.hid hp6
    have B5 : Bl w w5 := hp5.bl (own_bl HO.out B4) (hb.trans B4)
    clear hp6 h0n h1n hown hp5 HES HO HP KN KP R3 B4 s2 s3
    go_wp2_with fail
    refine NoPanic.normal ?_
    go_wp2_with fail
    (with_reducible refine (sup_any _ (by omega) (by omega) _).mono ?_)
    rintro e w6 ⟨rfl, rfl⟩
    go_wp2_with fail
    have hm : (if n' < up4 V then (n' : Int) else (up4 V : Int)).toNat = min (up4 V) n' := by split <;> omega
    have hm4 : 4 ≤ min (up4 V) n' := by have := E1.out; unfold up4; omega
    rw [hm]
    rw [hlen] at HE
    have hmn : min (up4 V) n' ≤ n' := Nat.min_le_right _ _
    generalize min (up4 V) n' = m at *
    have hk : KeepF (fun k => F k ∧ k < w.heap.size) wr w5 := fun k hF _ => (B5.block k hF.2).trans (hb.block k hF.2).symm
    have r5 := (R.out.keepF HA1.out hk).cut m n' hmn (Nat.le_refl _)
    have es : sub l' m n' = l'.drop m := by rw [← hlen]; simp [sub]
    rw [es] at r5
    have hbd : By (l'.drop m) := by rw [← es]; exact HB1.out.sub _ _
    refine ⟨Lib.hid ⟨cutA A' c' m, n' - m, c' - m, l'.drop m, ps ++ [prmAt l'], rfl, r5, hbd, cutA_inF HA1.out (fun _ => by omega), by simp; omega, by simpa using HP6.out, B5, ?_⟩, by simp only; omega⟩
    rw [HE.out]
    congr 1
    funext x
    simp
end Go.Proofs.Ytoljdgfbkebgcaa
