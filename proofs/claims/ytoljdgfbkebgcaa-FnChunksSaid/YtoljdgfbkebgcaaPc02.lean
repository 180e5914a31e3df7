/- laws.chunk: the bytes of a chunk that is made. A list of chunks that came in; laws.zzFits1 of it. -/
import Derived.Test.YtoljdgfbkebgcaaPc01
import Derived.Test.YtoljdgfbkebgcaaPq07
import Derived.Test.YtoljdgfbkebgcaaPq03
import Derived.Test.YtoljdgfbkebgcaaPq02
import Derived.LoopTactic
import Derived.Deep.DeepCutAuto
import Derived.Deep.CutBlock
import Derived.Test.YtoljdgfbkebgcaaPq01
namespace Go.Proofs.Ytoljdgfbkebgcaa
open Go.RowKit
set_option linter.unusedVariables false
/-! ### slices.Clone -/
theorem sclone_nil (c : Nat) (w : World) :
    Calls Try.prog 37 #[.slice none 0 c] w fun e w' => e = .returned (.slice none 0 0) ∧ w = w' := by
  have hq := fun W : World => Lib.run_eql_slice_nil (P := Try.prog) W 24 5 none 0 c 0 0 Try.underlying24
  go_enter Try.func37, Try.ntmps37
  go_wp2
  go_ret
  exact ⟨rfl, rfl⟩
theorem sclone_any (A : Option Addr) (n c : Nat) (l : List Int) (w : World) (h : Rd .u8 w A n c l) (hn : n ≤ 2147483647) :
    Calls Try.prog 37 #[.slice A n c] w fun e w' => (∃ A1 c1, e = .returned (.slice A1 n c1) ∧ w'.ownsRow w.heap.size 5 1 (.slice A1 n c1) n (l.map (Value.int .u8))) ∧ Bl w w' := by
  cases A with
  | none =>
    have h0 : n = 0 := by
      rcases Nat.eq_zero_or_pos n with h0 | h0
      · exact h0
      · obtain ⟨g, o, e, _⟩ := h.cell 0 h0
        simp at e
    subst h0
    have hl : l = [] := List.eq_nil_of_length_eq_zero h.len
    subst hl
    exact (sclone_nil c w).mono fun e w' ⟨he, hw⟩ => ⟨⟨none, 0, he, World.ownsRow_nil _ _ _ _⟩, Bl.of_same hw⟩
  | some ad =>
    have hq := fun W : World => Lib.run_eql_slice_nil (P := Try.prog) W 24 5 (some ad) n c 0 0 Try.underlying24
    have hs := h.src
    have HS := Lib.hid hs
    clear hs h
    go_enter Try.func37, Try.ntmps37
    go_wp2_with (at_builtin; refine wpList_app rfl _ _ 24 5 (.int .u8 0) 1 1 w.heap.size rfl Try.underlying24 info5 rfl (by decide) (by decide) (.slice (some ⟨w.heap.size, 0, none⟩) 0 0) 0 [] _ _ _ _ rfl rfl ?_ (Src.alloc HS.out _) (by omega) ?_ ?_; exact World.ownsRow_lit w #[] 0 (Nat.le_refl _) (by decide) rfl; simp; intro A1 c1 w1 hp)
    go_ret
    have ho : w1.ownsRow w.heap.size 5 1 (.slice A1 n c1) n (l.map (Value.int .u8)) := by simpa using hp.own
    exact ⟨⟨_, _, rfl, ho⟩, hp.bl (World.ownsRow_lit w #[] 0 (Nat.le_refl _) (by decide) rfl) (by go_grown)⟩
theorem own_rd_at {w : World} {base n m c : Nat} {e : TypeId} {k : IntKind} {A : Option Addr} {l : List Int} (h : w.ownsRow base e 1 (.slice A m c) n (l.map (Value.int k))) : Rd k w A n c l := by
  obtain ⟨A', c', e, hr⟩ := own_rd h
  simp only [Value.slice.injEq] at e
  obtain ⟨rfl, -, rfl⟩ := e
  exact hr
/-! ### The parameter's cells -/
abbrev ckCells (kd fl : Int) (A : Option Addr) (n c : Nat) : Array Value := #[.int .u8 kd, .int .u8 fl, .slice A n c]
/-- How many bytes a parameter takes. -/
theorem mk_q {wr : World} {v : Value} (y0 : Int) (n' : Nat) (b0 : 0 ≤ y0) (h0 : 0 < n') {d : Int} (hv : v = .int .i64 (wrap64 (1 + y0 % d))) (hd : (d = 9 ∧ 9 < n') ∨ (d = n' ∧ n' ≤ 9)) :
    Hid (∃ q : Nat, v = .int .i64 (q : Int) ∧ 1 ≤ q ∧ q ≤ 9 ∧ q ≤ n' ∧ wr = wr) := by
  have hd0 : 0 < d := by omega
  have h1 := Int.emod_nonneg y0 (b := d) (by omega)
  have h2 := Int.emod_lt_of_pos y0 hd0
  refine Lib.hid ⟨(1 + y0 % d).toNat, ?_, by omega, by omega, by omega, rfl⟩
  rw [hv]
  congr 1
  unfold wrap64
  omega
/-- What stands behind the switch: the type, and what is told. -/
structure MkOut (w : World) (kd fl : Int) (A : Option Addr) (n c : Nat) (k : Int) (out : List Int) (s6 : Value) (wx : World) : Prop where
  own : wx.ownsRow (w.heap.size + 1) 5 1 s6 out.length (out.map (Value.int .u8))
  blk : Blk wx w.heap.size (ckCells kd fl A n c) 53
  bl : Bl w wx
  len : out.length ≤ 104
  byt : 0 ≤ k ∧ k ≤ 255
  ok : ChOk (chB k fl out) ⟨[k, fl, ((4 + out.length : Nat) : Int)], chB k fl out⟩
set_option maxHeartbeats 4000000 in
set_option maxRecDepth 100000 in
theorem mkc_any (kd fl : Int) (A : Option Addr) (n c : Nat) (l : List Int) (w : World) (h : Rd .u8 w A n c l) (hl : By l) (hk : 0 ≤ kd ∧ kd ≤ 255) (hf : 0 ≤ fl ∧ fl ≤ 255) :
    Calls Try.prog 39 #[.agg (ckCells kd fl A n c)] w fun e w' => ∃ A1 c1 x m P, e = .returned (.tuple #[.slice A1 x.length c1, .int .i64 m]) ∧ ChOk x P ∧ P = ⟨[x.getD 0 0, x.getD 1 0, m], x⟩ ∧ 4 ≤ x.length ∧ 0 ≤ m ∧ m ≤ 255 ∧
      Rd .u8 w' A1 x.length c1 x ∧ InF (fun k => w.heap.size ≤ k) A1 x.length ∧ Bl w w' := by
  have hcap := h.cap
  have hm : min n 40 ≤ n := Nat.min_le_left _ _
  have HR := Lib.hid (h.cut0 (min n 40) hm)
  have HB := Lib.hid (hl.sub 0 (min n 40))
  clear h hl
  go_enter Try.func39, Try.ntmps39
  go_upto_region 1 with fail
  go_cut [4] (fun s4 wx => s4 = .slice A (min n 40) c ∧ wx = w.alloc (.cells (ckCells kd fl A n c) 53))
  case first =>
    go_wp2_with fail
    all_goals go_meet
    all_goals case rel => exact ⟨by first | rfl | (congr 1; omega), rfl⟩
  case rest =>
    obtain ⟨rfl, rfl⟩ := hcut
    generalize hM : min n 40 = m at *
    have hm40 : m ≤ 40 := by omega
    have hlb := HR.out.len
    generalize sub l 0 m = lb at *
    go_upto_block 0 with fail
    have kb0 : Blk ((w.alloc (.cells (ckCells kd fl A n c) 53)).alloc (.cells #[] 5)) w.heap.size (ckCells kd fl A n c) 53 := (Blk.new w _ _).alloc _
    have BW0 : Bl w ((w.alloc (.cells (ckCells kd fl A n c) 53)).alloc (.cells #[] 5)) := by go_grown
    have ho0 : ((w.alloc (.cells (ckCells kd fl A n c) 53)).alloc (.cells #[] 5)).ownsRow (w.heap.size + 1) 5 1 (.slice (some ⟨w.heap.size + 1, 0, none⟩) 0 0) 0 [] := Blk.own (Blk.newAt (w.alloc _) #[] 5 (w.heap.size + 1) (by simp)) (Nat.le_refl _) rfl (by decide)
    have hz0 : ((w.alloc (.cells (ckCells kd fl A n c) 53)).alloc (.cells #[] 5)).heap.size = w.heap.size + 2 := by simp
    generalize (w.alloc (.cells (ckCells kd fl A n c) 53)).alloc (.cells #[] 5) = W0 at *
    have KB := Lib.hid kb0
    have HO := Lib.hid ho0
    have RW := Lib.hid (HR.out.below BW0)
    have c1 := kb0.cell
    have f1 := kb0.frozen
    have z1 := kb0.lt
    clear kb0 ho0
    go_cut [5, 6, 20] (fun s5 s6 _s20 wx => Hid (∃ k out, s5 = .int .u8 k ∧ MkOut w kd fl A n c k out s6 wx))
    case first =>
      have h6 : kd % 6 = 0 ∨ kd % 6 = 1 ∨ kd % 6 = 2 ∨ kd % 6 = 3 ∨ kd % 6 = 4 ∨ kd % 6 = 5 := by omega
      rcases h6 with h6 | h6 | h6 | h6 | h6 | h6
      · go_wp2_with fail
        (with_reducible refine (sclone_any _ _ _ _ _ RW.out (by omega)).mono ?_)
        rintro e w5 ⟨⟨A1, c1, rfl, ho5⟩, hb5⟩
        go_wp2_with fail
        go_meet
        case rel =>
          have el : m = lb.length := by omega
          rw [el] at ho5 ⊢
          exact Lib.hid ⟨10, lb, rfl, own_mono ho5 (by omega), Blk.keep hb5 KB.out, BW0.trans hb5, by omega, by decide, ok_cookie fl lb hf HB.out (by omega)⟩
      · by_cases h4 : (m : Int) < 4
        · go_wp2_with fail
          (with_reducible refine (sclone_any _ _ _ _ _ RW.out (by omega)).mono ?_)
          rintro e w5 ⟨⟨A1, c9, rfl, ho5⟩, hb5⟩
          go_wp2_with (at_builtin; refine wpList_appz rfl (.tmp 32) (.tmp 36) 24 3 5 .i64 W0.heap.size rfl Try.underlying24 Try.underlying3 info5 (.slice A1 m c9) m _ (4 - m) rfl (by show Value.int .i64 _ = _; congr 1; omega) ho5 (by omega) hb5.size ?_; intro A2 c2 w7 hp7)
          go_meet
          case rel =>
            have ho7 := hp7.own
            have B7 := hp7.bl ho5 hb5
            have el : m + (4 - m) = (lb ++ List.replicate (4 - m) 0).length := by simp; omega
            have em : lb.map (Value.int .u8) ++ zCells (4 - m) = (lb ++ List.replicate (4 - m) 0).map (Value.int .u8) := by rw [zCells_map, List.map_append]
            have hn4 : (lb ++ List.replicate (4 - m) 0).length = 4 := by simp; omega
            have ho8 : w7.ownsRow W0.heap.size 5 1 (.slice A2 (m + (4 - m)) c2) (lb ++ List.replicate (4 - m) 0).length ((lb ++ List.replicate (4 - m) 0).map (Value.int .u8)) := by rw [← el, ← em]; exact ho7
            exact Lib.hid ⟨7, lb ++ List.replicate (4 - m) 0, rfl, own_mono ho8 (by omega), Blk.keep B7 KB.out, BW0.trans B7, by rw [hn4]; decide, by decide, ok_shutdown fl _ hf (HB.out.app (By.zeros _)) hn4⟩
        · have h5 : m = 4 ∨ 4 < m := by omega
          clear h4
          rcases h5 with rfl | h5
          · go_wp2_with fail
            (with_reducible refine (sclone_any _ _ _ (sub lb 0 4) _ (RW.out.cut0 4 (by omega)) (by omega)).mono ?_)
            rintro e w5 ⟨⟨A1, c9, rfl, ho5⟩, hb5⟩
            go_wp2_with (at_builtin; refine wpList_appz rfl (.tmp 32) (.tmp 36) 24 3 5 .i64 W0.heap.size rfl Try.underlying24 Try.underlying3 info5 (.slice A1 4 c9) 4 _ 0 rfl (by first | rfl | (show Value.int .i64 _ = _; congr 1; omega)) ho5 (by omega) hb5.size ?_; intro A2 c2 w7 hp7)
            go_meet
            case rel =>
              have ho7 := hp7.own
              have B7 := hp7.bl ho5 hb5
              have hn4 : (sub lb 0 4).length = 4 := by rw [sub_length _ _ _ (by omega)]
              have ho8 : w7.ownsRow W0.heap.size 5 1 (.slice A2 4 c2) (sub lb 0 4).length ((sub lb 0 4).map (Value.int .u8)) := by rw [hn4]; simpa [zCells] using ho7
              exact Lib.hid ⟨7, sub lb 0 4, rfl, own_mono ho8 (by omega), Blk.keep B7 KB.out, BW0.trans B7, by rw [hn4]; decide, by decide, ok_shutdown fl _ hf (HB.out.sub 0 4) hn4⟩
          · go_wp2_with fail
            (with_reducible refine (sclone_any _ _ _ (sub lb 0 4) _ (RW.out.cut0 4 (by omega)) (by omega)).mono ?_)
            rintro e w5 ⟨⟨A1, c9, rfl, ho5⟩, hb5⟩
            go_wp2_with (at_builtin; refine wpList_appz rfl (.tmp 32) (.tmp 36) 24 3 5 .i64 W0.heap.size rfl Try.underlying24 Try.underlying3 info5 (.slice A1 4 c9) 4 _ 0 rfl (by first | rfl | (show Value.int .i64 _ = _; congr 1; omega)) ho5 (by omega) hb5.size ?_; intro A2 c2 w7 hp7)
            go_meet
            case rel =>
              have ho7 := hp7.own
              have B7 := hp7.bl ho5 hb5
              have hn4 : (sub lb 0 4).length = 4 := by rw [sub_length _ _ _ (by omega)]
              have ho8 : w7.ownsRow W0.heap.size 5 1 (.slice A2 4 c2) (sub lb 0 4).length ((sub lb 0 4).map (Value.int .u8)) := by rw [hn4]; simpa [zCells] using ho7
              exact Lib.hid ⟨7, sub lb 0 4, rfl, own_mono ho8 (by omega), Blk.keep B7 KB.out, BW0.trans B7, by rw [hn4]; decide, by decide, ok_shutdown fl _ hf (HB.out.sub 0 4) hn4⟩
      · have h2 : kd % 2 = 0 := by omega
        go_wp2_with fail
        clear h6 h2
        go_loopw [4, 6] (fun b o wr => Hid (∃ (A' : Option Addr) (n' c' : Nat) (l' out : List Int), b = .slice A' n' c' ∧ Rd .u8 wr A' n' c' l' ∧ By l' ∧ InF (· < w.heap.size) A' n' ∧ wr.ownsRow (w.heap.size + 1) 5 1 o out.length (out.map (Value.int .u8)) ∧ Blk wr w.heap.size (ckCells kd fl A n c) 53 ∧ Bl w wr ∧ By out ∧ Ahead out ∧ out.length ≤ 90)) (fun b _ _ => match b with | .slice _ n _ => n | _ => 0)
        case atStart =>
          exact Lib.hid ⟨_, _, _, lb, [], rfl, RW.out.below (by go_grown), HB.out, HR.out.inF, own_bl HO.out (by go_grown), Blk.keep (by go_grown) KB.out, BW0.trans (by go_grown), By.nil, Ahead.nil, by decide⟩
        case round =>
          obtain ⟨A', n', c', l', out, rfl, h, hl, hA, ho, kb, hb, hbo, hah, hol⟩ := hrel.out
          clear hrel
          have hsz := hb.size
          rcases Nat.eq_zero_or_pos n' with h0 | h0
          · subst h0
            have KQ := Lib.hid (And.intro ho (And.intro kb (And.intro hb (And.intro hbo hah))))
            clear h hl hA ho kb hb hbo hah
            go_wp2_with fail
            go_meet
            case rel =>
              exact Lib.hid ⟨4, out, rfl, KQ.out.1, KQ.out.2.1, KQ.out.2.2.1, by omega, by decide, ok_heart fl out hf KQ.out.2.2.2.1 (by omega) KQ.out.2.2.2.2⟩
          · have hlen := h.len
            have hcap' := h.cap
            obtain ⟨g, o, rfl, hg, hc⟩ := h.at h0
            have d0 := hc 0 h0
            simp only [Nat.add_zero] at d0
            have b0 := hl.getD 0
            generalize hY : l'.getD 0 0 = y0 at *
            have HY := Lib.hid hY
            have HH := Lib.hid h
            have HL := Lib.hid hl
            have HA := Lib.hid hA
            have HQ := Lib.hid (And.intro ho (And.intro kb (And.intro hb (And.intro hbo hah))))
            obtain ⟨A6, c6, rfl⟩ := ownsRow_form ho
            clear hY h hl hA ho kb hb hbo hah hc
            go_upto_region 12 with fail
            go_cut [7] from 47 to 84 (fun s7 wx => Hid (∃ q : Nat, s7 = .int .i64 (q : Int) ∧ 1 ≤ q ∧ q ≤ 9 ∧ q ≤ n' ∧ wx = wr))
            case first =>
              go_wp2_with fail
              all_goals go_meet
              all_goals case rel => exact mk_q y0 n' b0.1 h0 rfl (by omega)
            case rest =>
              obtain ⟨q, rfl, hq1, hq9, hqn, rfl⟩ := hcut.out
              clear hcut
              have p1 := run_cut (some ⟨g, o, none⟩) n' c' 1 q 1 q rfl rfl hq1 (by omega) 24 Try.underlying24 size5
              have p2 := run_cut_l (some ⟨g, o, none⟩) n' c' q q rfl hqn 24 Try.underlying24 size5
              have KN := Lib.hid (Blk.new wc #[.int .u8 0, .int .u8 y0, .int .u8 0, .int .u8 (3 + (q : Int))] 5)
              have BN := Lib.hid (show Bl wc (wc.alloc (.cells #[.int .u8 0, .int .u8 y0, .int .u8 0, .int .u8 (3 + (q : Int))] 5)) by go_grown)
              have RS := Lib.hid ((HH.out.cut 1 q hq1 hqn).src)
              have hzc : w.heap.size + 1 ≤ wc.heap.size := by have := HQ.out.2.1.lt; omega
              have hol' := Lib.hid hol
              clear hol
              have HSR : Hid (∀ V, Below (w.heap.size + 1) wc V → Src V (cutA (some ⟨g, o, none⟩) c' 1) (q - 1) 1 ((sub l' 1 q).map (Value.int .u8))) := Lib.hid (fun V hV => ((HH.out.belowB (fun x hx => Nat.lt_succ_of_lt (HA.out h0 x hx)) hV).cut 1 q hq1 hqn).src)
              clear RS
              go_wp2_with (at_builtin; first | (refine wpList_app rfl (.tmp 59) (.tmp 66) 24 5 (.int .u8 0) 1 1 (w.heap.size + 1) rfl Try.underlying24 info5 rfl (by decide) (by decide) (.slice A6 out.length c6) out.length (out.map (Value.int .u8)) (some ⟨wc.heap.size, 0, none⟩) 4 4 [.int .u8 0, .int .u8 y0, .int .u8 0, .int .u8 (3 + (q : Int))] rfl rfl (own_bl HQ.out.1 BN.out) (Blk.src KN.out 4 1 rfl (by simp [Value.oneCell'])) (by have := hol'.out; omega) (Nat.le_trans hzc BN.out.size) ?_; intro A7 c7 w7 hp7; have BB7 := Lib.hid ((Below.ofBl BN.out hzc).trans (hp7.below (Below.refl _ _) (Nat.le_trans hzc BN.out.size) (own_ge (own_bl HQ.out.1 BN.out))))) | (refine wpList_app rfl (.tmp 68) (.tmp 71) 24 5 (.int .u8 0) 1 1 (w.heap.size + 1) rfl Try.underlying24 info5 rfl (by decide) (by decide) (.slice A7 (out.length + 4) c7) (out.length + 4) _ _ (q - 1) _ ((sub l' 1 q).map (Value.int .u8)) rfl rfl hp7.own (HSR.out _ BB7.out) (by have := hol'.out; omega) (Nat.le_trans hzc BB7.out.size) ?_; intro A8 c8 w8 hp8; have BB8 := Lib.hid (BB7.out.trans (hp8.below (Below.refl _ _) (Nat.le_trans hzc BB7.out.size) (own_ge hp7.own)))) | (refine wpList_appz rfl (.tmp 72) (.tmp 77) 24 3 5 .i64 (w.heap.size + 1) rfl Try.underlying24 Try.underlying3 info5 (.slice A8 (out.length + 4 + (q - 1)) c8) (out.length + 4 + (q - 1)) _ ((4 - (4 + (q - 1)) % 4) % 4) rfl (by show Value.int .i64 _ = _; congr 1; omega) hp8.own (by have := hol'.out; omega) (Nat.le_trans hzc BB8.out.size) ?_; intro A9 c9 w9 hp9; have BB9 := Lib.hid (BB8.out.trans (hp9.below (Below.refl _ _) (Nat.le_trans hzc BB8.out.size) (own_ge hp8.own)))))
              all_goals have hsl : (sub l' 1 q).length = q - 1 := sub_length _ _ _ (by omega)
              all_goals have eL : (out ++ chB 0 y0 (sub l' 1 q)).length = out.length + 4 + (q - 1) + (4 - (q - 1) % 4) % 4 := by rw [List.length_append, chB_len, hsl]; unfold up4; omega
              all_goals have eL2 : (out ++ chB 0 y0 (sub l' 1 q)).length = out.length + 4 + (q - 1) + (4 - (4 + (q - 1)) % 4) % 4 := by rw [List.length_append, chB_len, hsl]; unfold up4; omega
              all_goals have eN : ((4 + (sub l' 1 q).length : Nat) : Int) = 3 + (q : Int) := by rw [hsl]; omega
              all_goals have eM : out.map (Value.int .u8) ++ [.int .u8 0, .int .u8 y0, .int .u8 0, .int .u8 (3 + (q : Int))] ++ (sub l' 1 q).map (Value.int .u8) ++ zCells ((4 - (4 + (q - 1)) % 4) % 4) = (out ++ chB 0 y0 (sub l' 1 q)).map (Value.int .u8) := by (rw [zCells_map, chB, eN, hsl]; simp)
              all_goals have ho9 := hp9.own
              all_goals rw [eM, ← eL2] at ho9
              all_goals have hby : By (out ++ chB 0 y0 (sub l' 1 q)) := HQ.out.2.2.2.1.app (chB_by 0 y0 _ (by decide) b0 (HL.out.sub 1 q) (by omega))
              all_goals have hah9 : Ahead (out ++ chB 0 y0 (sub l' 1 q)) := HQ.out.2.2.2.2.app 0 y0 _
              all_goals have kb9 : Blk w9 w.heap.size (ckCells kd fl A n c) 53 := ⟨(BB9.out.block _ (Nat.lt_succ_self _)).trans HQ.out.2.1.heap⟩
              all_goals have bl9 : Bl w w9 := Below.trans HQ.out.2.2.1 (Below.mono BB9.out (Nat.le_succ _))
              all_goals have hol9 := hol'.out
              · go_meet
                case rel =>
                  exact Lib.hid ⟨4, out ++ chB 0 y0 (sub l' 1 q), rfl, by rw [eL] at ho9 ⊢; exact ho9, kb9, bl9, by omega, by decide, ok_heart fl _ hf hby (by omega) hah9⟩
              · refine ⟨Lib.hid ⟨_, _, _, sub l' q n', out ++ chB 0 y0 (sub l' 1 q), rfl, (HH.out.belowB (fun x hx => Nat.lt_succ_of_lt (HA.out h0 x hx)) BB9.out).cut q n' hqn (Nat.le_refl _), HL.out.sub _ _, cutA_inF HA.out (fun _ => by omega), by rw [eL] at ho9 ⊢; exact ho9, kb9, bl9, hby, hah9, by omega⟩, by simp only; omega⟩
      · have h2 : kd % 2 = 1 := by omega
        go_wp2_with fail
        clear h6 h2
        go_loopw [4, 6] (fun b o wr => Hid (∃ (A' : Option Addr) (n' c' : Nat) (l' out : List Int), b = .slice A' n' c' ∧ Rd .u8 wr A' n' c' l' ∧ By l' ∧ InF (· < w.heap.size) A' n' ∧ wr.ownsRow (w.heap.size + 1) 5 1 o out.length (out.map (Value.int .u8)) ∧ Blk wr w.heap.size (ckCells kd fl A n c) 53 ∧ Bl w wr ∧ By out ∧ Ahead out ∧ out.length ≤ 90)) (fun b _ _ => match b with | .slice _ n _ => n | _ => 0)
        case atStart =>
          exact Lib.hid ⟨_, _, _, lb, [], rfl, RW.out.below (by go_grown), HB.out, HR.out.inF, own_bl HO.out (by go_grown), Blk.keep (by go_grown) KB.out, BW0.trans (by go_grown), By.nil, Ahead.nil, by decide⟩
        case round =>
          obtain ⟨A', n', c', l', out, rfl, h, hl, hA, ho, kb, hb, hbo, hah, hol⟩ := hrel.out
          clear hrel
          have hsz := hb.size
          rcases Nat.eq_zero_or_pos n' with h0 | h0
          · subst h0
            have KQ := Lib.hid (And.intro ho (And.intro kb (And.intro hb (And.intro hbo hah))))
            clear h hl hA ho kb hb hbo hah
            go_wp2_with fail
            go_meet
            case rel =>
              exact Lib.hid ⟨9, out, rfl, KQ.out.1, KQ.out.2.1, KQ.out.2.2.1, by omega, by decide, ok_error fl out hf KQ.out.2.2.2.1 (by omega) KQ.out.2.2.2.2⟩
          · have hlen := h.len
            have hcap' := h.cap
            obtain ⟨g, o, rfl, hg, hc⟩ := h.at h0
            have d0 := hc 0 h0
            simp only [Nat.add_zero] at d0
            have b0 := hl.getD 0
            generalize hY : l'.getD 0 0 = y0 at *
            have HY := Lib.hid hY
            have HH := Lib.hid h
            have HL := Lib.hid hl
            have HA := Lib.hid hA
            have HQ := Lib.hid (And.intro ho (And.intro kb (And.intro hb (And.intro hbo hah))))
            obtain ⟨A6, c6, rfl⟩ := ownsRow_form ho
            clear hY h hl hA ho kb hb hbo hah hc
            go_upto_region 12 with fail
            go_cut [7] from 47 to 84 (fun s7 wx => Hid (∃ q : Nat, s7 = .int .i64 (q : Int) ∧ 1 ≤ q ∧ q ≤ 9 ∧ q ≤ n' ∧ wx = wr))
            case first =>
              go_wp2_with fail
              all_goals go_meet
              all_goals case rel => exact mk_q y0 n' b0.1 h0 rfl (by omega)
            case rest =>
              obtain ⟨q, rfl, hq1, hq9, hqn, rfl⟩ := hcut.out
              clear hcut
              have p1 := run_cut (some ⟨g, o, none⟩) n' c' 1 q 1 q rfl rfl hq1 (by omega) 24 Try.underlying24 size5
              have p2 := run_cut_l (some ⟨g, o, none⟩) n' c' q q rfl hqn 24 Try.underlying24 size5
              have KN := Lib.hid (Blk.new wc #[.int .u8 0, .int .u8 y0, .int .u8 0, .int .u8 (3 + (q : Int))] 5)
              have BN := Lib.hid (show Bl wc (wc.alloc (.cells #[.int .u8 0, .int .u8 y0, .int .u8 0, .int .u8 (3 + (q : Int))] 5)) by go_grown)
              have RS := Lib.hid ((HH.out.cut 1 q hq1 hqn).src)
              have hzc : w.heap.size + 1 ≤ wc.heap.size := by have := HQ.out.2.1.lt; omega
              have hol' := Lib.hid hol
              clear hol
              have HSR : Hid (∀ V, Below (w.heap.size + 1) wc V → Src V (cutA (some ⟨g, o, none⟩) c' 1) (q - 1) 1 ((sub l' 1 q).map (Value.int .u8))) := Lib.hid (fun V hV => ((HH.out.belowB (fun x hx => Nat.lt_succ_of_lt (HA.out h0 x hx)) hV).cut 1 q hq1 hqn).src)
              clear RS
              go_wp2_with (at_builtin; first | (refine wpList_app rfl (.tmp 59) (.tmp 66) 24 5 (.int .u8 0) 1 1 (w.heap.size + 1) rfl Try.underlying24 info5 rfl (by decide) (by decide) (.slice A6 out.length c6) out.length (out.map (Value.int .u8)) (some ⟨wc.heap.size, 0, none⟩) 4 4 [.int .u8 0, .int .u8 y0, .int .u8 0, .int .u8 (3 + (q : Int))] rfl rfl (own_bl HQ.out.1 BN.out) (Blk.src KN.out 4 1 rfl (by simp [Value.oneCell'])) (by have := hol'.out; omega) (Nat.le_trans hzc BN.out.size) ?_; intro A7 c7 w7 hp7; have BB7 := Lib.hid ((Below.ofBl BN.out hzc).trans (hp7.below (Below.refl _ _) (Nat.le_trans hzc BN.out.size) (own_ge (own_bl HQ.out.1 BN.out))))) | (refine wpList_app rfl (.tmp 68) (.tmp 71) 24 5 (.int .u8 0) 1 1 (w.heap.size + 1) rfl Try.underlying24 info5 rfl (by decide) (by decide) (.slice A7 (out.length + 4) c7) (out.length + 4) _ _ (q - 1) _ ((sub l' 1 q).map (Value.int .u8)) rfl rfl hp7.own (HSR.out _ BB7.out) (by have := hol'.out; omega) (Nat.le_trans hzc BB7.out.size) ?_; intro A8 c8 w8 hp8; have BB8 := Lib.hid (BB7.out.trans (hp8.below (Below.refl _ _) (Nat.le_trans hzc BB7.out.size) (own_ge hp7.own)))) | (refine wpList_appz rfl (.tmp 72) (.tmp 77) 24 3 5 .i64 (w.heap.size + 1) rfl Try.underlying24 Try.underlying3 info5 (.slice A8 (out.length + 4 + (q - 1)) c8) (out.length + 4 + (q - 1)) _ ((4 - (4 + (q - 1)) % 4) % 4) rfl (by show Value.int .i64 _ = _; congr 1; omega) hp8.own (by have := hol'.out; omega) (Nat.le_trans hzc BB8.out.size) ?_; intro A9 c9 w9 hp9; have BB9 := Lib.hid (BB8.out.trans (hp9.below (Below.refl _ _) (Nat.le_trans hzc BB8.out.size) (own_ge hp8.own)))))
              all_goals have hsl : (sub l' 1 q).length = q - 1 := sub_length _ _ _ (by omega)
              all_goals have eL : (out ++ chB 0 y0 (sub l' 1 q)).length = out.length + 4 + (q - 1) + (4 - (q - 1) % 4) % 4 := by rw [List.length_append, chB_len, hsl]; unfold up4; omega
              all_goals have eL2 : (out ++ chB 0 y0 (sub l' 1 q)).length = out.length + 4 + (q - 1) + (4 - (4 + (q - 1)) % 4) % 4 := by rw [List.length_append, chB_len, hsl]; unfold up4; omega
              all_goals have eN : ((4 + (sub l' 1 q).length : Nat) : Int) = 3 + (q : Int) := by rw [hsl]; omega
              all_goals have eM : out.map (Value.int .u8) ++ [.int .u8 0, .int .u8 y0, .int .u8 0, .int .u8 (3 + (q : Int))] ++ (sub l' 1 q).map (Value.int .u8) ++ zCells ((4 - (4 + (q - 1)) % 4) % 4) = (out ++ chB 0 y0 (sub l' 1 q)).map (Value.int .u8) := by (rw [zCells_map, chB, eN, hsl]; simp)
              all_goals have ho9 := hp9.own
              all_goals rw [eM, ← eL2] at ho9
              all_goals have hby : By (out ++ chB 0 y0 (sub l' 1 q)) := HQ.out.2.2.2.1.app (chB_by 0 y0 _ (by decide) b0 (HL.out.sub 1 q) (by omega))
              all_goals have hah9 : Ahead (out ++ chB 0 y0 (sub l' 1 q)) := HQ.out.2.2.2.2.app 0 y0 _
              all_goals have kb9 : Blk w9 w.heap.size (ckCells kd fl A n c) 53 := ⟨(BB9.out.block _ (Nat.lt_succ_self _)).trans HQ.out.2.1.heap⟩
              all_goals have bl9 : Bl w w9 := Below.trans HQ.out.2.2.1 (Below.mono BB9.out (Nat.le_succ _))
              all_goals have hol9 := hol'.out
              · go_meet
                case rel =>
                  exact Lib.hid ⟨9, out ++ chB 0 y0 (sub l' 1 q), rfl, by rw [eL] at ho9 ⊢; exact ho9, kb9, bl9, by omega, by decide, ok_error fl _ hf hby (by omega) hah9⟩
              · refine ⟨Lib.hid ⟨_, _, _, sub l' q n', out ++ chB 0 y0 (sub l' 1 q), rfl, (HH.out.belowB (fun x hx => Nat.lt_succ_of_lt (HA.out h0 x hx)) BB9.out).cut q n' hqn (Nat.le_refl _), HL.out.sub _ _, cutA_inF HA.out (fun _ => by omega), by rw [eL] at ho9 ⊢; exact ho9, kb9, bl9, hby, hah9, by omega⟩, by simp only; omega⟩
      · have h2 : (m : Int) % 2 = 0 ∨ (m : Int) % 2 = 1 := by omega
        rcases h2 with h2 | h2
        · go_wp2_with fail
          go_meet
          case rel =>
            exact Lib.hid ⟨11, [], rfl, own_bl HO.out (by go_grown), Blk.keep (by go_grown) KB.out, BW0.trans (by go_grown), by decide, by decide, ok_empty11 fl hf⟩
        · go_wp2_with fail
          go_meet
          case rel =>
            exact Lib.hid ⟨14, [], rfl, own_bl HO.out (by go_grown), Blk.keep (by go_grown) KB.out, BW0.trans (by go_grown), by decide, by decide, ok_empty14 fl hf⟩
      · go_wp2_with fail
        go_meet
        case rel =>
          exact Lib.hid ⟨8, [], rfl, HO.out, KB.out, BW0, by decide, by decide, ok_ack fl hf⟩
    case rest =>
      obtain ⟨k, out, rfl, ho⟩ := hcut.out
      obtain ⟨A6, c6, rfl⟩ := ownsRow_form ho.own
      have MK := Lib.hid ho
      clear hcut c1 f1 z1
      have c1 := ho.blk.cell
      have hlen := ho.len
      have hlenr : (((out.length : Int) + 4) % 256) = (out.length : Int) + 4 := by omega
      have hsrc := (own_rd_at ho.own).src
      have hz := ho.bl.size
      have HS := Lib.hid hsrc
      have KO := Lib.hid (show (wc.alloc (.cells #[.int .u8 k, .int .u8 fl, .int .u8 0, .int .u8 (4 + (out.length : Int))] 5)).ownsRow w.heap.size 5 1 (.slice (some ⟨wc.heap.size, 0, none⟩) 4 4) 4 [.int .u8 k, .int .u8 fl, .int .u8 0, .int .u8 (4 + (out.length : Int))] from Blk.own (Blk.new wc _ _) hz rfl (by decide))
      clear ho hsrc
      go_wp2_with (at_builtin; first | (refine wpList_app rfl (.tmp 101) (.tmp 102) 24 5 (.int .u8 0) 1 1 w.heap.size rfl Try.underlying24 info5 rfl (by decide) (by decide) (.slice (some ⟨wc.heap.size, 0, none⟩) 4 4) 4 [.int .u8 k, .int .u8 fl, .int .u8 0, .int .u8 (4 + (out.length : Int))] A6 out.length c6 (out.map (Value.int .u8)) rfl rfl KO.out (HS.out.alloc _) (by omega) (by simp; omega) ?_; intro A7 c7 w7 hp7) | (refine wpList_appz rfl (.tmp 104) (.tmp 108) 24 3 5 .i64 w.heap.size rfl Try.underlying24 Try.underlying3 info5 (.slice A7 (4 + out.length) c7) (4 + out.length) _ ((4 - (4 + out.length) % 4) % 4) rfl (by show Value.int .i64 _ = _; congr 1; omega) hp7.own (by omega) (by have := hp7.grown.size; simp at this; omega) ?_; intro A8 c8 w8 hp8))
      go_ret2
      have ho8 := hp8.own
      have B8 : Bl w w8 := by
        have hz7 := hp7.grown.size
        have b6 : Bl w (wc.alloc (.cells #[.int .u8 k, .int .u8 fl, .int .u8 0, .int .u8 (4 + (out.length : Int))] 5)) := MK.out.bl.trans (by go_grown)
        exact hp8.bl hp7.own (hp7.bl KO.out b6)
      have hcl := chB_len k fl out
      have e2 : (chB k fl out).length = 4 + out.length + (4 - out.length % 4) % 4 := by rw [hcl]; unfold up4; omega
      have e3 : (chB k fl out).length = 4 + out.length + (4 - (4 + out.length) % 4) % 4 := by rw [hcl]; unfold up4; omega
      have e4 : [Value.int .u8 k, .int .u8 fl, .int .u8 0, .int .u8 (4 + (out.length : Int))] ++ out.map (Value.int .u8) ++ zCells ((4 - (4 + out.length) % 4) % 4) = (chB k fl out).map (Value.int .u8) := by
        rw [zCells_map]
        simp [chB]
      rw [e4, ← e3] at ho8
      have hi8 := own_inF ho8 (fun k h _ => h) (chB k fl out).length
      refine ⟨A8, c8, chB k fl out, 4 + (out.length : Int), _, by rw [e2]; rfl, MK.out.ok, ?_, by rw [e2]; omega, by omega, by omega, own_rd_at ho8, hi8, B8⟩
      congr 3
end Go.Proofs.Ytoljdgfbkebgcaa
namespace Go.Proofs.Ytoljdgfbkebgcaa
open Go.RowKit
set_option linter.unusedVariables false
/-- An element: its kind, its flags, and its bytes' slice. -/
structure CkAt (w : World) (g o : Nat) (kd fl : Int) (B : Option Addr) (m d : Nat) (body : List Int) : Prop where
  c0 : w.cell? ⟨g, o, none⟩ = some (.int .u8 kd)
  c1 : w.cell? ⟨g, o + 1, none⟩ = some (.int .u8 fl)
  c2 : w.cell? ⟨g, o + 2, none⟩ = some (.slice B m d)
  rd : Rd .u8 w B m d body
  byt : By body
  kind : 0 ≤ kd ∧ kd ≤ 255
  flags : 0 ≤ fl ∧ fl ≤ 255
theorem CkAt.below {w w' : World} {g o m d : Nat} {kd fl : Int} {B : Option Addr} {body : List Int} (h : CkAt w g o kd fl B m d body) (hb : Bl w w') : CkAt w' g o kd fl B m d body :=
  ⟨hb.keeps h.c0, hb.keeps h.c1, hb.keeps h.c2, h.rd.below hb, h.byt, h.kind, h.flags⟩
def CkRow (w : World) (A : Option Addr) (n c : Nat) : Prop := n ≤ c ∧ ∀ i, i < n → ∃ g o kd fl B m d body, A = some ⟨g, o, none⟩ ∧ CkAt w g (o + i * 3) kd fl B m d body
theorem CkRow.below {w w' : World} {A : Option Addr} {n c : Nat} (h : CkRow w A n c) (hb : Bl w w') : CkRow w' A n c :=
  ⟨h.1, fun i hi => by
    obtain ⟨g, o, kd, fl, B, m, d, body, e, hc⟩ := h.2 i hi
    exact ⟨g, o, kd, fl, B, m, d, body, e, hc.below hb⟩⟩
/-- The answer is a truth. -/
def IsBool (e : Ending) : Prop := ∃ b : Bool, e = .returned (.bool b)
theorem fit2_any (kd fl : Int) (A : Option Addr) (n c : Nat) (w : World) :
    Calls Try.prog 54 #[.agg #[.int .u8 kd, .int .u8 fl, .slice A n c]] w fun e w' => IsBool e ∧ Bl w w' := by
  by_cases hz : (2147483647 : Int) < (n : Int)
  · go_enter Try.func54, Try.ntmps54
    go_wp2
    go_ret
    exact ⟨⟨_, rfl⟩, by go_grown⟩
  · go_enter Try.func54, Try.ntmps54
    go_wp2
    go_ret
    exact ⟨⟨_, rfl⟩, by go_grown⟩
set_option maxHeartbeats 1000000 in
theorem fit1_any (A : Option Addr) (n c : Nat) (w : World) (h : CkRow w A n c) :
    Calls Try.prog 36 #[.slice A n c] w fun e w' => IsBool e ∧ Bl w w' := by
  by_cases hz : (2147483647 : Int) < (n : Int)
  · go_enter Try.func36, Try.ntmps36
    go_wp2
    go_ret
    exact ⟨⟨_, rfl⟩, Bl.refl _⟩
  by_cases h0 : 0 < n
  · obtain ⟨g, o, _, _, _, _, _, _, rfl, _⟩ := h.2 0 h0
    have R := Lib.hid h.2
    clear h
    go_enter Try.func36, Try.ntmps36
    go_wp2
    go_loopw [10] (fun i wr => ∃ k : Nat, k ≤ n ∧ i = .int .i64 k ∧ Bl w wr) (fun i _ => n - (intOf i).toNat)
    case atStart => exact ⟨0, Nat.zero_le _, rfl, Bl.refl _⟩
    case round =>
      obtain ⟨k, hk, rfl, hbl⟩ := hrel
      by_cases hlt : k < n
      · obtain ⟨g', o', kd, fl, B, m, d, body, e1, hc⟩ := R.out k hlt
        simp only [Option.some.injEq, Addr.mk.injEq, and_true] at e1
        obtain ⟨rfl, rfl⟩ := e1
        have j0 := hbl.keeps hc.c0
        have j1 := hbl.keeps hc.c1
        have j2 := hbl.keeps hc.c2
        have z1 := World.block_lt_of_cell? _ _ j0
        have HBL := Lib.hid hbl
        clear hbl hc
        go_wp2_with fail
        (with_reducible refine (fit2_any _ _ _ _ _ _).mono ?_)
        rintro e w1 ⟨⟨b, rfl⟩, hb1⟩
        have B1 := Lib.hid ((HBL.out.trans (by go_grown)).trans hb1)
        clear hb1
        cases b with
        | true =>
          go_wp2_with fail
          go_roundw
          case rel => exact ⟨k + 1, by omega, by go_num, B1.out⟩
          case measure => simp [intOf]; omega
        | false =>
          go_wp2_with fail
          go_ret
          exact ⟨⟨_, rfl⟩, B1.out⟩
      · go_wp2
        go_ret
        exact ⟨⟨_, rfl⟩, hbl⟩
  · have h0' : n = 0 := by omega
    subst h0'
    go_enter Try.func36, Try.ntmps36
    go_wp2
    refine wp_loop_rounds 1 ?_
    rw [rounds_succ]
    go_wp2
    go_ret
    exact ⟨⟨_, rfl⟩, Bl.refl _⟩
end Go.Proofs.Ytoljdgfbkebgcaa
