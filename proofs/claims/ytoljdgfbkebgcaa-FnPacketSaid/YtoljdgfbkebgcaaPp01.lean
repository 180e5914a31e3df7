/- spec.Packet. -/
import Derived.Test.YtoljdgfbkebgcaaPq08
import Derived.Test.YtoljdgfbkebgcaaPq04
import Derived.Test.YtoljdgfbkebgcaaPq02
import Derived.Test.YtoljdgfbkebgcaaPq07
import Derived.LoopTactic
import Derived.Deep.DeepCutAuto
namespace Go.Proofs.Ytoljdgfbkebgcaa
open Go.RowKit
set_option linter.unusedVariables false
abbrev Z4 : Array Value := #[.slice none 0 0, .slice none 0 0, .slice none 0 0, .slice none 0 0]
theorem pk_relA (w : World) (N0 N1 N2 N3 : Int) : Hid (∃ g4 An cn, Value.pointer (some ⟨w.heap.size + 1 + 1, 0, none⟩) = .pointer (some ⟨g4, 0, none⟩) ∧ Bl w (((w.alloc (.cells Z4 35)).alloc (.cells #[.int .u64 N0, .int .u64 N1, .int .u64 N2, .int .u64 N3] 26)).alloc (.cells #[.slice (some ⟨w.heap.size + 1, 0, none⟩) 4 4, .slice none 0 0, .slice none 0 0, .slice none 0 0] 35)).drew ∧ w.heap.size < g4 ∧
    Blk (((w.alloc (.cells Z4 35)).alloc (.cells #[.int .u64 N0, .int .u64 N1, .int .u64 N2, .int .u64 N3] 26)).alloc (.cells #[.slice (some ⟨w.heap.size + 1, 0, none⟩) 4 4, .slice none 0 0, .slice none 0 0, .slice none 0 0] 35)).drew g4 #[.slice An 4 cn, .slice none 0 0, .slice none 0 0, .slice none 0 0] 35 ∧
    NumV (Two w.heap.size g4) (((w.alloc (.cells Z4 35)).alloc (.cells #[.int .u64 N0, .int .u64 N1, .int .u64 N2, .int .u64 N3] 26)).alloc (.cells #[.slice (some ⟨w.heap.size + 1, 0, none⟩) 4 4, .slice none 0 0, .slice none 0 0, .slice none 0 0] 35)).drew (.slice An 4 cn) [N0, N1, N2, N3] ∧
    Blk (((w.alloc (.cells Z4 35)).alloc (.cells #[.int .u64 N0, .int .u64 N1, .int .u64 N2, .int .u64 N3] 26)).alloc (.cells #[.slice (some ⟨w.heap.size + 1, 0, none⟩) 4 4, .slice none 0 0, .slice none 0 0, .slice none 0 0] 35)).drew w.heap.size Z4 35) :=
  Lib.hid ⟨_, _, _, rfl, (show Bl w (((w.alloc (.cells Z4 35)).alloc (.cells #[.int .u64 N0, .int .u64 N1, .int .u64 N2, .int .u64 N3] 26)).alloc (.cells #[.slice (some ⟨w.heap.size + 1, 0, none⟩) 4 4, .slice none 0 0, .slice none 0 0, .slice none 0 0] 35)) by go_grown).drew, by omega, (Blk.newAt _ _ _ _ (by simp)).same rfl,
    NumV.of_block _ ⟨by omega, by omega⟩ (((Blk.newAt (w.alloc _) #[.int .u64 N0, .int .u64 N1, .int .u64 N2, .int .u64 N3] 26 (w.heap.size + 1) (by simp)).alloc _).same rfl).heap rfl rfl, (((Blk.new w _ _).alloc _).alloc _).same rfl⟩
theorem pk_relB (w : World) (N0 N1 N2 N3 : Int) : Hid (∃ g4 An cn, Value.pointer (some ⟨w.heap.size + 1, 0, none⟩) = .pointer (some ⟨g4, 0, none⟩) ∧ Bl w (((w.alloc (.cells Z4 35)).alloc (.cells #[.slice (some ⟨w.heap.size + 1 + 1, 0, none⟩) 4 4, .slice none 0 0, .slice none 0 0, .slice none 0 0] 35)).alloc (.cells #[.int .u64 N0, .int .u64 N1, .int .u64 N2, .int .u64 N3] 26)).drew ∧ w.heap.size < g4 ∧
    Blk (((w.alloc (.cells Z4 35)).alloc (.cells #[.slice (some ⟨w.heap.size + 1 + 1, 0, none⟩) 4 4, .slice none 0 0, .slice none 0 0, .slice none 0 0] 35)).alloc (.cells #[.int .u64 N0, .int .u64 N1, .int .u64 N2, .int .u64 N3] 26)).drew g4 #[.slice An 4 cn, .slice none 0 0, .slice none 0 0, .slice none 0 0] 35 ∧
    NumV (Two w.heap.size g4) (((w.alloc (.cells Z4 35)).alloc (.cells #[.slice (some ⟨w.heap.size + 1 + 1, 0, none⟩) 4 4, .slice none 0 0, .slice none 0 0, .slice none 0 0] 35)).alloc (.cells #[.int .u64 N0, .int .u64 N1, .int .u64 N2, .int .u64 N3] 26)).drew (.slice An 4 cn) [N0, N1, N2, N3] ∧
    Blk (((w.alloc (.cells Z4 35)).alloc (.cells #[.slice (some ⟨w.heap.size + 1 + 1, 0, none⟩) 4 4, .slice none 0 0, .slice none 0 0, .slice none 0 0] 35)).alloc (.cells #[.int .u64 N0, .int .u64 N1, .int .u64 N2, .int .u64 N3] 26)).drew w.heap.size Z4 35) :=
  Lib.hid ⟨_, _, _, rfl, (show Bl w (((w.alloc (.cells Z4 35)).alloc (.cells #[.slice (some ⟨w.heap.size + 1 + 1, 0, none⟩) 4 4, .slice none 0 0, .slice none 0 0, .slice none 0 0] 35)).alloc (.cells #[.int .u64 N0, .int .u64 N1, .int .u64 N2, .int .u64 N3] 26)) by go_grown).drew, by omega, ((Blk.newAt (w.alloc _) _ _ (w.heap.size + 1) (by simp)).alloc _).same rfl,
    NumV.of_block _ ⟨by omega, by omega⟩ ((Blk.newAt _ #[.int .u64 N0, .int .u64 N1, .int .u64 N2, .int .u64 N3] 26 (w.heap.size + 1 + 1) (by simp)).same rfl).heap rfl rfl, (((Blk.new w _ _).alloc _).alloc _).same rfl⟩
theorem pk_end {w W : World} {g4 B : Nat} {v0 v2 v3 : Value} {ns : List Int} {ps : List Prt} {pay : List Int} (hb : Bl w W) (kr : Blk W w.heap.size Z4 35) (h4 : w.heap.size < g4) (hB : g4 < B) (h0 : NumV (Two w.heap.size g4) W v0 ns) (h2 : PRow (Two w.heap.size g4) B W v2 ps) (h3 : BytV (Two w.heap.size g4) W v3 pay) :
    Bl w ((((W.setCell ⟨w.heap.size, 0, none⟩ v0).setCell ⟨w.heap.size, 1, none⟩ (.slice none 0 0)).setCell ⟨w.heap.size, 2, none⟩ v2).setCell ⟨w.heap.size, 3, none⟩ v3) ∧
    LyrV (· ≠ w.heap.size) ((((W.setCell ⟨w.heap.size, 0, none⟩ v0).setCell ⟨w.heap.size, 1, none⟩ (.slice none 0 0)).setCell ⟨w.heap.size, 2, none⟩ v2).setCell ⟨w.heap.size, 3, none⟩ v3) (.agg #[v0, .slice none 0 0, v2, v3]) ⟨ns, [], ps, pay⟩ ∧
    Blk ((((W.setCell ⟨w.heap.size, 0, none⟩ v0).setCell ⟨w.heap.size, 1, none⟩ (.slice none 0 0)).setCell ⟨w.heap.size, 2, none⟩ v2).setCell ⟨w.heap.size, 3, none⟩ v3) w.heap.size #[v0, .slice none 0 0, v2, v3] 35 :=
  ⟨Bl.boxed hb (Nat.le_refl _) _ _ _ _, LyrV.boxed ((LyrV.of_row h0 h2 (fun k h1 _ => ⟨by omega, by omega⟩) h3).mono fun k hk => hk.1) (by simp) _ _ _ _, (((kr.set 0 _).set 1 _).set 2 _).set 3 _⟩
theorem pk_alloc {w W : World} {v : Value} {L : Lyr} {cs : Array Value} (h : Bl w W ∧ LyrV (· ≠ w.heap.size) W v L ∧ Blk W w.heap.size cs 35) (o : Obj) : Bl w (W.alloc o) ∧ LyrV (· ≠ w.heap.size) (W.alloc o) v L ∧ Blk (W.alloc o) w.heap.size cs 35 :=
  ⟨h.1.alloc h.1.size _, h.2.1.below (by go_grown), h.2.2.alloc o⟩
/-- What the walk says: a layer, and, where it is told, whose it is. -/
def PktOut (w w' : World) (e : Ending) (l : List Int) : Prop :=
  ∃ v told, e = .returned (.tuple #[v, .bool told]) ∧ Bl w w' ∧ ∃ L, LyrV (· ≠ w.heap.size) w' v L ∧ (told = true → 12 ≤ l.length ∧ ∃ ps pay, Pkt (sub l 12 l.length) ps pay ∧ L = ⟨hdNums l, [], ps, pay⟩)
set_option maxHeartbeats 4000000 in
set_option maxRecDepth 100000 in
theorem spPkt_any (hK : ∀ l, By l → l.length ≤ 2147483647 → kindOf (l.getD 0 0) ≠ kUnk → KindAt l) (A : Option Addr) (n c : Nat) (l : List Int) (w : World) (h : Rd .u8 w A n c l) (hl : By l) (hn : n ≤ 2147483647) (h12 : 12 ≤ n) :
    Calls Try.prog 32 #[.slice A n c] w fun e w' => PktOut w w' e l := by
  have hcap := h.cap
  have HLEN := Lib.hid h.len
  have s1 := run_cut_h A n c 2 2 rfl (by omega) 24 Try.underlying24 size5
  have s2 := run_cut A n c 2 4 2 4 rfl rfl (by omega) (by omega) 24 Try.underlying24 size5
  have s3 := run_cut A n c 4 8 4 8 rfl rfl (by omega) (by omega) 24 Try.underlying24 size5
  have s4 := run_cut A n c 8 12 8 12 rfl rfl (by omega) (by omega) 24 Try.underlying24 size5
  have R1 := Lib.hid (h.cut0 2 (by omega))
  have R2 := Lib.hid (h.cutm 2 4 2 (by omega) (by omega))
  have R3 := Lib.hid (h.cutm 4 8 4 (by omega) (by omega))
  have R4 := Lib.hid (h.cutm 8 12 4 (by omega) (by omega))
  have H := Lib.hid h
  have HB := Lib.hid hl
  have HK := Lib.hid hK
  clear h hl hK
  go_enter Try.func32, Try.ntmps32
  go_upto_region 3 with fail
  go_cut [4] (fun s4 wx => Hid (∃ g4 An cn, s4 = .pointer (some ⟨g4, 0, none⟩) ∧ Bl w wx ∧ w.heap.size < g4 ∧ Blk wx g4 #[.slice An 4 cn, .slice none 0 0, .slice none 0 0, .slice none 0 0] 35 ∧ NumV (Two w.heap.size g4) wx (.slice An 4 cn) (hdNums l) ∧ Blk wx w.heap.size #[.slice none 0 0, .slice none 0 0, .slice none 0 0, .slice none 0 0] 35))
  case first =>
    go_region_with (first | (go_at_call 38; (with_reducible refine (num_any _ _ _ _ _ (R1.out.below (by go_grown)) (HB.out.sub _ _) (by omega) (by omega)).mono ?_); rintro e w1 ⟨rfl, rfl⟩) | (go_at_call 38; (with_reducible refine (num_any _ _ _ _ _ (R2.out.below (by go_grown)) (HB.out.sub _ _) (by omega) (by omega)).mono ?_); rintro e w1 ⟨rfl, rfl⟩) | (go_at_call 38; (with_reducible refine (num_any _ _ _ _ _ (R3.out.below (by go_grown)) (HB.out.sub _ _) (by omega) (by omega)).mono ?_); rintro e w1 ⟨rfl, rfl⟩) | (go_at_call 38; (with_reducible refine (num_any _ _ _ _ _ (R4.out.below (by go_grown)) (HB.out.sub _ _) (by omega) (by omega)).mono ?_); rintro e w1 ⟨rfl, rfl⟩))
    all_goals go_wp2_with fail
    all_goals go_meet
    all_goals case rel => first | exact pk_relA w _ _ _ _ | exact pk_relB w _ _ _ _
  case rest =>
    obtain ⟨g4, An, cn, rfl, hb0, hg4, kg0, nv0, kr0⟩ := hcut.out
    have NV0 := Lib.hid nv0
    have KG0 := Lib.hid kg0
    have KR0 := Lib.hid kr0
    have B0 := Lib.hid hb0
    have s5 := run_cut_l A n c 12 12 rfl (by omega) 24 Try.underlying24 size5
    have zg0 := kg0.lt
    clear hcut s1 s2 s3 s4 R1 R2 R3 R4 nv0 kg0 kr0 hb0
    go_wp2_with fail
    go_loopw [5] (fun b wr => Hid (∃ (A' : Option Addr) (n' c' : Nat) (l' : List Int) (ps : List Prt) (v2 : Value), b = .slice A' n' c' ∧ Rd .u8 wr A' n' c' l' ∧ By l' ∧ InF (· < w.heap.size) A' n' ∧ n' + ps.length ≤ n ∧ Blk wr g4 #[.slice An 4 cn, .slice none 0 0, v2, .slice none 0 0] 35 ∧ NumV (fun k => Two w.heap.size g4 k ∧ k < wc.heap.size) wr (.slice An 4 cn) (hdNums l) ∧ PRow (Two w.heap.size g4) wc.heap.size wr v2 ps ∧
      Blk wr w.heap.size #[.slice none 0 0, .slice none 0 0, .slice none 0 0, .slice none 0 0] 35 ∧ Bl w wr ∧ wc.heap.size ≤ wr.heap.size ∧ (∀ qs pay, Pkt l' qs pay → Pkt (sub l 12 l.length) (ps ++ qs) pay))) (fun b _ => match b with | .slice _ n _ => n | _ => 0)
    case atStart =>
      have hL := HLEN.out
      exact Lib.hid ⟨_, _, _, sub l 12 n, [], _, rfl, (H.out.below B0.out).cut 12 n h12 (Nat.le_refl _), HB.out.sub _ _, cutA_inF H.out.inF (fun _ => by omega), by simp, KG0.out, NV0.out.strong, PRow.nil _ _ _, KR0.out, B0.out, Nat.le_refl _, fun qs pay h => by rw [hL]; exact h⟩
    case round =>
      obtain ⟨A', n', c', l', ps, v2, rfl, h, hl, hA, hnn, kg, hnv, hp, kr, hb, hz, hpk⟩ := hrel.out
      clear hrel
      obtain ⟨A2, c2, rfl⟩ := hp.form
      have NV := Lib.hid hnv
      have HP := Lib.hid hp
      have KG := Lib.hid kg
      have KR := Lib.hid kr
      have PK := Lib.hid hpk
      have HH := Lib.hid h
      have HA := Lib.hid hA
      have HB' := Lib.hid hl
      have c4 := kg.cell
      have f4 := kg.frozen
      have z4 := kg.lt
      have cr := kr.cell
      have fr := kr.frozen
      have zr := kr.lt
      have hlen := h.len
      have hcap' := h.cap
      have hL := HLEN.out
      by_cases h0 : n' = 0
      · subst h0
        clear h hl hA hnv hp hpk kg
        go_wp2_with fail
        obtain ⟨BF, hLF, kf⟩ := pk_end hb KR.out hg4 zg0 (NV.out.mono fun _ h => h.1) HP.out (BytV.nil _ _)
        have cf := kf.cell
        generalize ((((wr.setCell ⟨w.heap.size, 0, none⟩ (.slice An 4 cn)).setCell ⟨w.heap.size, 1, none⟩ (.slice none 0 0)).setCell ⟨w.heap.size, 2, none⟩ (.slice A2 ps.length c2)).setCell ⟨w.heap.size, 3, none⟩ (.slice none 0 0)) = WF at *
        have hq := PK.out [] [] (Pkt.nil l' (by omega))
        rw [List.append_nil] at hq
        refine bodyPost_ret (v := .tuple #[.agg #[.slice An 4 cn, .slice none 0 0, .slice A2 ps.length c2, .slice none 0 0], .bool true]) (by simp [results, Try.results32, go_sem, cf]) rfl ⟨_, _, rfl, BF, _, hLF, fun _ => ⟨by omega, ps, [], hq, rfl⟩⟩
      have hgt : (0 : Int) < (n' : Int) := by omega
      obtain ⟨g, o, rfl, hg, hc⟩ := h.at (by omega)
      have d0 := hc 0 (by omega)
      simp only [Nat.add_zero] at d0
      have hdt := kind_data (l'.getD 0 0)
      have hun := kind_unk (l'.getD 0 0)
      clear h hl hA hnv hp hpk kg hc
      have hkx := HK.out l' HB'.out (by omega)
      generalize hX : l'.getD 0 0 = x0 at *
      have HX := Lib.hid hX
      clear hX
      by_cases hu : kindOf x0 = kUnk
      · rw [decide_eq_true hu] at hun
        clear hdt hu hkx
        go_wp2_with fail
        (with_reducible refine (kind_any _ _).mono ?_)
        rintro e w1 ⟨rfl, hb1⟩
        generalize kindOf x0 = S at *
        have kg1 := Blk.keep hb1 KG.out
        have kr1 := Blk.keep hb1 KR.out
        clear c4 f4 z4 cr fr zr
        have c4 := kg1.cell
        have f4 := kg1.frozen
        have z4 := kg1.lt
        have cr := kr1.cell
        have fr := kr1.frozen
        have zr := kr1.lt
        go_wp2_with fail
        obtain ⟨BF, hLF, kf⟩ := pk_end (hb.trans hb1) kr1 hg4 zg0 ((NV.out.below hb1).mono fun _ h => h.1) (HP.out.below hb1) (BytV.nil _ _)
        have cf := kf.cell
        generalize (((((w1).setCell ⟨w.heap.size, 0, none⟩ (.slice An 4 cn)).setCell ⟨w.heap.size, 1, none⟩ (.slice none 0 0)).setCell ⟨w.heap.size, 2, none⟩ (.slice A2 ps.length c2)).setCell ⟨w.heap.size, 3, none⟩ (.slice none 0 0)) = WF at *
        exact bodyPost_ret (v := .tuple #[.agg #[.slice An 4 cn, .slice none 0 0, .slice A2 ps.length c2, .slice none 0 0], .bool false]) (by simp [results, Try.results32, go_sem, cf]) rfl ⟨_, _, rfl, BF, _, hLF, fun h => by simp at h⟩
      obtain ⟨L, ok, told, hS, hC⟩ := hkx hu
      rw [HX.out] at hS
      rw [decide_eq_false hu] at hun
      have HS := Lib.hid hS
      have hbz := hb.size
      have HKU : Hid (kindOf (l'.getD 0 0) ≠ kUnk) := Lib.hid (by rw [HX.out]; exact hu)
      clear hkx hS hu
      by_cases hb9 : ¬ (ok = true ∧ told = true)
      · clear hC hdt
        go_wp2_with fail
        (with_reducible refine (kind_any _ _).mono ?_)
        rintro e w1 ⟨rfl, hb1⟩
        generalize kindOf x0 = S at *
        have kg1 := Blk.keep hb1 KG.out
        have kr1 := Blk.keep hb1 KR.out
        have hbz1 := hb1.size
        clear c4 f4 z4 cr fr zr
        have c4 := kg1.cell
        have f4 := kg1.frozen
        have z4 := kg1.lt
        have cr := kr1.cell
        have fr := kr1.frozen
        have zr := kr1.lt
        go_wp2_with fail
        (with_reducible refine (HS.out _ _ _ w.heap.size _ (HH.out.below hb1) HA.out (by omega)).mono ?_)
        rintro e w2 ⟨v, rfl, hLv, hb2⟩
        obtain ⟨E0, e0, E1, e1, E2, e2, E3, e3, rfl⟩ := hLv.form
        clear hLv
        have kg2 := Blk.keep hb2 kg1
        have kr2 := Blk.keep hb2 kr1
        clear c4 f4 z4 cr fr zr
        have c4 := kg2.cell
        have f4 := kg2.frozen
        have z4 := kg2.lt
        have cr := kr2.cell
        have fr := kr2.frozen
        have zr := kr2.lt
        have hE := pk_end ((hb.trans hb1).trans hb2) kr2 hg4 zg0 (((NV.out.below hb1).below hb2).mono fun _ h => h.1) ((HP.out.below hb1).below hb2) (BytV.nil _ _)
        have HE := Lib.hid hE
        clear hE
        rcases ok with _ | _ <;> rcases told with _ | _
        case' true.true => exact absurd ⟨rfl, rfl⟩ hb9
        all_goals go_wp2_with fail
        all_goals generalize ((((w2.setCell ⟨w.heap.size, 0, none⟩ (.slice An 4 cn)).setCell ⟨w.heap.size, 1, none⟩ (.slice none 0 0)).setCell ⟨w.heap.size, 2, none⟩ (.slice A2 ps.length c2)).setCell ⟨w.heap.size, 3, none⟩ (.slice none 0 0)) = W0 at *
        all_goals obtain ⟨BF, hLF, kf⟩ := pk_alloc HE.out (.cells #[.slice E0 L.nums.length e0, .slice E1 L.data.length e1, .slice E2 L.parts.length e2, .slice E3 L.payload.length e3] 35)
        all_goals have cf := kf.cell
        all_goals generalize W0.alloc (.cells #[.slice E0 L.nums.length e0, .slice E1 L.data.length e1, .slice E2 L.parts.length e2, .slice E3 L.payload.length e3] 35) = WF at *
        all_goals exact bodyPost_ret (v := .tuple #[.agg #[.slice An 4 cn, .slice none 0 0, .slice A2 ps.length c2, .slice none 0 0], .bool false]) (by simp [results, Try.results32, go_sem, cf]) rfl ⟨_, _, rfl, BF, _, hLF, fun h => by simp at h⟩
      obtain ⟨rfl, rfl⟩ : ok = true ∧ told = true := Decidable.not_not.1 hb9
      have hch := hC rfl rfl
      clear hC hb9
      obtain ⟨t, ht⟩ := hch.nums
      have hlow := hch.low
      have hup := hch.up
      have HN : Hid (sub L.nums 0 3 = (chPrt l').nums) := Lib.hid (by rw [ht]; rfl)
      have hL3 : 3 ≤ L.nums.length := by rw [ht]; simp
      have e1 := chL_int l' HB'.out
      have hu4 : chL l' ≤ up4 (chL l') := by unfold up4; omega
      have eU : (be (sub l' 2 4) + 3) / 4 * 4 = (up4 (chL l') : Int) := by rw [e1]; unfold up4; omega
      have s8 := run_cut (some ⟨g, o, none⟩) n' c' 2 4 2 4 rfl rfl (by omega) (by omega) 24 Try.underlying24 size5
      have R8 := Lib.hid (HH.out.cutm 2 4 2 (by omega) (by omega))
      have b1 := be_bd2 (sub l' 2 4) (HB'.out.sub _ _) (by rw [sub_length _ _ _ (by omega)])
      have hpl := payOf_len hch
      have HCH := Lib.hid hch
      clear hch ht e1
      generalize HG : be (sub l' 2 4) = G at *
      by_cases hx : x0 = 0
      · rw [decide_eq_true hx] at hdt
        obtain ⟨hd1, hd2, hd3⟩ := HCH.out.dat (HX.out.trans hx)
        have HX0 := Lib.hid hx
        clear hx
        have s9 := run_cut_h (some ⟨g, o, none⟩) n' c' 16 16 rfl (by omega) 24 Try.underlying24 size5
        have R9 := Lib.hid (HH.out.cut0 16 (by omega))
        have HD3 := Lib.hid hd3
        clear hd1 hd2 hd3 eU
        go_wp2_with fail
        (with_reducible refine (kind_any _ _).mono ?_)
        rintro e w1 ⟨rfl, hb1⟩
        generalize kindOf x0 = S at *
        have kg1 := Blk.keep hb1 KG.out
        have kr1 := Blk.keep hb1 KR.out
        have hbz1 := hb1.size
        clear c4 f4 z4 cr fr zr
        have c4 := kg1.cell
        have f4 := kg1.frozen
        have z4 := kg1.lt
        have cr := kr1.cell
        have fr := kr1.frozen
        have zr := kr1.lt
        go_wp2_with fail
        (with_reducible refine (HS.out _ _ _ w.heap.size _ (HH.out.below hb1) HA.out (by omega)).mono ?_)
        rintro e w2 ⟨v, rfl, hLv, hb2⟩
        obtain ⟨_, _, _, _, rfl, ⟨E0, e0, rfl, hI0, hr0⟩, ⟨E1, e1, rfl, _⟩, ⟨E2, e2, rfl, _⟩, ⟨⟨E3, e3, rfl, hI3, hr3⟩, hB3⟩⟩ := hLv
        have kg2 := Blk.keep hb2 kg1
        have kr2 := Blk.keep hb2 kr1
        clear c4 f4 z4 cr fr zr
        have c4 := kg2.cell
        have f4 := kg2.frozen
        have z4 := kg2.lt
        have cr := kr2.cell
        have fr := kr2.frozen
        have zr := kr2.lt
        have hbz2 := hb2.size
        have s6 := run_cut_h E0 L.nums.length e0 3 3 rfl (by have := hr0.cap; omega) 31 Try.underlying31 size26
        have I0 := Lib.hid hI0
        have N0 := Lib.hid hr0
        have I3 := Lib.hid hI3
        have P3 := Lib.hid (And.intro hr3 hB3)
        clear hI0 hr0 hI3 hr3 hB3
        go_wp2_with fail
        (with_reducible refine (num_any _ _ _ _ _ (R8.out.below ((hb1.trans hb2).trans (by go_grown))) (HB'.out.sub 2 4) (by omega) (by omega)).mono ?_)
        rintro e w3 ⟨rfl, rfl⟩
        rw [HG]
        go_wp2_with fail
        have hz7 : wr.heap.size ≤ w2.heap.size := by omega
        have B23 : Bl wr (w2.alloc (.cells #[.slice E0 L.nums.length e0, .slice E1 L.data.length e1, .slice E2 L.parts.length e2, .slice E3 L.payload.length e3] 35)) := (hb1.trans hb2).trans (by go_grown)
        have k7 := Blk.new w2 #[.slice E0 L.nums.length e0, .slice E1 L.data.length e1, .slice E2 L.parts.length e2, .slice E3 L.payload.length e3] 35
        have kg3 := kg2.alloc (.cells #[.slice E0 L.nums.length e0, .slice E1 L.data.length e1, .slice E2 L.parts.length e2, .slice E3 L.payload.length e3] 35)
        have kr3 := kr2.alloc (.cells #[.slice E0 L.nums.length e0, .slice E1 L.data.length e1, .slice E2 L.parts.length e2, .slice E3 L.payload.length e3] 35)
        have N3 := Lib.hid (N0.out.below (show Bl w2 (w2.alloc (.cells #[.slice E0 L.nums.length e0, .slice E1 L.data.length e1, .slice E2 L.parts.length e2, .slice E3 L.payload.length e3] 35)) by go_grown))
        have P4 := Lib.hid (P3.out.1.below (show Bl w2 (w2.alloc (.cells #[.slice E0 L.nums.length e0, .slice E1 L.data.length e1, .slice E2 L.parts.length e2, .slice E3 L.payload.length e3] 35)) by go_grown))
        have PB := Lib.hid P3.out.2
        have hz3 : w2.heap.size < (w2.alloc (.cells #[.slice E0 L.nums.length e0, .slice E1 L.data.length e1, .slice E2 L.parts.length e2, .slice E3 L.payload.length e3] 35)).heap.size := by simp
        clear c4 f4 z4 cr fr zr kg1 kg2 kr1 kr2 N0 P3 d0 hbz2 kr
        generalize w2.alloc (.cells #[.slice E0 L.nums.length e0, .slice E1 L.data.length e1, .slice E2 L.parts.length e2, .slice E3 L.payload.length e3] 35) = W3 at *
        generalize w2.heap.size = g7 at *
        obtain ⟨vs, ho, hes⟩ := HP.out
        have HO := Lib.hid ho
        have HES := Lib.hid hes
        have HFR : Hid (∀ k, Fr w.heap.size w1 k → (Two w.heap.size g4 k ∧ (Value.slice A2 ps.length c2).ownBlock ≠ some k)) := Lib.hid (fun k hk => by
          refine ⟨⟨?_, ?_⟩, fun e => ?_⟩
          · rcases hk with hk | hk <;> omega
          · rcases hk with hk | hk <;> omega
          · have := HO.out.lt k e
            rcases hk with hk | hk <;> omega)
        clear ho hes
        have q4 : ∀ d os, (Sort.grow (redrawn W3 d) os).cell? ⟨g4, 2, none⟩ = some (.slice A2 ps.length c2) := fun d os => cell_regrown (kg3.cell 2) d os
        have q7 : ∀ d os, (Sort.grow (redrawn W3 d) os).cell? ⟨g7, 0, none⟩ = some (.slice E0 L.nums.length e0) := fun d os => cell_regrown (k7.cell 0) d os
        refine wp_region_float (S := Grw W3) [true, true, true, true, true, true, true, true, false, false, false, false] 9 (by kernel_rfl) (by kernel_rfl) (Grw.drew W3) ?_
        simp only [selQ, selN, earlyN]
        repeat (first | go_big_quiet_skip | (go_big_quiet_want; go_big_quiet_op; go_big_quiet_on))
        refine wpQuiet_nil ?_
        refine wpN_want rfl (fun K hK => ?_)
        go_big_op
        have BdX : Bl W3 (W3.alloc (.cells #[.slice E0 3 e0, .slice (some ⟨g, o, none⟩) 16 c'] 57)).drew := (show Bl W3 (W3.alloc (.cells #[.slice E0 3 e0, .slice (some ⟨g, o, none⟩) 16 c'] 57)) by go_grown).drew
        refine hK _ _ (Grw.of BdX) ?_
        clear hK K q4 q7
        refine wpN_late ?_
        have B4 : Bl wr (W3.alloc (.cells #[.slice E0 3 e0, .slice (some ⟨g, o, none⟩) 16 c'] 57)).drew := B23.trans BdX
        have KP := Lib.hid (show Blk (W3.alloc (.cells #[.slice E0 3 e0, .slice (some ⟨g, o, none⟩) 16 c'] 57)).drew W3.heap.size #[.slice E0 3 e0, .slice (some ⟨g, o, none⟩) 16 c'] 57 from (Blk.new W3 _ _).same rfl)
        have kg4 := Blk.keep BdX kg3
        have kr4 := Blk.keep BdX kr3
        have k74 := Blk.keep BdX k7
        generalize (W3.alloc (.cells #[.slice E0 3 e0, .slice (some ⟨g, o, none⟩) 16 c'] 57)).drew = W4 at *
        refine wpList_app rfl (.tmp 62) (.tmp 69) 33 57 (.agg #[.slice none 0 0, .slice none 0 0]) 2 48 wc.heap.size rfl ud33p info57 rfl (by decide) (by decide) (.slice A2 ps.length c2) ps.length vs (some ⟨W3.heap.size, 0, none⟩) 1 1 [.slice E0 3 e0, .slice (some ⟨g, o, none⟩) 16 c'] rfl rfl (own_bl HO.out B4) (Blk.src KP.out 1 2 rfl (by simp [Value.oneCell'])) (by omega) (Nat.le_trans hz B4.size) ?_
        intro A5 c5 w5 hp5
        have hon : ∀ k, (k < wc.heap.size ∨ wr.heap.size ≤ k) → (Value.slice A2 ps.length c2).ownBlock ≠ some k := fun k hk e => by have := HO.out.lt k e; omega
        have h0n : NumV (fun k => Two w.heap.size g4 k ∧ (Value.slice A2 ps.length c2).ownBlock ≠ some k) W4 (.slice E0 3 e0) (chPrt l').nums := by
          have r := (N3.out.below BdX).cut0 3 hL3
          rw [HN.out] at r
          exact ⟨E0, e0, rfl, fun _ x hx => HFR.out _ (I0.out (by omega) x hx), r⟩
        have h1n : BytV (fun k => Two w.heap.size g4 k ∧ (Value.slice A2 ps.length c2).ownBlock ≠ some k) W4 (.slice (some ⟨g, o, none⟩) 16 c') (chPrt l').data := by
          have e : (chPrt l').data = sub l' 0 16 := by show conOf l' = _; rw [conOf, if_pos (HX.out.trans HX0.out)]
          rw [e]
          exact (R9.out.below B4).bytV (fun _ x hx => HFR.out _ (.inl (HA.out (by omega) x hx))) (HB'.out.sub _ _)
        have hp6 := PRow.app (els_below HES.out B4) (own_bl HO.out B4) hp5 h0n h1n
        have kg5 := hp5.blk kg4 (hon g4 (.inl zg0))
        have kr5 := hp5.blk kr4 (hon _ (.inl (by omega)))
        have k75 := hp5.blk k74 (hon g7 (.inr hz7))
        have B5 : Bl w w5 := Below.grown (hb.trans B4) hp5.grown (hb.trans B4).size (fun k hk => by have := HO.out.lt k hk; omega)
        have nv5 := (NV.out.below B4).keepF (w' := w5) (fun k hF hlt => hp5.grown.block k hlt (fun e => hon k (.inl hF.2) e.symm))
        have pv5 := (P4.out.below BdX).keepF (F := fun k => Two w.heap.size g4 k ∧ (Value.slice A2 ps.length c2).ownBlock ≠ some k) (w' := w5) (fun h0 x hx => HFR.out _ (I3.out h0 x hx)) (fun k hF hlt => hp5.grown.block k hlt (fun e => hF.2 e.symm))
        have hz5 : wc.heap.size ≤ w5.heap.size := Nat.le_trans (Nat.le_trans hz B4.size) hp5.grown.size
        have HP6 := Lib.hid hp6
        have NV5 := Lib.hid nv5
        have PV5 := Lib.hid pv5
        have c4 := kg5.cell
        have f4 := kg5.frozen
        have z4 := kg5.lt
        clear hp6 h0n h1n hon hp5 HES HO HP KP B4 BdX kg4 kr4 k74 kg3 kr3 k7 nv5 pv5
        go_wp2_with fail
        refine NoPanic.normal ?_
        have B6 : Bl w (w5.setCell ⟨g4, 2, none⟩ (.slice A5 (ps.length + 1) c5)) := Below.setCell B5 (Nat.le_of_lt hg4) _
        have kg6 := kg5.set 2 (.slice A5 (ps.length + 1) c5)
        simp only [List.setIfInBounds_toArray, List.set_cons_zero, List.set_cons_succ] at kg6
        have kr6 := kr5.far (p := ⟨g4, 2, none⟩) (Nat.ne_of_lt hg4) (.slice A5 (ps.length + 1) c5)
        have NV6 := Lib.hid (NV5.out.keepF ((KeepF.refl _ w5).setCell (p := ⟨g4, 2, none⟩) (fun h => h.1.2 rfl) (.slice A5 (ps.length + 1) c5)))
        have HP7 := Lib.hid (HP6.out.set kg5 (by decide) (fun h => h.2 rfl) 2 (.slice A5 (ps.length + 1) c5))
        have hz6 : wc.heap.size ≤ (w5.setCell ⟨g4, 2, none⟩ (.slice A5 (ps.length + 1) c5)).heap.size := by simpa using hz5
        have PV6 := Lib.hid (PV5.out.keepF (F := fun k => Two w.heap.size g4 k ∧ (Value.slice A2 ps.length c2).ownBlock ≠ some k) (fun h0 x hx => HFR.out _ (I3.out h0 x hx)) ((KeepF.refl _ w5).setCell (p := ⟨g4, 2, none⟩) (fun h => h.1.2 rfl) (.slice A5 (ps.length + 1) c5)))
        have k76 := k75.far (p := ⟨g4, 2, none⟩) (show g7 ≠ g4 by omega) (.slice A5 (ps.length + 1) c5)
        have hg74 : g4 ≠ g7 := by omega
        clear c4 f4 z4 B5 kg5 kr5 k75 HP6 NV5 PV5 hz5
        generalize w5.setCell ⟨g4, 2, none⟩ (.slice A5 (ps.length + 1) c5) = W6 at *
        have c4 := kg6.cell
        have f4 := kg6.frozen
        have z4 := kg6.lt
        have c7 := k76.cell
        have f7 := k76.frozen
        have z7 := k76.lt
        have cr := kr6.cell
        have fr := kr6.frozen
        have zr := kr6.lt
        go_wp2_with fail
        have B7 : Bl w (W6.setCell ⟨g4, 3, none⟩ (.slice E3 L.payload.length e3)) := Below.setCell B6 (Nat.le_of_lt hg4) _
        have kr7 := kr6.far (p := ⟨g4, 3, none⟩) (Nat.ne_of_lt hg4) (.slice E3 L.payload.length e3)
        have NV7 := NV6.out.keepF ((KeepF.refl _ W6).setCell (p := ⟨g4, 3, none⟩) (fun h => h.1.2 rfl) (.slice E3 L.payload.length e3))
        have HP8 := HP7.out.set kg6 (by decide) (fun h => h.2 rfl) 3 (.slice E3 L.payload.length e3)
        have PV7 := PV6.out.keepF (F := fun k => Two w.heap.size g4 k ∧ (Value.slice A2 ps.length c2).ownBlock ≠ some k) (fun h0 x hx => HFR.out _ (I3.out h0 x hx)) ((KeepF.refl _ W6).setCell (p := ⟨g4, 3, none⟩) (fun h => h.1.2 rfl) (.slice E3 L.payload.length e3))
        obtain ⟨BF, hLF, kf⟩ := pk_end B7 kr7 hg4 zg0 (NV7.mono fun _ h => h.1) HP8 (PV7.bytV (fun h0 x hx => (HFR.out _ (I3.out h0 x hx)).1) PB.out)
        have cf := kf.cell
        generalize (((((W6.setCell ⟨g4, 3, none⟩ (.slice E3 L.payload.length e3)).setCell ⟨w.heap.size, 0, none⟩ (.slice An 4 cn)).setCell ⟨w.heap.size, 1, none⟩ (.slice none 0 0)).setCell ⟨w.heap.size, 2, none⟩ (.slice A5 (ps.length + 1) c5)).setCell ⟨w.heap.size, 3, none⟩ (.slice E3 L.payload.length e3)) = WF at *
        have hx0 : l'.getD 0 0 = 0 := HX.out.trans HX0.out
        have hq := PK.out _ _ (Pkt.data (by omega) HCH.out hx0)
        rw [show payOf l' = L.payload from by rw [payOf, if_pos hx0]; exact HD3.out.symm] at hq
        exact bodyPost_ret (v := .tuple #[.agg #[.slice An 4 cn, .slice none 0 0, .slice A5 (ps.length + 1) c5, .slice E3 L.payload.length e3], .bool true]) (by simp [results, Try.results32, go_sem, cf]) rfl ⟨_, _, rfl, BF, _, hLF, fun _ => ⟨by omega, ps ++ [chPrt l'], L.payload, hq, rfl⟩⟩
      · rw [decide_eq_false hx] at hdt
        have HX0 := Lib.hid hx
        clear hx
        generalize hU : up4 (chL l') = U at *
        have HUE := Lib.hid hU
        clear hU
        have s9 := run_cut_h (some ⟨g, o, none⟩) n' c' U U rfl (by omega) 24 Try.underlying24 size5
        have s10 := run_cut_l (some ⟨g, o, none⟩) n' c' U U rfl (by omega) 24 Try.underlying24 size5
        have R9 := Lib.hid (HH.out.cut0 U (by omega))
        go_wp2_with fail
        (with_reducible refine (kind_any _ _).mono ?_)
        rintro e w1 ⟨rfl, hb1⟩
        generalize kindOf x0 = S at *
        have kg1 := Blk.keep hb1 KG.out
        have kr1 := Blk.keep hb1 KR.out
        have hbz1 := hb1.size
        clear c4 f4 z4 cr fr zr
        have c4 := kg1.cell
        have f4 := kg1.frozen
        have z4 := kg1.lt
        have cr := kr1.cell
        have fr := kr1.frozen
        have zr := kr1.lt
        go_wp2_with fail
        (with_reducible refine (HS.out _ _ _ w.heap.size _ (HH.out.below hb1) HA.out (by omega)).mono ?_)
        rintro e w2 ⟨v, rfl, hLv, hb2⟩
        obtain ⟨_, _, _, _, rfl, ⟨E0, e0, rfl, hI0, hr0⟩, ⟨E1, e1, rfl, _⟩, ⟨E2, e2, rfl, _⟩, ⟨⟨E3, e3, rfl, hI3, hr3⟩, hB3⟩⟩ := hLv
        have kg2 := Blk.keep hb2 kg1
        have kr2 := Blk.keep hb2 kr1
        clear c4 f4 z4 cr fr zr
        have c4 := kg2.cell
        have f4 := kg2.frozen
        have z4 := kg2.lt
        have cr := kr2.cell
        have fr := kr2.frozen
        have zr := kr2.lt
        have hbz2 := hb2.size
        have s6 := run_cut_h E0 L.nums.length e0 3 3 rfl (by have := hr0.cap; omega) 31 Try.underlying31 size26
        have I0 := Lib.hid hI0
        have N0 := Lib.hid hr0
        have I3 := Lib.hid hI3
        have P3 := Lib.hid (And.intro hr3 hB3)
        clear hI0 hr0 hI3 hr3 hB3
        go_wp2_with fail
        (with_reducible refine (num_any _ _ _ _ _ (R8.out.below ((hb1.trans hb2).trans (by go_grown))) (HB'.out.sub 2 4) (by omega) (by omega)).mono ?_)
        rintro e w3 ⟨rfl, rfl⟩
        rw [HG]
        go_wp2_with fail
        have hz7 : wr.heap.size ≤ w2.heap.size := by omega
        have B23 : Bl wr (w2.alloc (.cells #[.slice E0 L.nums.length e0, .slice E1 L.data.length e1, .slice E2 L.parts.length e2, .slice E3 L.payload.length e3] 35)) := (hb1.trans hb2).trans (by go_grown)
        have k7 := Blk.new w2 #[.slice E0 L.nums.length e0, .slice E1 L.data.length e1, .slice E2 L.parts.length e2, .slice E3 L.payload.length e3] 35
        have kg3 := kg2.alloc (.cells #[.slice E0 L.nums.length e0, .slice E1 L.data.length e1, .slice E2 L.parts.length e2, .slice E3 L.payload.length e3] 35)
        have kr3 := kr2.alloc (.cells #[.slice E0 L.nums.length e0, .slice E1 L.data.length e1, .slice E2 L.parts.length e2, .slice E3 L.payload.length e3] 35)
        have N3 := Lib.hid (N0.out.below (show Bl w2 (w2.alloc (.cells #[.slice E0 L.nums.length e0, .slice E1 L.data.length e1, .slice E2 L.parts.length e2, .slice E3 L.payload.length e3] 35)) by go_grown))
        have P4 := Lib.hid (P3.out.1.below (show Bl w2 (w2.alloc (.cells #[.slice E0 L.nums.length e0, .slice E1 L.data.length e1, .slice E2 L.parts.length e2, .slice E3 L.payload.length e3] 35)) by go_grown))
        have PB := Lib.hid P3.out.2
        have hz3 : w2.heap.size < (w2.alloc (.cells #[.slice E0 L.nums.length e0, .slice E1 L.data.length e1, .slice E2 L.parts.length e2, .slice E3 L.payload.length e3] 35)).heap.size := by simp
        clear c4 f4 z4 cr fr zr kg1 kg2 kr1 kr2 N0 P3 d0 hbz2 kr
        generalize w2.alloc (.cells #[.slice E0 L.nums.length e0, .slice E1 L.data.length e1, .slice E2 L.parts.length e2, .slice E3 L.payload.length e3] 35) = W3 at *
        generalize w2.heap.size = g7 at *
        obtain ⟨vs, ho, hes⟩ := HP.out
        have HO := Lib.hid ho
        have HES := Lib.hid hes
        have HFR : Hid (∀ k, Fr w.heap.size w1 k → (Two w.heap.size g4 k ∧ (Value.slice A2 ps.length c2).ownBlock ≠ some k)) := Lib.hid (fun k hk => by
          refine ⟨⟨?_, ?_⟩, fun e => ?_⟩
          · rcases hk with hk | hk <;> omega
          · rcases hk with hk | hk <;> omega
          · have := HO.out.lt k e
            rcases hk with hk | hk <;> omega)
        clear ho hes
        have q4 : ∀ d os, (Sort.grow (redrawn W3 d) os).cell? ⟨g4, 2, none⟩ = some (.slice A2 ps.length c2) := fun d os => cell_regrown (kg3.cell 2) d os
        have q7 : ∀ d os, (Sort.grow (redrawn W3 d) os).cell? ⟨g7, 0, none⟩ = some (.slice E0 L.nums.length e0) := fun d os => cell_regrown (k7.cell 0) d os
        refine wp_region_float (S := Grw W3) [true, true, true, true, true, true, true, false, false, false, false, false, false, false] 11 (by kernel_rfl) (by kernel_rfl) (Grw.drew W3) ?_
        simp only [selQ, selN, earlyN]
        repeat (first | go_big_quiet_skip | (go_big_quiet_want; go_big_quiet_op; go_big_quiet_on))
        refine wpQuiet_nil ?_
        refine wpN_want rfl (fun K hK => ?_)
        go_big_op
        (with_reducible refine (sup_any _ (by omega) (by omega) _).mono ?_)
        rintro e w9 ⟨rfl, rfl⟩
        rw [eU]
        refine hK _ _ (Grw.of ((Bl.refl W3).drew)) ?_
        clear hK K
        refine wpN_want rfl (fun K hK => ?_)
        go_big_op
        refine hK _ _ (Grw.of ((Bl.refl W3).drew)) ?_
        clear hK K
        refine wpN_want rfl (fun K hK => ?_)
        go_big_op
        refine hK _ _ (Grw.of ((Bl.refl W3).drew)) ?_
        clear hK K
        refine wpN_want rfl (fun K hK => ?_)
        go_big_op
        have BdX : Bl W3 (W3.alloc (.cells #[.slice E0 3 e0, .slice (some ⟨g, o, none⟩) U c'] 57)).drew := (show Bl W3 (W3.alloc (.cells #[.slice E0 3 e0, .slice (some ⟨g, o, none⟩) U c'] 57)) by go_grown).drew
        refine hK _ _ (Grw.of BdX) ?_
        clear hK K q4 q7
        refine wpN_late ?_
        have B4 : Bl wr (W3.alloc (.cells #[.slice E0 3 e0, .slice (some ⟨g, o, none⟩) U c'] 57)).drew := B23.trans BdX
        have KP := Lib.hid (show Blk (W3.alloc (.cells #[.slice E0 3 e0, .slice (some ⟨g, o, none⟩) U c'] 57)).drew W3.heap.size #[.slice E0 3 e0, .slice (some ⟨g, o, none⟩) U c'] 57 from (Blk.new W3 _ _).same rfl)
        have kg4 := Blk.keep BdX kg3
        have kr4 := Blk.keep BdX kr3
        have k74 := Blk.keep BdX k7
        generalize (W3.alloc (.cells #[.slice E0 3 e0, .slice (some ⟨g, o, none⟩) U c'] 57)).drew = W4 at *
        refine wpList_app rfl (.tmp 77) (.tmp 86) 33 57 (.agg #[.slice none 0 0, .slice none 0 0]) 2 48 wc.heap.size rfl ud33p info57 rfl (by decide) (by decide) (.slice A2 ps.length c2) ps.length vs (some ⟨W3.heap.size, 0, none⟩) 1 1 [.slice E0 3 e0, .slice (some ⟨g, o, none⟩) U c'] rfl rfl (own_bl HO.out B4) (Blk.src KP.out 1 2 rfl (by simp [Value.oneCell'])) (by omega) (Nat.le_trans hz B4.size) ?_
        intro A5 c5 w5 hp5
        have hon : ∀ k, (k < wc.heap.size ∨ wr.heap.size ≤ k) → (Value.slice A2 ps.length c2).ownBlock ≠ some k := fun k hk e => by have := HO.out.lt k e; omega
        have h0n : NumV (fun k => Two w.heap.size g4 k ∧ (Value.slice A2 ps.length c2).ownBlock ≠ some k) W4 (.slice E0 3 e0) (chPrt l').nums := by
          have r := (N3.out.below BdX).cut0 3 hL3
          rw [HN.out] at r
          exact ⟨E0, e0, rfl, fun _ x hx => HFR.out _ (I0.out (by omega) x hx), r⟩
        have h1n : BytV (fun k => Two w.heap.size g4 k ∧ (Value.slice A2 ps.length c2).ownBlock ≠ some k) W4 (.slice (some ⟨g, o, none⟩) U c') (chPrt l').data := by
          have e : (chPrt l').data = sub l' 0 U := by show conOf l' = _; rw [conOf, if_neg (fun h => HX0.out (HX.out.symm.trans h)), HUE.out]
          rw [e]
          exact (R9.out.below B4).bytV (fun _ x hx => HFR.out _ (.inl (HA.out (by omega) x hx))) (HB'.out.sub _ _)
        have hp6 := PRow.app (els_below HES.out B4) (own_bl HO.out B4) hp5 h0n h1n
        have kg5 := hp5.blk kg4 (hon g4 (.inl zg0))
        have kr5 := hp5.blk kr4 (hon _ (.inl (by omega)))
        have k75 := hp5.blk k74 (hon g7 (.inr hz7))
        have B5 : Bl w w5 := Below.grown (hb.trans B4) hp5.grown (hb.trans B4).size (fun k hk => by have := HO.out.lt k hk; omega)
        have nv5 := (NV.out.below B4).keepF (w' := w5) (fun k hF hlt => hp5.grown.block k hlt (fun e => hon k (.inl hF.2) e.symm))
        have pv5 := (P4.out.below BdX).keepF (F := fun k => Two w.heap.size g4 k ∧ (Value.slice A2 ps.length c2).ownBlock ≠ some k) (w' := w5) (fun h0 x hx => HFR.out _ (I3.out h0 x hx)) (fun k hF hlt => hp5.grown.block k hlt (fun e => hF.2 e.symm))
        have hz5 : wc.heap.size ≤ w5.heap.size := Nat.le_trans (Nat.le_trans hz B4.size) hp5.grown.size
        have HP6 := Lib.hid hp6
        have NV5 := Lib.hid nv5
        have PV5 := Lib.hid pv5
        have c4 := kg5.cell
        have f4 := kg5.frozen
        have z4 := kg5.lt
        clear hp6 h0n h1n hon hp5 HES HO HP KP B4 BdX kg4 kr4 k74 kg3 kr3 k7 nv5 pv5
        go_wp2_with fail
        refine NoPanic.normal ?_
        have B6 : Bl w (w5.setCell ⟨g4, 2, none⟩ (.slice A5 (ps.length + 1) c5)) := Below.setCell B5 (Nat.le_of_lt hg4) _
        have kg6 := kg5.set 2 (.slice A5 (ps.length + 1) c5)
        simp only [List.setIfInBounds_toArray, List.set_cons_zero, List.set_cons_succ] at kg6
        have kr6 := kr5.far (p := ⟨g4, 2, none⟩) (Nat.ne_of_lt hg4) (.slice A5 (ps.length + 1) c5)
        have NV6 := Lib.hid (NV5.out.keepF ((KeepF.refl _ w5).setCell (p := ⟨g4, 2, none⟩) (fun h => h.1.2 rfl) (.slice A5 (ps.length + 1) c5)))
        have HP7 := Lib.hid (HP6.out.set kg5 (by decide) (fun h => h.2 rfl) 2 (.slice A5 (ps.length + 1) c5))
        have hz6 : wc.heap.size ≤ (w5.setCell ⟨g4, 2, none⟩ (.slice A5 (ps.length + 1) c5)).heap.size := by simpa using hz5
        clear c4 f4 z4 B5 kg5 kr5 k75 HP6 NV5 PV5 hz5
        generalize w5.setCell ⟨g4, 2, none⟩ (.slice A5 (ps.length + 1) c5) = W6 at *
        go_wp2_with fail
        (with_reducible refine (sup_any _ (by omega) (by omega) _).mono ?_)
        rintro e w9 ⟨rfl, rfl⟩
        rw [eU]
        go_wp2_with fail
        have hx0 : ¬ l'.getD 0 0 = 0 := fun h => HX0.out (HX.out.symm.trans h)
        have hpy : payOf l' = sub l' U n' := by rw [payOf, if_neg hx0, HUE.out, hlen]
        have r6 := (HH.out.keepF HA.out (w' := W6) (fun k hF _ => (B6.block k hF).trans (hb.block k hF).symm)).cut U n' (by omega) (Nat.le_refl _)
        rw [← hpy] at r6
        refine ⟨Lib.hid ⟨_, _, _, payOf l', ps ++ [chPrt l'], _, rfl, r6, by rw [hpy]; exact HB'.out.sub _ _, cutA_inF HA.out (fun _ => by omega), by simp; omega, kg6, NV6.out, HP7.out, kr6, B6, hz6, fun qs pay h => ?_⟩, by simp only; omega⟩
        rw [List.append_assoc]
        exact PK.out _ _ (Pkt.cons (by omega) HKU.out HCH.out hx0 h)
end Go.Proofs.Ytoljdgfbkebgcaa
