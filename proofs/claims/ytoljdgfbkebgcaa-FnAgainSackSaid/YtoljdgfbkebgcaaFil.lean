/- spec.Filled: what fills up a chunk is 0. -/
import Derived.Test.YtoljdgfbkebgcaaKind
import Derived.Test.YtoljdgfbkebgcaaNum
import Derived.Test.YtoljdgfbkebgcaaChk
import Derived.LoopTactic
namespace Go.Proofs.Ytoljdgfbkebgcaa
open Go.RowKit Go.Maps Go.ChangeMaps
section
variable {P : Program}
theorem run_puts {W : World} {r : Nat} {es : Array MapEntry} {clock : Nat} {t k e : TypeId} (ht : P.underlying t = some (.map k e)) (hk : P.underlying k = some .string) (h : W.heap[r]? = some (.map es clock))
    (x : ByteArray) (v : Value) (hn : Instr.findNow .string (.string x) es.toList 0 = some none) :
    (Instr.mapUpdate t (.map (some r)) (.string x) v).run P W = .ok () (setBlock W r (.map (es.push { key := .string x, val := v, born := clock }) (clock + 1))) := by
  simp [Instr.mapUpdate, run_underlying ht, MapKept.run_getObj_map h, MapKept.run_checkKey hk (k := .string x) trivial, MapKept.run_findKey hk hn, MapKept.run_setObj_map _ h, Result.andThen, setBlock]
theorem run_looks {W : World} {r : Nat} {es : Array MapEntry} {clock : Nat} {t k e : TypeId} (ht : P.underlying t = some (.map k e)) (hk : P.underlying k = some .string) (h : W.heap[r]? = some (.map es clock))
    (x : ByteArray) (z : Value) (hz : (zeroValue e).run P W = .ok z W) (a : Option (Nat × Value)) (hn : Instr.findNow .string (.string x) es.toList 0 = some a) :
    (Instr.lookup t (.map (some r)) (.string x) false).run P W = .ok ((a.map (·.2)).getD z) W := by
  cases a <;> simp [Instr.lookup, run_underlying ht, MapKept.run_getObj_map h, MapKept.run_checkKey hk (k := .string x) trivial, MapKept.run_findKey hk hn, Result.andThen, hz]
variable {ops : Array Oper} {rest : List Oper} {o : Oper} {a : Act} {Q : Exit → Act → World → Prop} {W : World}
theorem wpList_puts (hg : o.guard = none) (w0 : World) (m x v : Operand) (t k e : TypeId) (hop : o.op = Op.insert t m x v) (ht : P.underlying t = some (.map k e)) (hk : P.underlying k = some .string)
    (r : Nat) (es : Array MapEntry) (clock : Nat) (key : ByteArray) (val : Value) (hm : a.eval m = .map (some r)) (hx : a.eval x = .string key) (hv : a.eval v = val) (h : MapAt w0 W r es clock)
    (hn : Instr.findNow .string (.string key) es.toList 0 = some none)
    (hK : ∀ w', MapAt w0 w' r (es.push { key := .string key, val := val, born := clock }) (clock + 1) → wpList P ops Q rest (a.put o.dst undef) w') : wpList P ops Q (o :: rest) a W := by
  refine wpList_plain hg fun K' hK' => ?_
  have hrun := run_puts (P := P) ht hk h.heap key val hn
  unfold Oper.wp
  simp [execOp, hop, hm, hx, hv, hrun, Result.andThen]
  exact hK' _ _ (hK _ (h.put _ _))
theorem wpList_looks (hg : o.guard = none) (w0 : World) (m x : Operand) (t k e : TypeId) (hop : o.op = Op.lookup t m x false) (ht : P.underlying t = some (.map k e)) (hk : P.underlying k = some .string)
    (r : Nat) (es : Array MapEntry) (clock : Nat) (key : ByteArray) (hm : a.eval m = .map (some r)) (hx : a.eval x = .string key) (h : MapAt w0 W r es clock)
    (z : Value) (hz : (zeroValue e).run P W = .ok z W) (b : Option (Nat × Value)) (hn : Instr.findNow .string (.string key) es.toList 0 = some b)
    (hK : wpList P ops Q rest (a.put o.dst ((b.map (·.2)).getD z)) W) : wpList P ops Q (o :: rest) a W := by
  refine wpList_plain hg fun K' hK' => ?_
  have hrun := run_looks (P := P) ht hk h.heap key z hz b hn
  unfold Oper.wp
  simp [execOp, hop, hm, hx, hrun, Result.andThen]
  exact hK' _ _ hK
end
/-- A byte behind the length is not 0. -/
def Odd0 (l : List Int) : Prop := ∃ j, chL l ≤ j ∧ j < l.length ∧ l.getD j 0 ≠ 0
set_option maxHeartbeats 2000000 in
theorem fil_bad (s : ByteArray) (A : Option Addr) (n c : Nat) (l : List Int) (w : World) (h : Rd .u8 w A n c l) (hl : By l) (h4 : 4 ≤ n) (hV : chL l ≤ n) (hn : n ≤ 2147483647) (hb : Odd0 l) :
    Calls Try.prog 44 #[.string s, .slice A n c] w fun e w' => e = .returned (.bool false) ∧ Bl w w' := by
  have hcap := h.cap
  have s1 := run_cut A n c 2 4 2 4 rfl rfl (by omega) (by omega) 24 Try.underlying24 size5
  have s2 := run_cut_l A n c (chL l) (be (sub l 2 4)) (chL_int l hl) (by omega) 24 Try.underlying24 size5
  have R1 := Lib.hid (h.cutm 2 4 2 (by omega) (by omega))
  have HB := Lib.hid hl
  have b1 := be_bd2 (sub l 2 4) (hl.sub _ _) (by rw [sub_length _ _ _ (by have := h.len; omega)])
  have e1 := chL_int l hl
  have hlen := h.len
  have P2 := Lib.hid (h.cut (chL l) n hV (Nat.le_refl _))
  have HO := Lib.hid hb
  have E1 := Lib.hid e1
  clear h hl hb e1
  go_enter Try.func44, Try.ntmps44
  go_wp2_with fail
  (with_reducible refine (num_any _ _ _ _ _ R1.out (HB.out.sub 2 4) (by omega) (by omega)).mono ?_)
  rintro e w1 ⟨rfl, rfl⟩
  go_wp2_with fail
  obtain ⟨j0, hj1, hj2, hj3⟩ := HO.out
  have hj : j0 - chL l < n - chL l := by omega
  have hp : (sub l (chL l) n).getD (j0 - chL l) 0 ≠ 0 := by rw [sub_getD _ _ _ _ (by omega), show chL l + (j0 - chL l) = j0 by omega]; exact hj3
  generalize j0 - chL l = j at *
  have hm0 : n - chL l ≤ 2147483647 := by omega
  generalize n - chL l = m at *
  generalize cutA A c (chL l) = A2 at *
  generalize sub l (chL l) n = p at *
  have HP := Lib.hid hp
  obtain ⟨g, o, rfl, hg, hc⟩ := P2.out.at (by omega)
  have HC := Lib.hid hc
  clear hc hp hj3 hj1 hj2 s1 s2
  go_loop [21] (fun i => ∃ k : Nat, k ≤ m ∧ i = .int .i64 k ∧ Hid (∀ j, j < k → p.getD j 0 = 0)) (fun i => m - (intOf i).toNat)
  case atStart => exact ⟨0, Nat.zero_le _, rfl, fun j hj => absurd hj (by omega)⟩
  case round =>
    obtain ⟨k, hk, rfl, hz⟩ := hrel
    by_cases hlt : k < m
    · have hlt' : (k : Int) < (m : Int) := by omega
      have ck := HC.out k hlt
      by_cases hx : p.getD k 0 = 0
      · rw [hx] at ck
        have HX := Lib.hid hx
        clear hx
        go_wp2
        go_round
        case rel => exact ⟨k + 1, by omega, by go_num, fun j hj => by
          by_cases hjk : j = k
          · rw [hjk]; exact HX.out
          · exact hz.out j (by omega)⟩
        case measure => simp [intOf]; omega
      · generalize p.getD k 0 = x at *
        go_wp2
        go_ret
        exact ⟨rfl, Bl.refl _⟩
    · exfalso
      exact HP.out (hz.out j (by omega))
/-- All bytes behind the length are 0. -/
def All0 (l : List Int) : Prop := ∀ j, chL l ≤ j → j < l.length → l.getD j 0 = 0
theorem all0_or (l : List Int) : All0 l ∨ Odd0 l := by
  by_cases h : All0 l
  · exact .inl h
  · right
    unfold All0 at h
    simp only [Classical.not_forall] at h
    obtain ⟨j, h1, h2, h3⟩ := h
    exact ⟨j, h1, h2, h3⟩
set_option maxHeartbeats 2000000 in
theorem filAck_m (A : Option Addr) (n c : Nat) (l : List Int) (w : World) (h : Rd .u8 w A n c l) (hl : By l) (h4 : 4 ≤ n) (hV : chL l ≤ n) (hn : n ≤ 2147483647) (hb : All0 l) (hm : chL l % 4 ≠ 0) :
    Calls Try.prog 44 #[.string ⟨#[115, 99, 116, 112, 115, 104, 117, 116, 100, 111, 119, 110, 97, 99, 107]⟩, .slice A n c] w fun e w' => e = .returned (.bool false) ∧ Bl w w' := by
  have hcap := h.cap
  have e1 := chL_int l hl
  have s1 := run_cut A n c 2 4 2 4 rfl rfl (by omega) (by omega) 24 Try.underlying24 size5
  have s2 := run_cut_l A n c (chL l) (be (sub l 2 4)) e1 (by omega) 24 Try.underlying24 size5
  have R1 := Lib.hid (h.cutm 2 4 2 (by omega) (by omega))
  have HB := Lib.hid hl
  have b1 := be_bd2 (sub l 2 4) (hl.sub _ _) (by rw [sub_length _ _ _ (by have := h.len; omega)])
  have hlen := h.len
  have P2 := Lib.hid (h.cut (chL l) n hV (Nat.le_refl _))
  have HO := Lib.hid hb
  have t1 : be (sub l 2 4) % 4 ≠ 0 := by rw [e1]; omega
  have t1' : (be (sub l 2 4) % 4 == 0) = false := by simpa using t1
  have E1 := Lib.hid e1
  have m0 := MapAt.new (Bl.refl w)
  have hz3 : ∀ W, (zeroValue 3).run Try.prog W = .ok (.int .i64 0) W := by intro W; kernel_rfl
  have mm := run_makeMap (P := Try.prog) 148 w
  clear h hl hb e1 hm
  go_enter Try.func44, Try.ntmps44
  go_wp2_with fail
  (with_reducible refine (num_any _ _ _ _ _ R1.out (HB.out.sub 2 4) (by omega) (by omega)).mono ?_)
  rintro e w1 ⟨rfl, rfl⟩
  go_wp2_with fail
  have hp : ∀ j, j < n - chL l → (sub l (chL l) n).getD j 0 = 0 := fun j hj => by rw [sub_getD _ _ _ _ (by omega)]; exact HO.out _ (by omega) (by omega)
  have hm0 : n - chL l ≤ 2147483647 := by omega
  generalize n - chL l = m at *
  generalize cutA A c (chL l) = A2 at *
  generalize sub l (chL l) n = p at *
  have HP := Lib.hid hp
  clear hp s1 s2
  go_loop [21] (fun i => ∃ k : Nat, k ≤ m ∧ i = .int .i64 k) (fun i => m - (intOf i).toNat)
  case atStart => exact ⟨0, Nat.zero_le _, rfl⟩
  case round =>
    obtain ⟨k, hk, rfl⟩ := hrel
    by_cases hlt : k < m
    · have hlt' : (k : Int) < (m : Int) := by omega
      obtain ⟨g, o, rfl, hg, hc⟩ := P2.out.at (by omega)
      have ck := hc k hlt
      rw [HP.out k hlt] at ck
      clear hc
      go_wp2_with fail
      go_round
      case rel => exact ⟨k + 1, by omega, by go_num⟩
      case measure => simp [intOf]; omega
    · have hge : (m : Int) ≤ (k : Int) := by omega
      go_wp2_with (first | (refine wpList_puts rfl w _ _ _ 148 9 3 rfl Try.underlying148 Try.underlying9 w.heap.size _ _ _ _ rfl rfl rfl (by assumption) (by kernel_rfl) ?_; intro W m1) | (refine wpList_looks rfl w _ _ 148 9 3 rfl Try.underlying148 Try.underlying9 w.heap.size _ _ _ rfl rfl (by assumption) _ (hz3 _) none (by kernel_rfl) ?_))
      go_wp2_with fail
      go_ret
      exact ⟨rfl, MapAt.bl (by assumption)⟩
set_option maxHeartbeats 2000000 in
theorem filAck_q (A : Option Addr) (n c : Nat) (l : List Int) (w : World) (h : Rd .u8 w A n c l) (hl : By l) (h4 : 4 ≤ n) (hV : chL l ≤ n) (hn : n ≤ 2147483647) (hb : All0 l) (hm : chL l % 4 = 0) (hq : chL l ≠ 4) :
    Calls Try.prog 44 #[.string ⟨#[115, 99, 116, 112, 115, 104, 117, 116, 100, 111, 119, 110, 97, 99, 107]⟩, .slice A n c] w fun e w' => e = .returned (.bool false) ∧ Bl w w' := by
  have hcap := h.cap
  have e1 := chL_int l hl
  have s1 := run_cut A n c 2 4 2 4 rfl rfl (by omega) (by omega) 24 Try.underlying24 size5
  have s2 := run_cut_l A n c (chL l) (be (sub l 2 4)) e1 (by omega) 24 Try.underlying24 size5
  have R1 := Lib.hid (h.cutm 2 4 2 (by omega) (by omega))
  have HB := Lib.hid hl
  have b1 := be_bd2 (sub l 2 4) (hl.sub _ _) (by rw [sub_length _ _ _ (by have := h.len; omega)])
  have hlen := h.len
  have P2 := Lib.hid (h.cut (chL l) n hV (Nat.le_refl _))
  have HO := Lib.hid hb
  have t1 : (be (sub l 2 4) % 4 == 0) = true := by rw [e1]; simp; omega
  have t2 : (be (sub l 2 4) == 4) = false := by rw [e1]; simp; omega
  have E1 := Lib.hid e1
  have m0 := MapAt.new (Bl.refl w)
  have hz3 : ∀ W, (zeroValue 3).run Try.prog W = .ok (.int .i64 0) W := by intro W; kernel_rfl
  have mm := run_makeMap (P := Try.prog) 148 w
  clear h hl hb e1 hm hq
  go_enter Try.func44, Try.ntmps44
  go_wp2_with fail
  (with_reducible refine (num_any _ _ _ _ _ R1.out (HB.out.sub 2 4) (by omega) (by omega)).mono ?_)
  rintro e w1 ⟨rfl, rfl⟩
  go_wp2_with fail
  have hp : ∀ j, j < n - chL l → (sub l (chL l) n).getD j 0 = 0 := fun j hj => by rw [sub_getD _ _ _ _ (by omega)]; exact HO.out _ (by omega) (by omega)
  have hm0 : n - chL l ≤ 2147483647 := by omega
  generalize n - chL l = m at *
  generalize cutA A c (chL l) = A2 at *
  generalize sub l (chL l) n = p at *
  have HP := Lib.hid hp
  clear hp s1 s2
  go_loop [21] (fun i => ∃ k : Nat, k ≤ m ∧ i = .int .i64 k) (fun i => m - (intOf i).toNat)
  case atStart => exact ⟨0, Nat.zero_le _, rfl⟩
  case round =>
    obtain ⟨k, hk, rfl⟩ := hrel
    by_cases hlt : k < m
    · have hlt' : (k : Int) < (m : Int) := by omega
      obtain ⟨g, o, rfl, hg, hc⟩ := P2.out.at (by omega)
      have ck := hc k hlt
      rw [HP.out k hlt] at ck
      clear hc
      go_wp2_with fail
      go_round
      case rel => exact ⟨k + 1, by omega, by go_num⟩
      case measure => simp [intOf]; omega
    · have hge : (m : Int) ≤ (k : Int) := by omega
      go_wp2_with (first | (refine wpList_puts rfl w _ _ _ 148 9 3 rfl Try.underlying148 Try.underlying9 w.heap.size _ _ _ _ rfl rfl rfl (by assumption) (by kernel_rfl) ?_; intro W m1) | (refine wpList_looks rfl w _ _ 148 9 3 rfl Try.underlying148 Try.underlying9 w.heap.size _ _ _ rfl rfl (by assumption) _ (hz3 _) none (by kernel_rfl) ?_))
      go_wp2_with fail
      go_ret
      exact ⟨rfl, MapAt.bl (by assumption)⟩
set_option maxHeartbeats 2000000 in
theorem filAck (A : Option Addr) (n c : Nat) (l : List Int) (w : World) (h : Rd .u8 w A n c l) (hl : By l) (h4 : 4 ≤ n) (hV : chL l ≤ n) (hn : n ≤ 2147483647) (hb : All0 l) (hq : chL l = 4) :
    Calls Try.prog 44 #[.string ⟨#[115, 99, 116, 112, 115, 104, 117, 116, 100, 111, 119, 110, 97, 99, 107]⟩, .slice A n c] w fun e w' => e = .returned (.bool true) ∧ Bl w w' := by
  have hcap := h.cap
  have e1 := chL_int l hl
  have s1 := run_cut A n c 2 4 2 4 rfl rfl (by omega) (by omega) 24 Try.underlying24 size5
  have s2 := run_cut_l A n c (chL l) (be (sub l 2 4)) e1 (by omega) 24 Try.underlying24 size5
  have R1 := Lib.hid (h.cutm 2 4 2 (by omega) (by omega))
  have HB := Lib.hid hl
  have b1 := be_bd2 (sub l 2 4) (hl.sub _ _) (by rw [sub_length _ _ _ (by have := h.len; omega)])
  have hlen := h.len
  have P2 := Lib.hid (h.cut (chL l) n hV (Nat.le_refl _))
  have HO := Lib.hid hb
  have t1 : (be (sub l 2 4) % 4 == 0) = true := by rw [e1, hq]; rfl
  have t2 : (be (sub l 2 4) == 4) = true := by rw [e1, hq]; rfl
  have E1 := Lib.hid e1
  have m0 := MapAt.new (Bl.refl w)
  have hz3 : ∀ W, (zeroValue 3).run Try.prog W = .ok (.int .i64 0) W := by intro W; kernel_rfl
  have mm := run_makeMap (P := Try.prog) 148 w
  clear h hl hb e1 hq
  go_enter Try.func44, Try.ntmps44
  go_wp2_with fail
  (with_reducible refine (num_any _ _ _ _ _ R1.out (HB.out.sub 2 4) (by omega) (by omega)).mono ?_)
  rintro e w1 ⟨rfl, rfl⟩
  go_wp2_with fail
  have hp : ∀ j, j < n - chL l → (sub l (chL l) n).getD j 0 = 0 := fun j hj => by rw [sub_getD _ _ _ _ (by omega)]; exact HO.out _ (by omega) (by omega)
  have hm0 : n - chL l ≤ 2147483647 := by omega
  generalize n - chL l = m at *
  generalize cutA A c (chL l) = A2 at *
  generalize sub l (chL l) n = p at *
  have HP := Lib.hid hp
  clear hp s1 s2
  go_loop [21] (fun i => ∃ k : Nat, k ≤ m ∧ i = .int .i64 k) (fun i => m - (intOf i).toNat)
  case atStart => exact ⟨0, Nat.zero_le _, rfl⟩
  case round =>
    obtain ⟨k, hk, rfl⟩ := hrel
    by_cases hlt : k < m
    · have hlt' : (k : Int) < (m : Int) := by omega
      obtain ⟨g, o, rfl, hg, hc⟩ := P2.out.at (by omega)
      have ck := hc k hlt
      rw [HP.out k hlt] at ck
      clear hc
      go_wp2_with fail
      go_round
      case rel => exact ⟨k + 1, by omega, by go_num⟩
      case measure => simp [intOf]; omega
    · have hge : (m : Int) ≤ (k : Int) := by omega
      go_wp2_with (first | (refine wpList_puts rfl w _ _ _ 148 9 3 rfl Try.underlying148 Try.underlying9 w.heap.size _ _ _ _ rfl rfl rfl (by assumption) (by kernel_rfl) ?_; intro W m1) | (refine wpList_looks rfl w _ _ 148 9 3 rfl Try.underlying148 Try.underlying9 w.heap.size _ _ _ rfl rfl (by assumption) _ (hz3 _) none (by kernel_rfl) ?_))
      go_wp2_with fail
      go_ret
      exact ⟨rfl, MapAt.bl (by assumption)⟩
set_option maxHeartbeats 2000000 in
theorem filEmp_m (A : Option Addr) (n c : Nat) (l : List Int) (w : World) (h : Rd .u8 w A n c l) (hl : By l) (h4 : 4 ≤ n) (hV : chL l ≤ n) (hn : n ≤ 2147483647) (hb : All0 l) (hm : chL l % 4 ≠ 0) :
    Calls Try.prog 44 #[.string ⟨#[115, 99, 116, 112, 101, 109, 112, 116, 121]⟩, .slice A n c] w fun e w' => e = .returned (.bool false) ∧ Bl w w' := by
  have hcap := h.cap
  have e1 := chL_int l hl
  have s1 := run_cut A n c 2 4 2 4 rfl rfl (by omega) (by omega) 24 Try.underlying24 size5
  have s2 := run_cut_l A n c (chL l) (be (sub l 2 4)) e1 (by omega) 24 Try.underlying24 size5
  have R1 := Lib.hid (h.cutm 2 4 2 (by omega) (by omega))
  have HB := Lib.hid hl
  have b1 := be_bd2 (sub l 2 4) (hl.sub _ _) (by rw [sub_length _ _ _ (by have := h.len; omega)])
  have hlen := h.len
  have P2 := Lib.hid (h.cut (chL l) n hV (Nat.le_refl _))
  have HO := Lib.hid hb
  have t1 : be (sub l 2 4) % 4 ≠ 0 := by rw [e1]; omega
  have t1' : (be (sub l 2 4) % 4 == 0) = false := by simpa using t1
  have E1 := Lib.hid e1
  have m0 := MapAt.new (Bl.refl w)
  have hz3 : ∀ W, (zeroValue 3).run Try.prog W = .ok (.int .i64 0) W := by intro W; kernel_rfl
  have mm := run_makeMap (P := Try.prog) 148 w
  clear h hl hb e1 hm
  go_enter Try.func44, Try.ntmps44
  go_wp2_with fail
  (with_reducible refine (num_any _ _ _ _ _ R1.out (HB.out.sub 2 4) (by omega) (by omega)).mono ?_)
  rintro e w1 ⟨rfl, rfl⟩
  go_wp2_with fail
  have hp : ∀ j, j < n - chL l → (sub l (chL l) n).getD j 0 = 0 := fun j hj => by rw [sub_getD _ _ _ _ (by omega)]; exact HO.out _ (by omega) (by omega)
  have hm0 : n - chL l ≤ 2147483647 := by omega
  generalize n - chL l = m at *
  generalize cutA A c (chL l) = A2 at *
  generalize sub l (chL l) n = p at *
  have HP := Lib.hid hp
  clear hp s1 s2
  go_loop [21] (fun i => ∃ k : Nat, k ≤ m ∧ i = .int .i64 k) (fun i => m - (intOf i).toNat)
  case atStart => exact ⟨0, Nat.zero_le _, rfl⟩
  case round =>
    obtain ⟨k, hk, rfl⟩ := hrel
    by_cases hlt : k < m
    · have hlt' : (k : Int) < (m : Int) := by omega
      obtain ⟨g, o, rfl, hg, hc⟩ := P2.out.at (by omega)
      have ck := hc k hlt
      rw [HP.out k hlt] at ck
      clear hc
      go_wp2_with fail
      go_round
      case rel => exact ⟨k + 1, by omega, by go_num⟩
      case measure => simp [intOf]; omega
    · have hge : (m : Int) ≤ (k : Int) := by omega
      go_wp2_with (first | (refine wpList_puts rfl w _ _ _ 148 9 3 rfl Try.underlying148 Try.underlying9 w.heap.size _ _ _ _ rfl rfl rfl (by assumption) (by kernel_rfl) ?_; intro W m1) | (refine wpList_looks rfl w _ _ 148 9 3 rfl Try.underlying148 Try.underlying9 w.heap.size _ _ _ rfl rfl (by assumption) _ (hz3 _) none (by kernel_rfl) ?_))
      go_wp2_with fail
      go_ret
      exact ⟨rfl, MapAt.bl (by assumption)⟩
set_option maxHeartbeats 2000000 in
theorem filEmp_q (A : Option Addr) (n c : Nat) (l : List Int) (w : World) (h : Rd .u8 w A n c l) (hl : By l) (h4 : 4 ≤ n) (hV : chL l ≤ n) (hn : n ≤ 2147483647) (hb : All0 l) (hm : chL l % 4 = 0) (hq : chL l ≠ 4) :
    Calls Try.prog 44 #[.string ⟨#[115, 99, 116, 112, 101, 109, 112, 116, 121]⟩, .slice A n c] w fun e w' => e = .returned (.bool false) ∧ Bl w w' := by
  have hcap := h.cap
  have e1 := chL_int l hl
  have s1 := run_cut A n c 2 4 2 4 rfl rfl (by omega) (by omega) 24 Try.underlying24 size5
  have s2 := run_cut_l A n c (chL l) (be (sub l 2 4)) e1 (by omega) 24 Try.underlying24 size5
  have R1 := Lib.hid (h.cutm 2 4 2 (by omega) (by omega))
  have HB := Lib.hid hl
  have b1 := be_bd2 (sub l 2 4) (hl.sub _ _) (by rw [sub_length _ _ _ (by have := h.len; omega)])
  have hlen := h.len
  have P2 := Lib.hid (h.cut (chL l) n hV (Nat.le_refl _))
  have HO := Lib.hid hb
  have t1 : (be (sub l 2 4) % 4 == 0) = true := by rw [e1]; simp; omega
  have t2 : (be (sub l 2 4) == 4) = false := by rw [e1]; simp; omega
  have E1 := Lib.hid e1
  have m0 := MapAt.new (Bl.refl w)
  have hz3 : ∀ W, (zeroValue 3).run Try.prog W = .ok (.int .i64 0) W := by intro W; kernel_rfl
  have mm := run_makeMap (P := Try.prog) 148 w
  clear h hl hb e1 hm hq
  go_enter Try.func44, Try.ntmps44
  go_wp2_with fail
  (with_reducible refine (num_any _ _ _ _ _ R1.out (HB.out.sub 2 4) (by omega) (by omega)).mono ?_)
  rintro e w1 ⟨rfl, rfl⟩
  go_wp2_with fail
  have hp : ∀ j, j < n - chL l → (sub l (chL l) n).getD j 0 = 0 := fun j hj => by rw [sub_getD _ _ _ _ (by omega)]; exact HO.out _ (by omega) (by omega)
  have hm0 : n - chL l ≤ 2147483647 := by omega
  generalize n - chL l = m at *
  generalize cutA A c (chL l) = A2 at *
  generalize sub l (chL l) n = p at *
  have HP := Lib.hid hp
  clear hp s1 s2
  go_loop [21] (fun i => ∃ k : Nat, k ≤ m ∧ i = .int .i64 k) (fun i => m - (intOf i).toNat)
  case atStart => exact ⟨0, Nat.zero_le _, rfl⟩
  case round =>
    obtain ⟨k, hk, rfl⟩ := hrel
    by_cases hlt : k < m
    · have hlt' : (k : Int) < (m : Int) := by omega
      obtain ⟨g, o, rfl, hg, hc⟩ := P2.out.at (by omega)
      have ck := hc k hlt
      rw [HP.out k hlt] at ck
      clear hc
      go_wp2_with fail
      go_round
      case rel => exact ⟨k + 1, by omega, by go_num⟩
      case measure => simp [intOf]; omega
    · have hge : (m : Int) ≤ (k : Int) := by omega
      go_wp2_with (first | (refine wpList_puts rfl w _ _ _ 148 9 3 rfl Try.underlying148 Try.underlying9 w.heap.size _ _ _ _ rfl rfl rfl (by assumption) (by kernel_rfl) ?_; intro W m1) | (refine wpList_looks rfl w _ _ 148 9 3 rfl Try.underlying148 Try.underlying9 w.heap.size _ _ _ rfl rfl (by assumption) _ (hz3 _) none (by kernel_rfl) ?_))
      go_wp2_with fail
      go_ret
      exact ⟨rfl, MapAt.bl (by assumption)⟩
set_option maxHeartbeats 2000000 in
theorem filEmp (A : Option Addr) (n c : Nat) (l : List Int) (w : World) (h : Rd .u8 w A n c l) (hl : By l) (h4 : 4 ≤ n) (hV : chL l ≤ n) (hn : n ≤ 2147483647) (hb : All0 l) (hq : chL l = 4) :
    Calls Try.prog 44 #[.string ⟨#[115, 99, 116, 112, 101, 109, 112, 116, 121]⟩, .slice A n c] w fun e w' => e = .returned (.bool true) ∧ Bl w w' := by
  have hcap := h.cap
  have e1 := chL_int l hl
  have s1 := run_cut A n c 2 4 2 4 rfl rfl (by omega) (by omega) 24 Try.underlying24 size5
  have s2 := run_cut_l A n c (chL l) (be (sub l 2 4)) e1 (by omega) 24 Try.underlying24 size5
  have R1 := Lib.hid (h.cutm 2 4 2 (by omega) (by omega))
  have HB := Lib.hid hl
  have b1 := be_bd2 (sub l 2 4) (hl.sub _ _) (by rw [sub_length _ _ _ (by have := h.len; omega)])
  have hlen := h.len
  have P2 := Lib.hid (h.cut (chL l) n hV (Nat.le_refl _))
  have HO := Lib.hid hb
  have t1 : (be (sub l 2 4) % 4 == 0) = true := by rw [e1, hq]; rfl
  have t2 : (be (sub l 2 4) == 4) = true := by rw [e1, hq]; rfl
  have E1 := Lib.hid e1
  have m0 := MapAt.new (Bl.refl w)
  have hz3 : ∀ W, (zeroValue 3).run Try.prog W = .ok (.int .i64 0) W := by intro W; kernel_rfl
  have mm := run_makeMap (P := Try.prog) 148 w
  clear h hl hb e1 hq
  go_enter Try.func44, Try.ntmps44
  go_wp2_with fail
  (with_reducible refine (num_any _ _ _ _ _ R1.out (HB.out.sub 2 4) (by omega) (by omega)).mono ?_)
  rintro e w1 ⟨rfl, rfl⟩
  go_wp2_with fail
  have hp : ∀ j, j < n - chL l → (sub l (chL l) n).getD j 0 = 0 := fun j hj => by rw [sub_getD _ _ _ _ (by omega)]; exact HO.out _ (by omega) (by omega)
  have hm0 : n - chL l ≤ 2147483647 := by omega
  generalize n - chL l = m at *
  generalize cutA A c (chL l) = A2 at *
  generalize sub l (chL l) n = p at *
  have HP := Lib.hid hp
  clear hp s1 s2
  go_loop [21] (fun i => ∃ k : Nat, k ≤ m ∧ i = .int .i64 k) (fun i => m - (intOf i).toNat)
  case atStart => exact ⟨0, Nat.zero_le _, rfl⟩
  case round =>
    obtain ⟨k, hk, rfl⟩ := hrel
    by_cases hlt : k < m
    · have hlt' : (k : Int) < (m : Int) := by omega
      obtain ⟨g, o, rfl, hg, hc⟩ := P2.out.at (by omega)
      have ck := hc k hlt
      rw [HP.out k hlt] at ck
      clear hc
      go_wp2_with fail
      go_round
      case rel => exact ⟨k + 1, by omega, by go_num⟩
      case measure => simp [intOf]; omega
    · have hge : (m : Int) ≤ (k : Int) := by omega
      go_wp2_with (first | (refine wpList_puts rfl w _ _ _ 148 9 3 rfl Try.underlying148 Try.underlying9 w.heap.size _ _ _ _ rfl rfl rfl (by assumption) (by kernel_rfl) ?_; intro W m1) | (refine wpList_looks rfl w _ _ 148 9 3 rfl Try.underlying148 Try.underlying9 w.heap.size _ _ _ rfl rfl (by assumption) _ (hz3 _) none (by kernel_rfl) ?_))
      go_wp2_with fail
      go_ret
      exact ⟨rfl, MapAt.bl (by assumption)⟩
set_option maxHeartbeats 2000000 in
theorem filCoo_m (A : Option Addr) (n c : Nat) (l : List Int) (w : World) (h : Rd .u8 w A n c l) (hl : By l) (h4 : 4 ≤ n) (hV : chL l ≤ n) (hn : n ≤ 2147483647) (hb : All0 l) (hm : chL l % 4 ≠ 0) :
    Calls Try.prog 44 #[.string ⟨#[115, 99, 116, 112, 99, 111, 111, 107, 105, 101, 101, 99, 104, 111]⟩, .slice A n c] w fun e w' => e = .returned (.bool false) ∧ Bl w w' := by
  have hcap := h.cap
  have e1 := chL_int l hl
  have s1 := run_cut A n c 2 4 2 4 rfl rfl (by omega) (by omega) 24 Try.underlying24 size5
  have s2 := run_cut_l A n c (chL l) (be (sub l 2 4)) e1 (by omega) 24 Try.underlying24 size5
  have R1 := Lib.hid (h.cutm 2 4 2 (by omega) (by omega))
  have HB := Lib.hid hl
  have b1 := be_bd2 (sub l 2 4) (hl.sub _ _) (by rw [sub_length _ _ _ (by have := h.len; omega)])
  have hlen := h.len
  have P2 := Lib.hid (h.cut (chL l) n hV (Nat.le_refl _))
  have HO := Lib.hid hb
  have t1 : be (sub l 2 4) % 4 ≠ 0 := by rw [e1]; omega
  have t1' : (be (sub l 2 4) % 4 == 0) = false := by simpa using t1
  have E1 := Lib.hid e1
  have m0 := MapAt.new (Bl.refl w)
  have hz3 : ∀ W, (zeroValue 3).run Try.prog W = .ok (.int .i64 0) W := by intro W; kernel_rfl
  have mm := run_makeMap (P := Try.prog) 148 w
  clear h hl hb e1 hm
  go_enter Try.func44, Try.ntmps44
  go_wp2_with fail
  (with_reducible refine (num_any _ _ _ _ _ R1.out (HB.out.sub 2 4) (by omega) (by omega)).mono ?_)
  rintro e w1 ⟨rfl, rfl⟩
  go_wp2_with fail
  have hp : ∀ j, j < n - chL l → (sub l (chL l) n).getD j 0 = 0 := fun j hj => by rw [sub_getD _ _ _ _ (by omega)]; exact HO.out _ (by omega) (by omega)
  have hm0 : n - chL l ≤ 2147483647 := by omega
  generalize n - chL l = m at *
  generalize cutA A c (chL l) = A2 at *
  generalize sub l (chL l) n = p at *
  have HP := Lib.hid hp
  clear hp s1 s2
  go_loop [21] (fun i => ∃ k : Nat, k ≤ m ∧ i = .int .i64 k) (fun i => m - (intOf i).toNat)
  case atStart => exact ⟨0, Nat.zero_le _, rfl⟩
  case round =>
    obtain ⟨k, hk, rfl⟩ := hrel
    by_cases hlt : k < m
    · have hlt' : (k : Int) < (m : Int) := by omega
      obtain ⟨g, o, rfl, hg, hc⟩ := P2.out.at (by omega)
      have ck := hc k hlt
      rw [HP.out k hlt] at ck
      clear hc
      go_wp2_with fail
      go_round
      case rel => exact ⟨k + 1, by omega, by go_num⟩
      case measure => simp [intOf]; omega
    · have hge : (m : Int) ≤ (k : Int) := by omega
      go_wp2_with (first | (refine wpList_puts rfl w _ _ _ 148 9 3 rfl Try.underlying148 Try.underlying9 w.heap.size _ _ _ _ rfl rfl rfl (by assumption) (by kernel_rfl) ?_; intro W m1) | (refine wpList_looks rfl w _ _ 148 9 3 rfl Try.underlying148 Try.underlying9 w.heap.size _ _ _ rfl rfl (by assumption) _ (hz3 _) none (by kernel_rfl) ?_))
      go_wp2_with fail
      go_ret
      exact ⟨rfl, MapAt.bl (by assumption)⟩
set_option maxHeartbeats 2000000 in
theorem filCoo (A : Option Addr) (n c : Nat) (l : List Int) (w : World) (h : Rd .u8 w A n c l) (hl : By l) (h4 : 4 ≤ n) (hV : chL l ≤ n) (hn : n ≤ 2147483647) (hb : All0 l) (hm : chL l % 4 = 0) :
    Calls Try.prog 44 #[.string ⟨#[115, 99, 116, 112, 99, 111, 111, 107, 105, 101, 101, 99, 104, 111]⟩, .slice A n c] w fun e w' => e = .returned (.bool true) ∧ Bl w w' := by
  have hcap := h.cap
  have e1 := chL_int l hl
  have s1 := run_cut A n c 2 4 2 4 rfl rfl (by omega) (by omega) 24 Try.underlying24 size5
  have s2 := run_cut_l A n c (chL l) (be (sub l 2 4)) e1 (by omega) 24 Try.underlying24 size5
  have R1 := Lib.hid (h.cutm 2 4 2 (by omega) (by omega))
  have HB := Lib.hid hl
  have b1 := be_bd2 (sub l 2 4) (hl.sub _ _) (by rw [sub_length _ _ _ (by have := h.len; omega)])
  have hlen := h.len
  have P2 := Lib.hid (h.cut (chL l) n hV (Nat.le_refl _))
  have HO := Lib.hid hb
  have t1 : (be (sub l 2 4) % 4 == 0) = true := by rw [e1]; simp; omega
  have E1 := Lib.hid e1
  have m0 := MapAt.new (Bl.refl w)
  have hz3 : ∀ W, (zeroValue 3).run Try.prog W = .ok (.int .i64 0) W := by intro W; kernel_rfl
  have mm := run_makeMap (P := Try.prog) 148 w
  clear h hl hb e1 hm
  go_enter Try.func44, Try.ntmps44
  go_wp2_with fail
  (with_reducible refine (num_any _ _ _ _ _ R1.out (HB.out.sub 2 4) (by omega) (by omega)).mono ?_)
  rintro e w1 ⟨rfl, rfl⟩
  go_wp2_with fail
  have hp : ∀ j, j < n - chL l → (sub l (chL l) n).getD j 0 = 0 := fun j hj => by rw [sub_getD _ _ _ _ (by omega)]; exact HO.out _ (by omega) (by omega)
  have hm0 : n - chL l ≤ 2147483647 := by omega
  generalize n - chL l = m at *
  generalize cutA A c (chL l) = A2 at *
  generalize sub l (chL l) n = p at *
  have HP := Lib.hid hp
  clear hp s1 s2
  go_loop [21] (fun i => ∃ k : Nat, k ≤ m ∧ i = .int .i64 k) (fun i => m - (intOf i).toNat)
  case atStart => exact ⟨0, Nat.zero_le _, rfl⟩
  case round =>
    obtain ⟨k, hk, rfl⟩ := hrel
    by_cases hlt : k < m
    · have hlt' : (k : Int) < (m : Int) := by omega
      obtain ⟨g, o, rfl, hg, hc⟩ := P2.out.at (by omega)
      have ck := hc k hlt
      rw [HP.out k hlt] at ck
      clear hc
      go_wp2_with fail
      go_round
      case rel => exact ⟨k + 1, by omega, by go_num⟩
      case measure => simp [intOf]; omega
    · have hge : (m : Int) ≤ (k : Int) := by omega
      go_wp2_with (first | (refine wpList_puts rfl w _ _ _ 148 9 3 rfl Try.underlying148 Try.underlying9 w.heap.size _ _ _ _ rfl rfl rfl (by assumption) (by kernel_rfl) ?_; intro W m1) | (refine wpList_looks rfl w _ _ 148 9 3 rfl Try.underlying148 Try.underlying9 w.heap.size _ _ _ rfl rfl (by assumption) _ (hz3 _) none (by kernel_rfl) ?_))
      go_wp2_with fail
      go_ret
      exact ⟨rfl, MapAt.bl (by assumption)⟩
set_option maxHeartbeats 2000000 in
theorem filShu (A : Option Addr) (n c : Nat) (l : List Int) (w : World) (h : Rd .u8 w A n c l) (hl : By l) (h4 : 4 ≤ n) (hV : chL l ≤ n) (hn : n ≤ 2147483647) (hb : All0 l)  :
    Calls Try.prog 44 #[.string ⟨#[115, 99, 116, 112, 115, 104, 117, 116, 100, 111, 119, 110]⟩, .slice A n c] w fun e w' => e = .returned (.bool true) ∧ Bl w w' := by
  have hcap := h.cap
  have e1 := chL_int l hl
  have s1 := run_cut A n c 2 4 2 4 rfl rfl (by omega) (by omega) 24 Try.underlying24 size5
  have s2 := run_cut_l A n c (chL l) (be (sub l 2 4)) e1 (by omega) 24 Try.underlying24 size5
  have R1 := Lib.hid (h.cutm 2 4 2 (by omega) (by omega))
  have HB := Lib.hid hl
  have b1 := be_bd2 (sub l 2 4) (hl.sub _ _) (by rw [sub_length _ _ _ (by have := h.len; omega)])
  have hlen := h.len
  have P2 := Lib.hid (h.cut (chL l) n hV (Nat.le_refl _))
  have HO := Lib.hid hb
  have E1 := Lib.hid e1
  have m0 := MapAt.new (Bl.refl w)
  have hz3 : ∀ W, (zeroValue 3).run Try.prog W = .ok (.int .i64 0) W := by intro W; kernel_rfl
  have mm := run_makeMap (P := Try.prog) 148 w
  clear h hl hb e1
  go_enter Try.func44, Try.ntmps44
  go_wp2_with fail
  (with_reducible refine (num_any _ _ _ _ _ R1.out (HB.out.sub 2 4) (by omega) (by omega)).mono ?_)
  rintro e w1 ⟨rfl, rfl⟩
  go_wp2_with fail
  have hp : ∀ j, j < n - chL l → (sub l (chL l) n).getD j 0 = 0 := fun j hj => by rw [sub_getD _ _ _ _ (by omega)]; exact HO.out _ (by omega) (by omega)
  have hm0 : n - chL l ≤ 2147483647 := by omega
  generalize n - chL l = m at *
  generalize cutA A c (chL l) = A2 at *
  generalize sub l (chL l) n = p at *
  have HP := Lib.hid hp
  clear hp s1 s2
  go_loop [21] (fun i => ∃ k : Nat, k ≤ m ∧ i = .int .i64 k) (fun i => m - (intOf i).toNat)
  case atStart => exact ⟨0, Nat.zero_le _, rfl⟩
  case round =>
    obtain ⟨k, hk, rfl⟩ := hrel
    by_cases hlt : k < m
    · have hlt' : (k : Int) < (m : Int) := by omega
      obtain ⟨g, o, rfl, hg, hc⟩ := P2.out.at (by omega)
      have ck := hc k hlt
      rw [HP.out k hlt] at ck
      clear hc
      go_wp2_with fail
      go_round
      case rel => exact ⟨k + 1, by omega, by go_num⟩
      case measure => simp [intOf]; omega
    · have hge : (m : Int) ≤ (k : Int) := by omega
      go_wp2_with (first | (refine wpList_puts rfl w _ _ _ 148 9 3 rfl Try.underlying148 Try.underlying9 w.heap.size _ _ _ _ rfl rfl rfl (by assumption) (by kernel_rfl) ?_; intro W m1) | (refine wpList_looks rfl w _ _ 148 9 3 rfl Try.underlying148 Try.underlying9 w.heap.size _ _ _ rfl rfl (by assumption) _ (hz3 _) none (by kernel_rfl) ?_))
      go_wp2_with fail
      go_ret
      exact ⟨rfl, MapAt.bl (by assumption)⟩
set_option maxHeartbeats 2000000 in
theorem filSac (A : Option Addr) (n c : Nat) (l : List Int) (w : World) (h : Rd .u8 w A n c l) (hl : By l) (h4 : 4 ≤ n) (hV : chL l ≤ n) (hn : n ≤ 2147483647) (hb : All0 l)  :
    Calls Try.prog 44 #[.string ⟨#[115, 99, 116, 112, 115, 97, 99, 107]⟩, .slice A n c] w fun e w' => e = .returned (.bool true) ∧ Bl w w' := by
  have hcap := h.cap
  have e1 := chL_int l hl
  have s1 := run_cut A n c 2 4 2 4 rfl rfl (by omega) (by omega) 24 Try.underlying24 size5
  have s2 := run_cut_l A n c (chL l) (be (sub l 2 4)) e1 (by omega) 24 Try.underlying24 size5
  have R1 := Lib.hid (h.cutm 2 4 2 (by omega) (by omega))
  have HB := Lib.hid hl
  have b1 := be_bd2 (sub l 2 4) (hl.sub _ _) (by rw [sub_length _ _ _ (by have := h.len; omega)])
  have hlen := h.len
  have P2 := Lib.hid (h.cut (chL l) n hV (Nat.le_refl _))
  have HO := Lib.hid hb
  have E1 := Lib.hid e1
  have m0 := MapAt.new (Bl.refl w)
  have hz3 : ∀ W, (zeroValue 3).run Try.prog W = .ok (.int .i64 0) W := by intro W; kernel_rfl
  have mm := run_makeMap (P := Try.prog) 148 w
  clear h hl hb e1
  go_enter Try.func44, Try.ntmps44
  go_wp2_with fail
  (with_reducible refine (num_any _ _ _ _ _ R1.out (HB.out.sub 2 4) (by omega) (by omega)).mono ?_)
  rintro e w1 ⟨rfl, rfl⟩
  go_wp2_with fail
  have hp : ∀ j, j < n - chL l → (sub l (chL l) n).getD j 0 = 0 := fun j hj => by rw [sub_getD _ _ _ _ (by omega)]; exact HO.out _ (by omega) (by omega)
  have hm0 : n - chL l ≤ 2147483647 := by omega
  generalize n - chL l = m at *
  generalize cutA A c (chL l) = A2 at *
  generalize sub l (chL l) n = p at *
  have HP := Lib.hid hp
  clear hp s1 s2
  go_loop [21] (fun i => ∃ k : Nat, k ≤ m ∧ i = .int .i64 k) (fun i => m - (intOf i).toNat)
  case atStart => exact ⟨0, Nat.zero_le _, rfl⟩
  case round =>
    obtain ⟨k, hk, rfl⟩ := hrel
    by_cases hlt : k < m
    · have hlt' : (k : Int) < (m : Int) := by omega
      obtain ⟨g, o, rfl, hg, hc⟩ := P2.out.at (by omega)
      have ck := hc k hlt
      rw [HP.out k hlt] at ck
      clear hc
      go_wp2_with fail
      go_round
      case rel => exact ⟨k + 1, by omega, by go_num⟩
      case measure => simp [intOf]; omega
    · have hge : (m : Int) ≤ (k : Int) := by omega
      go_wp2_with (first | (refine wpList_puts rfl w _ _ _ 148 9 3 rfl Try.underlying148 Try.underlying9 w.heap.size _ _ _ _ rfl rfl rfl (by assumption) (by kernel_rfl) ?_; intro W m1) | (refine wpList_looks rfl w _ _ 148 9 3 rfl Try.underlying148 Try.underlying9 w.heap.size _ _ _ rfl rfl (by assumption) _ (hz3 _) none (by kernel_rfl) ?_))
      go_wp2_with fail
      go_ret
      exact ⟨rfl, MapAt.bl (by assumption)⟩
end Go.Proofs.Ytoljdgfbkebgcaa
