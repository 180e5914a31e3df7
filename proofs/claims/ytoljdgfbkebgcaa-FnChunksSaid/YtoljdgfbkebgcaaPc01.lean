/- Chunks that are made: their bytes, and what is read of them, in plain Lean. append(b, make([]byte, k)...) onto a row of bytes of the call's own: as one equation on the run, and as a step of a walk. -/
import Derived.Test.YtoljdgfbkebgcaaPq08
import Derived.Test.YtoljdgfbkebgcaaPq10
import Derived.Test.YtoljdgfbkebgcaaPq11
import Derived.Test.YtoljdgfbkebgcaaPq12
import Derived.Test.YtoljdgfbkebgcaaPq15
import Derived.Test.YtoljdgfbkebgcaaPq17
import Derived.Test.YtoljdgfbkebgcaaPq18
import Derived.Test.YtoljdgfbkebgcaaPq02
import Derived.Lib.AppendZerosOnto
import Derived.Lib.AppendStr
namespace Go.Proofs.Ytoljdgfbkebgcaa
open Go.RowKit
set_option linter.unusedVariables false
/-- A head of four bytes, what is told, and what fills it up. -/
def chB (k f : Int) (out : List Int) : List Int := [k, f, 0, ((4 + out.length : Nat) : Int)] ++ out ++ List.replicate ((4 - (4 + out.length) % 4) % 4) 0
theorem chB_len (k f : Int) (out : List Int) : (chB k f out).length = up4 (4 + out.length) := by
  unfold chB up4
  simp
  omega
theorem By.app {a b : List Int} (ha : By a) (hb : By b) : By (a ++ b) := fun x hx => (List.mem_append.1 hx).elim (ha x) (hb x)
theorem By.zeros (n : Nat) : By (List.replicate n 0) := fun x hx => by
  have := List.eq_of_mem_replicate hx
  omega
theorem chB_by (k f : Int) (out : List Int) (hk : 0 ≤ k ∧ k ≤ 255) (hf : 0 ≤ f ∧ f ≤ 255) (ho : By out) (hn : out.length ≤ 251) : By (chB k f out) := by
  refine By.app (By.app (fun x hx => ?_) ho) (By.zeros _)
  simp at hx
  rcases hx with rfl | rfl | rfl | rfl <;> omega
theorem sub_mid (a b c : List Int) (lo hi : Nat) (h1 : a.length = lo) (h2 : a.length + b.length = hi) : sub (a ++ b ++ c) lo hi = b := by
  unfold sub
  rw [List.take_left' (by simp; omega), ← h1, List.drop_left]
structure ChF (k f : Int) (out rest : List Int) : Prop where
  g0 : (chB k f out ++ rest).getD 0 0 = k
  g1 : (chB k f out ++ rest).getD 1 0 = f
  num : be (sub (chB k f out ++ rest) 2 4) = ((4 + out.length : Nat) : Int)
  len : chL (chB k f out ++ rest) = 4 + out.length
  body : sub (chB k f out ++ rest) 4 (4 + out.length) = out
  all : sub (chB k f out ++ rest) 0 (up4 (4 + out.length)) = chB k f out
  rest : sub (chB k f out ++ rest) (up4 (4 + out.length)) (chB k f out ++ rest).length = rest
theorem chB_at (k f : Int) (out rest : List Int) : ChF k f out rest := by
  have hnum : be (sub (chB k f out ++ rest) 2 4) = ((4 + out.length : Nat) : Int) := by
    have e : sub (chB k f out ++ rest) 2 4 = [0, ((4 + out.length : Nat) : Int)] := rfl
    rw [e]
    simp [be]
  refine ⟨rfl, rfl, hnum, ?_, ?_, ?_, ?_⟩
  · unfold chL
    rw [hnum]
    rfl
  · unfold chB
    rw [List.append_assoc]
    exact sub_mid _ _ _ _ _ rfl (by simp)
  · rw [sub_take]
    exact List.take_left' (chB_len _ _ _)
  · rw [sub_drop]
    exact List.drop_left' (chB_len _ _ _)
/-! ### Parameters -/
/-- Bytes that are whole parameters, whatever stands behind them. -/
def Ahead (o : List Int) : Prop := ∀ x, fullOf (o ++ x) = fullOf x
theorem Ahead.nil : Ahead [] := fun _ => rfl
theorem Ahead.app {o : List Int} (h : Ahead o) (k f : Int) (out : List Int) : Ahead (o ++ chB k f out) := by
  intro x
  have hf := chB_at k f out x
  have hl := chB_len k f out
  have h4 : 4 + out.length ≤ up4 (4 + out.length) := by unfold up4; omega
  rw [List.append_assoc, h, fullOf_cons _ (by simp; omega) (by rw [hf.len]; omega) (by rw [hf.len]; simp; omega), hf.len, List.drop_left' hl]
theorem Ahead.full {o : List Int} (h : Ahead o) : fullOf o = true := by
  have := h []
  rw [List.append_nil] at this
  rw [this]
  exact fullOf_nil [] rfl
/-! ### Chunks -/
/-- Bytes that are a chunk, whatever stands behind them. -/
structure ChOk (x : List Int) (P : Prt) : Prop where
  by_ : By x
  len : x.length ≤ 110
  pk : ∀ rest qs pay, By rest → Pkt rest qs pay → Pkt (x ++ rest) (P :: qs) pay
theorem chB_ok (k f : Int) (out : List Int) (hk0 : k ≠ 0) (hku : kindOf k ≠ kUnk) (hk : 0 ≤ k ∧ k ≤ 255) (hf : 0 ≤ f ∧ f ≤ 255) (ho : By out) (hn : out.length ≤ 104)
    (hdec : ∀ l, By l → l.getD 0 0 = k → chL l = 4 + out.length → up4 (chL l) ≤ l.length → sub l 4 (chL l) = out → l.length ≤ 2000 → DecAt l) : ChOk (chB k f out) ⟨[k, f, ((4 + out.length : Nat) : Int)], chB k f out⟩ := by
  have hl := chB_len k f out
  have h4 : 4 + out.length ≤ up4 (4 + out.length) := by unfold up4; omega
  have h5 : up4 (4 + out.length) ≤ 110 := by unfold up4; omega
  have hB := chB_by k f out hk hf ho (by omega)
  refine ⟨hB, by omega, fun rest qs pay hr hq => ?_⟩
  have F := chB_at k f out rest
  have hc : Chunk (chB k f out ++ rest) ⟨[k, f, ((4 + out.length : Nat) : Int)], [], [], []⟩ := by
    refine ⟨by rw [F.len]; omega, by rw [F.len]; simp; omega, ⟨[], by rw [F.g0, F.g1, F.num]⟩, fun h => absurd (F.g0.symm.trans h) hk0, fun h2 => ?_⟩
    exact hdec _ (hB.app hr) F.g0 F.len (by rw [F.len]; simp; omega) (by rw [F.len]; exact F.body) h2
  have e : chPrt (chB k f out ++ rest) = ⟨[k, f, ((4 + out.length : Nat) : Int)], chB k f out⟩ := by
    unfold chPrt
    rw [F.g0, F.g1, F.num, conOf, if_neg (by rw [F.g0]; exact hk0), F.len, F.all]
  have hp := Pkt.cons (qs := qs) (pay := pay) (by simp; omega) (by rw [F.g0]; exact hku) hc (by rw [F.g0]; exact hk0) (by rw [payOf, if_neg (by rw [F.g0]; exact hk0), F.len, F.rest]; exact hq)
  rw [e] at hp
  exact hp
theorem ok_cookie (f : Int) (out : List Int) (hf : 0 ≤ f ∧ f ≤ 255) (ho : By out) (hn : out.length ≤ 104) : ChOk (chB 10 f out) ⟨[10, f, ((4 + out.length : Nat) : Int)], chB 10 f out⟩ :=
  chB_ok 10 f out (by decide) (by simp [kindOf, kCoo, kUnk]) (by decide) hf ho hn fun l hl h0 hL hup _ h2 => decCoo_at l hl (by rw [h0]; rfl) (by omega) hup (by rw [h0]; decide) h2
theorem ok_shutdown (f : Int) (out : List Int) (hf : 0 ≤ f ∧ f ≤ 255) (ho : By out) (hn : out.length = 4) : ChOk (chB 7 f out) ⟨[7, f, ((4 + out.length : Nat) : Int)], chB 7 f out⟩ :=
  chB_ok 7 f out (by decide) (by simp [kindOf, kShu, kUnk]) (by decide) hf ho (by omega) fun l hl h0 hL hup _ h2 => decShu_at l hl (by rw [h0]; rfl) (by omega) hup (by rw [h0]; decide) h2 (by rw [hL, hn] at hup; simp [up4] at hup; omega)
theorem ok_heart (f : Int) (out : List Int) (hf : 0 ≤ f ∧ f ≤ 255) (ho : By out) (hn : out.length ≤ 104) (ha : Ahead out) : ChOk (chB 4 f out) ⟨[4, f, ((4 + out.length : Nat) : Int)], chB 4 f out⟩ :=
  chB_ok 4 f out (by decide) (by simp [kindOf, kHea, kUnk]) (by decide) hf ho hn fun l hl h0 hL hup hb h2 => decHea_at l hl (by rw [h0]; rfl) (by omega) hup (by rw [h0]; decide) h2 (by rw [hb]; exact ha.full)
theorem ok_error (f : Int) (out : List Int) (hf : 0 ≤ f ∧ f ≤ 255) (ho : By out) (hn : out.length ≤ 104) (ha : Ahead out) : ChOk (chB 9 f out) ⟨[9, f, ((4 + out.length : Nat) : Int)], chB 9 f out⟩ :=
  chB_ok 9 f out (by decide) (by simp [kindOf, kErr, kUnk]) (by decide) hf ho hn fun l hl h0 hL hup hb h2 => decErr_at l hl (by rw [h0]; rfl) (by omega) hup (by rw [h0]; decide) h2 (by rw [hb]; exact ha.full)
theorem ok_empty11 (f : Int) (hf : 0 ≤ f ∧ f ≤ 255) : ChOk (chB 11 f []) ⟨[11, f, 4], chB 11 f []⟩ :=
  chB_ok 11 f [] (by decide) (by simp [kindOf, kEmp, kUnk]) (by decide) hf By.nil (by decide) fun l hl h0 hL hup hb h2 => decEmp_at l hl (by rw [h0]; rfl) (by rw [hL]; decide) hup (by rw [h0]; decide) h2
theorem ok_empty14 (f : Int) (hf : 0 ≤ f ∧ f ≤ 255) : ChOk (chB 14 f []) ⟨[14, f, 4], chB 14 f []⟩ :=
  chB_ok 14 f [] (by decide) (by simp [kindOf, kEmp, kUnk]) (by decide) hf By.nil (by decide) fun l hl h0 hL hup hb h2 => decEmp_at l hl (by rw [h0]; rfl) (by rw [hL]; decide) hup (by rw [h0]; decide) h2
theorem ok_ack (f : Int) (hf : 0 ≤ f ∧ f ≤ 255) : ChOk (chB 8 f []) ⟨[8, f, 4], chB 8 f []⟩ :=
  chB_ok 8 f [] (by decide) (by simp [kindOf, kAck, kUnk]) (by decide) hf By.nil (by decide) fun l hl h0 hL hup hb h2 => decAck_at l hl (by rw [h0]; rfl) (by rw [hL]; decide) hup (by rw [h0]; decide) h2
/-! ### Chunks one behind the other -/
structure Chs (bs : List Int) (ps : List Prt) : Prop where
  by_ : By bs
  len : bs.length ≤ 110 * ps.length
  pk : ∀ rest qs pay, By rest → Pkt rest qs pay → Pkt (bs ++ rest) (ps ++ qs) pay
theorem Chs.nil : Chs [] [] := ⟨By.nil, by simp, fun _ _ _ _ h => h⟩
theorem Chs.app {bs x : List Int} {ps : List Prt} {P : Prt} (h : Chs bs ps) (hx : ChOk x P) : Chs (bs ++ x) (ps ++ [P]) := by
  have h1 := h.len
  have h2 := hx.len
  refine ⟨h.by_.app hx.by_, by simp; omega, fun rest qs pay hr hq => ?_⟩
  rw [List.append_assoc, List.append_assoc]
  exact h.pk _ _ _ (hx.by_.app hr) (hx.pk _ _ _ hr hq)
theorem Chs.all {bs : List Int} {ps : List Prt} (h : Chs bs ps) : Pkt bs ps [] := by
  have := h.pk [] [] [] By.nil (Pkt.nil [] rfl)
  rw [List.append_nil, List.append_nil] at this
  exact this
end Go.Proofs.Ytoljdgfbkebgcaa
namespace Go.Proofs.Ytoljdgfbkebgcaa
open Go Go.RowKit
/-- Zero bytes as cells. -/
def zCells (k : Nat) : List Value := List.replicate k (.int .u8 0)
theorem zeroCells_u8 (k : Nat) : Builtin.zeroCells (Value.int .u8 0).cells k = (zCells k).toArray := by
  apply Array.ext'
  apply List.ext_getElem?
  intro i
  simp only [Builtin.zeroCells, zCells, Value.cells]
  by_cases h : i < k
  · simp [h, Nat.mod_one]
  · simp [h]
theorem zCells_map (k : Nat) : zCells k = (List.replicate k (0 : Int)).map (Value.int .u8) := by simp [zCells]
section
variable {P : Program}
theorem run_append_room_zeros (w : World) (t tn ty e : TypeId) (i : TypeInfo) (kn : IntKind) (ht : P.underlying t = some (.slice e)) (htn : P.underlying tn = some (.int kn)) (hi : P.info? e = some i) (hz : i.zero = some (.int .u8 0)) (hs1 : i.size = 1) (hb1 : i.bytes = 1)
    (g sLen sCap k : Nat) (cur : Array Value) (hg : w.heap[g]? = some (.cells cur e (0, 0))) (hroom : sLen + k ≤ sCap) (hfit : sLen + k ≤ cur.size) (hk : k ≤ 140737488355328) :
    (Builtin.append_ #[t, tn] ty #[.slice (some ⟨g, 0, none⟩) sLen sCap, .int .i64 k]).run P w =
      .ok (.slice (some ⟨g, 0, none⟩) (sLen + k) sCap) (w.setRow g (cur.toList.take sLen ++ zCells k ++ cur.toList.drop (sLen + k)).toArray) := by
  have hst := run_storeCells_at P g sLen e (zCells k) 0 cur w hg (by simpa [zCells] using hfit) (by intro u hu; rw [List.eq_of_mem_replicate hu]; rfl)
  have hl : (zCells k).length = k := by simp [zCells]
  simp only [Nat.add_zero, hl] at hst
  have hw : IntKind.i64.wrap (k : Int) = k := by rw [IntKind.wrap_i64]; omega
  have hneg : ¬ ((k : Int) < 0) := by omega
  have h48i : ¬ (281474976710656 < (k : Int)) := by omega
  by_cases hk0 : k = 0
  · subst hk0
    have hw0 : IntKind.i64.wrap (0 : Int) = 0 := by rw [IntKind.wrap_i64]; omega
    have hroom' : sLen ≤ sCap := hroom
    simp [zCells] at hst
    simp [Builtin.append_, run_underlying ht, run_underlying htn, sizeOf, typeInfo, zeroValue, hi, hz, hs1, hb1, asInt, asIntOf, hw0, hroom', Addr.add_lit, zCells, hst]
  · simp [Builtin.append_, run_underlying ht, run_underlying htn, sizeOf, typeInfo, zeroValue, hi, hz, hs1, hb1, asInt, asIntOf, hw, hneg, h48i, hk0, hroom, Addr.add_lit, zeroCells_u8, hst]
theorem run_appz (W : World) (B : Nat) (t tn ty e : TypeId) (kn : IntKind) (ht : P.underlying t = some (.slice e)) (htn : P.underlying tn = some (.int kn)) (hinfo : (P.info? e).map (fun i => (i.zero, i.size, i.bytes)) = some (some (.int .u8 0), 1, 1))
    (v : Value) (n : Nat) (xs : List Value) (hown : W.ownsRow B e 1 v n xs) (k : Nat) (hb : n + k ≤ 140737488355328) (hB : B ≤ W.heap.size) :
    ∃ A1 c1 w1, (Builtin.append_ #[t, tn] ty #[v, .int .i64 k]).run P W = .ok (.slice A1 (n + k) c1) w1 ∧ Appd W B e 1 v (n + k) (xs ++ zCells k) A1 c1 w1 := by
  obtain ⟨i, hi, hzz⟩ := Option.map_eq_some_iff.1 hinfo
  simp only [Prod.mk.injEq] at hzz
  obtain ⟨hz, hs1, hb1⟩ := hzz
  have hxl : xs.length = n := by simpa using hown.1
  have hzl : (zCells k).length = k := by simp [zCells]
  have hlen : (xs ++ zCells k).length = (n + k) * 1 := by rw [List.length_append, hxl, hzl, Nat.mul_one]
  have grown : ∀ (old : Nat), old < n + k → ∀ (row : Option Nat),
      (W.drew.alloc (.cells (xs.toArray ++ Builtin.zeroCells (Value.int .u8 0).cells k ++ Builtin.zeroCells (Value.int .u8 0).cells (grownCap W (n + k) old e - (n + k))) e)).ownsRow B e 1
        (.slice (some ⟨W.heap.size, 0, none⟩) (n + k) (grownCap W (n + k) old e)) (n + k) (xs ++ zCells k) ∧
      W.grownBy (W.drew.alloc (.cells (xs.toArray ++ Builtin.zeroCells (Value.int .u8 0).cells k ++ Builtin.zeroCells (Value.int .u8 0).cells (grownCap W (n + k) old e - (n + k))) e)) row := by
    intro old ho row
    have hge := grownCap_ge W (n + k) old e
    have hcm : grownCap W (n + k) old e ≤ maxLen := grownCap_le_maxLen W (n + k) old e (by simp only [maxLen]; omega)
    refine ⟨⟨hlen, .inr ⟨W.heap.size, _, _, rfl, hB, heap_alloc_new W.drew _, hge, hcm, ?_, ?_⟩⟩, ⟨rfl, rfl, rfl, by simp, fun j hj _ => Below.heap_alloc W.drew _ j hj⟩⟩
    · have hz1 : (Value.int IntKind.u8 0).cells.size = 1 := rfl
      simp only [Array.size_append, List.size_toArray, size_zeroCells, hz1, hxl]
      omega
    · rw [zeroCells_u8 k]
      simp only [Array.toList_append, List.append_assoc]
      rw [← List.append_assoc, ← hlen]
      exact List.take_left
  rcases hown.2 with ⟨rfl, rfl⟩ | ⟨g, cap, cur, rfl, hbg, hg, hnc, hcm, hcs, htake⟩
  · have hx : xs = [] := List.eq_nil_of_length_eq_zero hxl
    subst hx
    by_cases hm : k = 0
    · subst hm
      refine ⟨none, 0, W, ?_, ⟨World.ownsRow_nil W B e 1, World.grownBy.refl W _, .inl rfl⟩⟩
      have hw : IntKind.i64.wrap (0 : Int) = 0 := by rw [IntKind.wrap_i64]; omega
      simp [Builtin.append_, run_underlying ht, run_underlying htn, sizeOf, typeInfo, hi, hb1, asInt, asIntOf, hw]
    · have hr := Lib.run_append_nil_zeros (P := P) W t tn ty e i (.int .u8 0) .i64 kn ht htn hi hz k (by omega) (by omega) (by omega) (by rw [hb1]; omega)
      have hgr := grown 0 (by omega) (Value.ownBlock (.slice none 0 0))
      simp only [Nat.zero_add, List.nil_append, Array.empty_append] at hgr ⊢
      exact ⟨_, _, _, hr, ⟨hgr.1, hgr.2, .inr rfl⟩⟩
  · by_cases hroom : n + k ≤ cap
    · have hcs' : cur.size = cap := by simpa using hcs
      have hr := run_append_room_zeros (P := P) W t tn ty e i kn ht htn hi hz hs1 hb1 g n cap k cur hg hroom (by omega) (by omega)
      refine ⟨_, _, _, hr, ⟨⟨hlen, .inr ⟨g, cap, _, rfl, hbg, setRow_heap W g cur _ e _ hg, hroom, hcm, ?_, ?_⟩⟩, ⟨rfl, rfl, rfl, by simp, fun j _ hk => setRow_other W g j _ (fun e => hk (by simp [Value.ownBlock, e]))⟩, .inl rfl⟩⟩
      · simp only [List.size_toArray, List.length_append, List.length_take, List.length_drop, Array.length_toList, hzl]
        omega
      · have ht' : cur.toList.take n = xs := by simpa using htake
        rw [ht', ← hlen]
        exact List.take_left
    · have holds : ∀ j u, xs[j]? = some u → W.cell? ((⟨g, 0, none⟩ : Addr).add j) = some u := hown.cells (g := g) rfl
      have hfo := run_firstCells_some (P := P) W.drew i.size n ⟨g, 0, none⟩ n cap xs (by rw [hs1]; simpa using hxl) (by simpa using holds)
      have hr := Lib.run_append_grow_zeros (P := P) W t tn ty e i (.int .u8 0) .i64 kn ht htn hi hz (some ⟨g, 0, none⟩) n cap xs hfo k (by omega) (by omega) (by omega) (by omega) (by rw [hb1]; omega) (by rw [hb1]; exact growslice_fits (by omega) (by omega))
      have hgr := grown cap (by omega) (Value.ownBlock (.slice (some ⟨g, 0, none⟩) n cap))
      exact ⟨_, _, _, hr, ⟨hgr.1, hgr.2, .inr rfl⟩⟩
variable {ops : Array Oper} {rest : List Oper} {o : Oper} {a : Act} {Q : Exit → Act → World → Prop} {W : World}
/-- In a region in the text's order (behind 'at_builtin'). -/
theorem wpList_appz (hgd : o.guard = none) (s x : Operand) (t tn e : TypeId) (kn : IntKind) (B : Nat)
    (ho : o.op = .call { callee := .builtin .append, args := #[s, x], argTypes := #[t, tn] })
    (ht : P.underlying t = some (.slice e)) (htn : P.underlying tn = some (.int kn)) (hinfo : (P.info? e).map (fun i => (i.zero, i.size, i.bytes)) = some (some (.int .u8 0), 1, 1))
    (v : Value) (n : Nat) (xs : List Value) (k : Nat) (hs : a.eval s = v) (hx : a.eval x = .int .i64 k)
    (hown : W.ownsRow B e 1 v n xs) (hb : n + k ≤ 140737488355328) (hB : B ≤ W.heap.size)
    (h : ∀ A1 c1 w1, Appd W B e 1 v (n + k) (xs ++ zCells k) A1 c1 w1 → wpList P ops Q rest (a.put o.dst (.slice A1 (n + k) c1)) w1) : wpList P ops Q (o :: rest) a W := by
  obtain ⟨A1, c1, w1, hr, hp⟩ := run_appz W B t tn o.type e kn ht htn hinfo v n xs hown k hb hB
  refine wpList_plain hgd fun K hK => ?_
  unfold Oper.wp execOp
  simp only [ho, resolve, invoke, builtin, Sem.run_bind, Sem.run_pure, Result.andThen_ok, List.map_toArray, List.map_cons, List.map_nil, hs, hx, hr]
  exact hK _ _ (h A1 c1 w1 hp)
end
end Go.Proofs.Ytoljdgfbkebgcaa
