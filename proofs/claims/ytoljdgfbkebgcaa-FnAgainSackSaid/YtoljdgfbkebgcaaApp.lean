/- append onto a row of the call's own, from whatever source: as one equation on the run, and as a step of a walk. -/
import Derived.Test.YtoljdgfbkebgcaaLay
import Derived.Maps.AppendAt
import Derived.Deep.RegionLaw
namespace Go.Proofs.Ytoljdgfbkebgcaa
open Go.RowKit

/-- The cells that are appended. -/
structure Src (W : World) (A : Option Addr) (m sz : Nat) (news : List Value) : Prop where
  len : news.length = m * sz
  nil : A = none → m = 0
  one : ∀ u ∈ news, u.oneCell' = true
  cell : ∀ ad, A = some ad → ∀ j u, news[j]? = some u → W.cell? (ad.add j) = some u

/-- What an append leaves. -/
structure Appd (W : World) (B : Nat) (e sz : Nat) (v : Value) (n : Nat) (ys : List Value) (A : Option Addr) (c : Nat) (w1 : World) : Prop where
  own : w1.ownsRow B e sz (.slice A n c) n ys
  grown : W.grownBy w1 v.ownBlock
  at_ : (Value.slice A n c).ownBlock = v.ownBlock ∨ (Value.slice A n c).ownBlock = some W.heap.size

theorem ownsRow_form {w : World} {B : Nat} {e sz n : Nat} {v : Value} {xs : List Value} (h : w.ownsRow B e sz v n xs) : ∃ A c, v = .slice A n c := by
  rcases h.2 with ⟨rfl, rfl⟩ | ⟨g, cap, cur, rfl, _⟩
  · exact ⟨_, _, rfl⟩
  · exact ⟨_, _, rfl⟩

section
variable {P : Program}
theorem run_app (W : World) (B : Nat) (t ty e : TypeId) (z : Value) (sz bytes : Nat) (ht : P.underlying t = some (.slice e)) (hinfo : (P.info? e).map (fun i => (i.zero, i.size, i.bytes)) = some (some z, sz, bytes))
    (hz : z.cells.size = sz) (hsz : 0 < sz) (v : Value) (n : Nat) (xs : List Value) (hown : W.ownsRow B e sz v n xs) (A : Option Addr) (m c : Nat) (news : List Value) (hs : Src W A m sz news)
    (hb : (n + m) * bytes ≤ 140737488355328) (hb0 : 0 < bytes) (hB : B ≤ W.heap.size) :
    ∃ A1 c1 w1, (Builtin.append_ #[t, t] ty #[v, .slice A m c]).run P W = .ok (.slice A1 (n + m) c1) w1 ∧ Appd W B e sz v (n + m) (xs ++ news) A1 c1 w1 := by
  obtain ⟨i, hi, hzz⟩ := Option.map_eq_some_iff.1 hinfo
  simp only [Prod.mk.injEq] at hzz
  obtain ⟨hz0, hz1, hz2⟩ := hzz
  have hlen : n + m ≤ 140737488355328 := Nat.le_trans (Nat.le_mul_of_pos_right _ hb0) hb
  cases A with
  | none =>
    have hm := hs.nil rfl
    subst hm
    have hnil : news = [] := List.eq_nil_of_length_eq_zero (by simpa using hs.len)
    subst hnil
    obtain ⟨A1, c1, hv⟩ := ownsRow_form hown
    subst hv
    refine ⟨A1, c1, W, ?_, ⟨by simpa using hown, World.grownBy.refl W _, .inl (by simp)⟩⟩
    rcases hown.2 with ⟨h1, hn⟩ | ⟨g, cap, cur, h1, _, _, hnc, _⟩
    · simp at h1
      obtain ⟨rfl, rfl, rfl⟩ := h1
      simp [Builtin.append_, run_underlying ht, sizeOf, typeInfo, hi, Builtin.lenOf, Builtin.firstCells]
    · simp at h1
      obtain ⟨rfl, rfl⟩ := h1
      simp [Builtin.append_, run_underlying ht, sizeOf, typeInfo, hi, Builtin.lenOf, Builtin.firstCells, hnc, storeCells]
  | some ad =>
    obtain ⟨v1, w1, hr, h2, h3, _, h5⟩ := run_append_own_at (P := P) W B t ty e i z sz bytes ht hi hz0 hz1 hz2 hz hsz v n xs hown ad m c news hs.len (hs.cell ad rfl) hs.one (by simp only [maxLen]; omega) hb hB
    obtain ⟨A1, c1, rfl⟩ := ownsRow_form h2
    exact ⟨A1, c1, w1, hr, ⟨h2, h3, h5⟩⟩

variable {ops : Array Oper} {rest : List Oper} {o : Oper} {a : Act} {Q : Exit → Act → World → Prop} {W : World}
/-- In a region in the text's order (behind 'at_builtin'). -/
theorem wpList_app (hgd : o.guard = none) (s x : Operand) (t e : TypeId) (z : Value) (sz bytes B : Nat)
    (ho : o.op = .call { callee := .builtin .append, args := #[s, x], argTypes := #[t, t] })
    (ht : P.underlying t = some (.slice e)) (hinfo : (P.info? e).map (fun i => (i.zero, i.size, i.bytes)) = some (some z, sz, bytes)) (hz : z.cells.size = sz) (hsz : 0 < sz) (hb0 : 0 < bytes)
    (v : Value) (n : Nat) (xs : List Value) (A : Option Addr) (m c : Nat) (news : List Value) (hs : a.eval s = v) (hx : a.eval x = .slice A m c)
    (hown : W.ownsRow B e sz v n xs) (hsrc : Src W A m sz news) (hb : (n + m) * bytes ≤ 140737488355328) (hB : B ≤ W.heap.size)
    (h : ∀ A1 c1 w1, Appd W B e sz v (n + m) (xs ++ news) A1 c1 w1 → wpList P ops Q rest (a.put o.dst (.slice A1 (n + m) c1)) w1) : wpList P ops Q (o :: rest) a W := by
  obtain ⟨A1, c1, w1, hr, hp⟩ := run_app W B t o.type e z sz bytes ht hinfo hz hsz v n xs hown A m c news hsrc hb hb0 hB
  refine wpList_plain hgd fun K hK => ?_
  unfold Oper.wp execOp
  simp only [ho, resolve, invoke, builtin, Sem.run_bind, Sem.run_pure, Result.andThen_ok, List.map_toArray, List.map_cons, List.map_nil, hs, hx, hr]
  exact hK _ _ (h A1 c1 w1 hp)
/-- In a region that draws its order. -/
theorem step_app {K : Act → World → Prop} {E : Prop} (hgd : o.guard = none) (s x : Operand) (t e : TypeId) (z : Value) (sz bytes B : Nat)
    (ho : o.op = .call { callee := .builtin .append, args := #[s, x], argTypes := #[t, t] })
    (ht : P.underlying t = some (.slice e)) (hinfo : (P.info? e).map (fun i => (i.zero, i.size, i.bytes)) = some (some z, sz, bytes)) (hz : z.cells.size = sz) (hsz : 0 < sz) (hb0 : 0 < bytes)
    (v : Value) (n : Nat) (xs : List Value) (A : Option Addr) (m c : Nat) (news : List Value) (hs : a.eval s = v) (hx : a.eval x = .slice A m c)
    (hown : W.ownsRow B e sz v n xs) (hsrc : Src W A m sz news) (hb : (n + m) * bytes ≤ 140737488355328) (hB : B ≤ W.heap.size)
    (h : ∀ A1 c1 w1, Appd W B e sz v (n + m) (xs ++ news) A1 c1 w1 → K (a.put o.dst (.slice A1 (n + m) c1)) w1) :
    if Region.wanted o (yielded ops a.tmps) = true then Oper.wp P o a W K Q else E := by
  have hw : Region.wanted o (yielded ops a.tmps) = true := by simp [Region.wanted, hgd]
  rw [if_pos hw]
  obtain ⟨A1, c1, w1, hr, hp⟩ := run_app W B t o.type e z sz bytes ht hinfo hz hsz v n xs hown A m c news hsrc hb hb0 hB
  unfold Oper.wp execOp
  simp only [ho, resolve, invoke, builtin, Sem.run_bind, Sem.run_pure, Result.andThen_ok, List.map_toArray, List.map_cons, List.map_nil, hs, hx, hr]
  exact h A1 c1 w1 hp
end

theorem Src.below {W w1 : World} {A : Option Addr} {m sz : Nat} {news : List Value} (h : Src W A m sz news) (hb : Bl W w1) : Src w1 A m sz news :=
  ⟨h.len, h.nil, h.one, fun ad hA j u hj => hb.keeps (h.cell ad hA j u hj)⟩
theorem Src.alloc {W : World} {A : Option Addr} {m sz : Nat} {news : List Value} (h : Src W A m sz news) (o : Obj) : Src (W.alloc o) A m sz news :=
  h.below ((Below.refl _ _).alloc (Nat.le_refl _) _)
/-- A store into a block of another type leaves a row of one's own as it is. -/
theorem own_set {w : World} {B e sz n g : Nat} {v : Value} {xs : List Value} {cs : Array Value} {T : TypeId} (h : w.ownsRow B e sz v n xs) (k : Blk w g cs T) (hT : e ≠ T) (i : Nat) (u : Value) : (w.setCell ⟨g, i, none⟩ u).ownsRow B e sz v n xs := by
  obtain ⟨h1, h2⟩ := h
  refine ⟨h1, ?_⟩
  rcases h2 with h2 | ⟨g', cap, cur, rfl, hg, hh, r⟩
  · exact .inl h2
  · refine .inr ⟨g', cap, cur, rfl, hg, ?_, r⟩
    have hne : g' ≠ g := by
      rintro rfl
      have := hh.symm.trans k.heap
      simp at this
      exact hT this.2
    rw [Below.heap_setCell w ⟨g, i, none⟩ u g' hne]
    exact hh
theorem own_same {w w' : World} {B e sz n : Nat} {v : Value} {xs : List Value} (h : w.ownsRow B e sz v n xs) (he : w'.heap = w.heap) : w'.ownsRow B e sz v n xs := by
  unfold World.ownsRow at *
  rw [he]
  exact h
/-- Sources. -/
theorem Rd.src {k : IntKind} {w : World} {A : Option Addr} {n c : Nat} {l : List Int} (h : Rd k w A n c l) : Src w A n 1 (l.map (Value.int k)) := by
  refine ⟨by simp [h.len], fun hA => ?_, fun u hu => by simp at hu; obtain ⟨x, _, rfl⟩ := hu; rfl, fun ad hA j u hj => ?_⟩
  · by_cases hn : 0 < n
    · obtain ⟨g, o, e, _⟩ := h.cell 0 hn
      rw [hA] at e
      simp at e
    · omega
  · have hj' : j < l.length := by
      rcases Nat.lt_or_ge j l.length with h' | h'
      · exact h'
      · simp [List.getElem?_eq_none h'] at hj
    obtain ⟨g, o, e, hc⟩ := h.cell j (by rw [← h.len]; exact hj')
    rw [hA] at e
    simp at e
    subst e
    rw [add_add, hc]
    simp [List.getElem?_eq_getElem hj'] at hj
    rw [← hj]
    simp [List.getD_eq_getElem?_getD, List.getElem?_eq_getElem hj']
theorem Blk.src {w : World} {g : Nat} {cs : Array Value} {T : TypeId} (h : Blk w g cs T) (m sz : Nat) (hl : cs.size = m * sz) (h1 : ∀ u ∈ cs.toList, u.oneCell' = true) : Src w (some ⟨g, 0, none⟩) m sz cs.toList :=
  ⟨by simpa using hl, fun e => by simp at e, h1, fun ad e j u hj => by
    simp at e
    subst e
    rw [add_add, Nat.zero_add, h.cell, ← hj]
    simp⟩
theorem Appd.below {W w1 w0 : World} {B e sz n c : Nat} {v : Value} {ys : List Value} {A : Option Addr} (h : Appd W B e sz v n ys A c w1) (hb : Below B w0 W) (hB : B ≤ W.heap.size) (hv : ∀ k, v.ownBlock = some k → B ≤ k) : Below B w0 w1 :=
  hb.grown h.grown hB hv
theorem own_ge {w : World} {B e sz n : Nat} {v : Value} {xs : List Value} (h : w.ownsRow B e sz v n xs) : ∀ k, v.ownBlock = some k → B ≤ k := fun k hk => (h.lt k hk).1
theorem Appd.bl {W w1 w0 : World} {e sz n n0 c : Nat} {v : Value} {xs ys : List Value} {A : Option Addr} (h : Appd W w0.heap.size e sz v n ys A c w1) (ho : W.ownsRow w0.heap.size e sz v n0 xs) (hb : Bl w0 W) : Bl w0 w1 :=
  h.below hb hb.size (own_ge ho)
theorem own_bl {w w1 : World} {B e sz n : Nat} {v : Value} {xs : List Value} (h : w.ownsRow B e sz v n xs) (hb : Bl w w1) : w1.ownsRow B e sz v n xs :=
  h.kept (row := none) ⟨hb.os, hb.tape, hb.output, hb.size, fun i hi _ => hb.block i hi⟩ (by cases hv : v.ownBlock <;> simp)
theorem own_inF {F : Nat → Prop} {w : World} {B e sz n m c : Nat} {A : Option Addr} {xs : List Value} (h : w.ownsRow B e sz (.slice A m c) n xs) (hF : ∀ k, B ≤ k → k < w.heap.size → F k) (q : Nat) : InF F A q := by
  intro _ x hx
  subst hx
  have := h.lt x.block rfl
  exact hF _ this.1 this.2
theorem own_bytV {F : Nat → Prop} {w : World} {B n : Nat} {v : Value} {l : List Int} (h : w.ownsRow B 5 1 v n (l.map (Value.int .u8))) (hl : By l) (hF : ∀ k, B ≤ k → k < w.heap.size → F k) : BytV F w v l := by
  obtain ⟨A, c, rfl, hr⟩ := own_rd h
  exact hr.bytV (own_inF h hF _) hl
theorem own_numV {F : Nat → Prop} {w : World} {B n : Nat} {v : Value} {l : List Int} (h : w.ownsRow B 26 1 v n (l.map (Value.int .u64))) (hF : ∀ k, B ≤ k → k < w.heap.size → F k) : NumV F w v l := by
  obtain ⟨A, c, rfl, hr⟩ := own_rd h
  have := hr.len
  subst this
  exact ⟨A, c, rfl, own_inF h hF _, hr⟩
/-- The tables' rows of the element types. -/
theorem info5 : (Try.prog.info? 5).map (fun i => (i.zero, i.size, i.bytes)) = some (some (.int .u8 0), 1, 1) := by kernel_rfl
theorem info26 : (Try.prog.info? 26).map (fun i => (i.zero, i.size, i.bytes)) = some (some (.int .u64 0), 1, 8) := by kernel_rfl
theorem info57 : (Try.prog.info? 57).map (fun i => (i.zero, i.size, i.bytes)) = some (some (.agg #[.slice none 0 0, .slice none 0 0]), 2, 48) := by kernel_rfl
theorem info24 : (Try.prog.info? 24).map (fun i => (i.zero, i.size, i.bytes)) = some (some (.slice none 0 0), 1, 24) := by kernel_rfl

/-- impl.clone: the same bytes in memory of their own. -/
theorem clone_any (A : Option Addr) (n c : Nat) (l : List Int) (w : World) (h : Rd .u8 w A n c l) (hn : n ≤ 2147483647) :
    Calls Try.prog 67 #[.slice A n c] w fun e w' => (∃ A1 c1, e = .returned (.slice A1 n c1) ∧ w'.ownsRow w.heap.size 5 1 (.slice A1 n c1) n (l.map (Value.int .u8))) ∧ Bl w w' := by
  have hs := Lib.hid h.src
  clear h
  go_enter Try.func67, Try.ntmps67
  go_wp2_with (at_builtin; refine wpList_app rfl _ _ 24 5 (.int .u8 0) 1 1 w.heap.size rfl Try.underlying24 info5 rfl (by decide) (by decide) (.slice none 0 0) 0 [] _ _ _ _ rfl rfl (World.ownsRow_nil _ _ _ _) hs.out (by omega) (Nat.le_refl _) ?_; intro A1 c1 w1 hp)
  go_ret
  exact ⟨⟨A1, c1, rfl, by simpa using hp.own⟩, hp.bl (World.ownsRow_nil _ _ _ _) (Bl.refl _)⟩
end Go.Proofs.Ytoljdgfbkebgcaa
