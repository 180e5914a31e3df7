/- append onto a row of the call's own, from whatever source: as one equation on the run, and as a step of a walk. bytes.Clone, bytes.Equal. ZZDecode, called, decoded, of the kind sctp. Which type an interface value bears: closed facts. (Printed by a program of this session.) impl.told at a header. spec.Number: the number in bytes. -/
import Derived.Test.YtoljdgfbkebgcaaPq01
import Derived.Maps.AppendAt
import Derived.Deep.RegionLaw
import Derived.WalkSpells
import Derived.Laws.BytesArg
namespace Go.Proofs.Ytoljdgfbkebgcaa
open Go.RowKit
set_option linter.unusedVariables false

/-- The cells that are appended. -/
structure Src (W : World) (A : Option Addr) (m sz : Nat) (news : List Value) : Prop where
  len : news.length = m * sz
  nil : A = none → m = 0
  one : ∀ u ∈ news, u.oneCell' = true
  cell : ∀ ad, A = some ad → ∀ j u, news[j]? = some u → W.cell? (ad.add j) = some u

/-- What an append leaves. -/
structure Appd (W : World) (B : Nat) (e sz : Nat) (v : Value) (n : Nat) (ys : List Value) (A : Option Addr) (c : Nat) (w1 : World) : Prop where
  own : w1.ownsRow B e sz (.slice A n c) n ys
  grown : W.grownBy w1 v.ownBlock
  at_ : (Value.slice A n c).ownBlock = v.ownBlock ∨ (Value.slice A n c).ownBlock = some W.heap.size

theorem ownsRow_form {w : World} {B : Nat} {e sz n : Nat} {v : Value} {xs : List Value} (h : w.ownsRow B e sz v n xs) : ∃ A c, v = .slice A n c := by
  rcases h.2 with ⟨rfl, rfl⟩ | ⟨g, cap, cur, rfl, _⟩
  · exact ⟨_, _, rfl⟩
  · exact ⟨_, _, rfl⟩

section
variable {P : Program}
theorem run_app (W : World) (B : Nat) (t ty e : TypeId) (z : Value) (sz bytes : Nat) (ht : P.underlying t = some (.slice e)) (hinfo : (P.info? e).map (fun i => (i.zero, i.size, i.bytes)) = some (some z, sz, bytes))
    (hz : z.cells.size = sz) (hsz : 0 < sz) (v : Value) (n : Nat) (xs : List Value) (hown : W.ownsRow B e sz v n xs) (A : Option Addr) (m c : Nat) (news : List Value) (hs : Src W A m sz news)
    (hb : (n + m) * bytes ≤ 140737488355328) (hb0 : 0 < bytes) (hB : B ≤ W.heap.size) :
    ∃ A1 c1 w1, (Builtin.append_ #[t, t] ty #[v, .slice A m c]).run P W = .ok (.slice A1 (n + m) c1) w1 ∧ Appd W B e sz v (n + m) (xs ++ news) A1 c1 w1 := by
  obtain ⟨i, hi, hzz⟩ := Option.map_eq_some_iff.1 hinfo
  simp only [Prod.mk.injEq] at hzz
  obtain ⟨hz0, hz1, hz2⟩ := hzz
  have hlen : n + m ≤ 140737488355328 := Nat.le_trans (Nat.le_mul_of_pos_right _ hb0) hb
  cases A with
  | none =>
    have hm := hs.nil rfl
    subst hm
    have hnil : news = [] := List.eq_nil_of_length_eq_zero (by simpa using hs.len)
    subst hnil
    obtain ⟨A1, c1, hv⟩ := ownsRow_form hown
    subst hv
    refine ⟨A1, c1, W, ?_, ⟨by simpa using hown, World.grownBy.refl W _, .inl (by simp)⟩⟩
    rcases hown.2 with ⟨h1, hn⟩ | ⟨g, cap, cur, h1, _, _, hnc, _⟩
    · simp at h1
      obtain ⟨rfl, rfl, rfl⟩ := h1
      simp [Builtin.append_, run_underlying ht, sizeOf, typeInfo, hi, Builtin.lenOf, Builtin.firstCells]
    · simp at h1
      obtain ⟨rfl, rfl⟩ := h1
      simp [Builtin.append_, run_underlying ht, sizeOf, typeInfo, hi, Builtin.lenOf, Builtin.firstCells, hnc, storeCells]
  | some ad =>
    obtain ⟨v1, w1, hr, h2, h3, _, h5⟩ := run_append_own_at (P := P) W B t ty e i z sz bytes ht hi hz0 hz1 hz2 hz hsz v n xs hown ad m c news hs.len (hs.cell ad rfl) hs.one (by simp only [maxLen]; omega) hb hB
    obtain ⟨A1, c1, rfl⟩ := ownsRow_form h2
    exact ⟨A1, c1, w1, hr, ⟨h2, h3, h5⟩⟩

variable {ops : Array Oper} {rest : List Oper} {o : Oper} {a : Act} {Q : Exit → Act → World → Prop} {W : World}
/-- In a region in the text's order (behind 'at_builtin'). -/
theorem wpList_app (hgd : o.guard = none) (s x : Operand) (t e : TypeId) (z : Value) (sz bytes B : Nat)
    (ho : o.op = .call { callee := .builtin .append, args := #[s, x], argTypes := #[t, t] })
    (ht : P.underlying t = some (.slice e)) (hinfo : (P.info? e).map (fun i => (i.zero, i.size, i.bytes)) = some (some z, sz, bytes)) (hz : z.cells.size = sz) (hsz : 0 < sz) (hb0 : 0 < bytes)
    (v : Value) (n : Nat) (xs : List Value) (A : Option Addr) (m c : Nat) (news : List Value) (hs : a.eval s = v) (hx : a.eval x = .slice A m c)
    (hown : W.ownsRow B e sz v n xs) (hsrc : Src W A m sz news) (hb : (n + m) * bytes ≤ 140737488355328) (hB : B ≤ W.heap.size)
    (h : ∀ A1 c1 w1, Appd W B e sz v (n + m) (xs ++ news) A1 c1 w1 → wpList P ops Q rest (a.put o.dst (.slice A1 (n + m) c1)) w1) : wpList P ops Q (o :: rest) a W := by
  obtain ⟨A1, c1, w1, hr, hp⟩ := run_app W B t o.type e z sz bytes ht hinfo hz hsz v n xs hown A m c news hsrc hb hb0 hB
  refine wpList_plain hgd fun K hK => ?_
  unfold Oper.wp execOp
  simp only [ho, resolve, invoke, builtin, Sem.run_bind, Sem.run_pure, Result.andThen_ok, List.map_toArray, List.map_cons, List.map_nil, hs, hx, hr]
  exact hK _ _ (h A1 c1 w1 hp)
/-- In a region that draws its order. -/
theorem step_app {K : Act → World → Prop} {E : Prop} (hgd : o.guard = none) (s x : Operand) (t e : TypeId) (z : Value) (sz bytes B : Nat)
    (ho : o.op = .call { callee := .builtin .append, args := #[s, x], argTypes := #[t, t] })
    (ht : P.underlying t = some (.slice e)) (hinfo : (P.info? e).map (fun i => (i.zero, i.size, i.bytes)) = some (some z, sz, bytes)) (hz : z.cells.size = sz) (hsz : 0 < sz) (hb0 : 0 < bytes)
    (v : Value) (n : Nat) (xs : List Value) (A : Option Addr) (m c : Nat) (news : List Value) (hs : a.eval s = v) (hx : a.eval x = .slice A m c)
    (hown : W.ownsRow B e sz v n xs) (hsrc : Src W A m sz news) (hb : (n + m) * bytes ≤ 140737488355328) (hB : B ≤ W.heap.size)
    (h : ∀ A1 c1 w1, Appd W B e sz v (n + m) (xs ++ news) A1 c1 w1 → K (a.put o.dst (.slice A1 (n + m) c1)) w1) :
    if Region.wanted o (yielded ops a.tmps) = true then Oper.wp P o a W K Q else E := by
  have hw : Region.wanted o (yielded ops a.tmps) = true := by simp [Region.wanted, hgd]
  rw [if_pos hw]
  obtain ⟨A1, c1, w1, hr, hp⟩ := run_app W B t o.type e z sz bytes ht hinfo hz hsz v n xs hown A m c news hsrc hb hb0 hB
  unfold Oper.wp execOp
  simp only [ho, resolve, invoke, builtin, Sem.run_bind, Sem.run_pure, Result.andThen_ok, List.map_toArray, List.map_cons, List.map_nil, hs, hx, hr]
  exact h A1 c1 w1 hp
end

theorem Src.below {W w1 : World} {A : Option Addr} {m sz : Nat} {news : List Value} (h : Src W A m sz news) (hb : Bl W w1) : Src w1 A m sz news :=
  ⟨h.len, h.nil, h.one, fun ad hA j u hj => hb.keeps (h.cell ad hA j u hj)⟩
theorem Src.alloc {W : World} {A : Option Addr} {m sz : Nat} {news : List Value} (h : Src W A m sz news) (o : Obj) : Src (W.alloc o) A m sz news :=
  h.below ((Below.refl _ _).alloc (Nat.le_refl _) _)
/-- A store into a block of another type leaves a row of one's own as it is. -/
theorem own_set {w : World} {B e sz n g : Nat} {v : Value} {xs : List Value} {cs : Array Value} {T : TypeId} (h : w.ownsRow B e sz v n xs) (k : Blk w g cs T) (hT : e ≠ T) (i : Nat) (u : Value) : (w.setCell ⟨g, i, none⟩ u).ownsRow B e sz v n xs := by
  obtain ⟨h1, h2⟩ := h
  refine ⟨h1, ?_⟩
  rcases h2 with h2 | ⟨g', cap, cur, rfl, hg, hh, r⟩
  · exact .inl h2
  · refine .inr ⟨g', cap, cur, rfl, hg, ?_, r⟩
    have hne : g' ≠ g := by
      rintro rfl
      have := hh.symm.trans k.heap
      simp at this
      exact hT this.2
    rw [Below.heap_setCell w ⟨g, i, none⟩ u g' hne]
    exact hh
theorem own_same {w w' : World} {B e sz n : Nat} {v : Value} {xs : List Value} (h : w.ownsRow B e sz v n xs) (he : w'.heap = w.heap) : w'.ownsRow B e sz v n xs := by
  unfold World.ownsRow at *
  rw [he]
  exact h
/-- Sources. -/
theorem Rd.src {k : IntKind} {w : World} {A : Option Addr} {n c : Nat} {l : List Int} (h : Rd k w A n c l) : Src w A n 1 (l.map (Value.int k)) := by
  refine ⟨by simp [h.len], fun hA => ?_, fun u hu => by simp at hu; obtain ⟨x, _, rfl⟩ := hu; rfl, fun ad hA j u hj => ?_⟩
  · by_cases hn : 0 < n
    · obtain ⟨g, o, e, _⟩ := h.cell 0 hn
      rw [hA] at e
      simp at e
    · omega
  · have hj' : j < l.length := by
      rcases Nat.lt_or_ge j l.length with h' | h'
      · exact h'
      · simp [List.getElem?_eq_none h'] at hj
    obtain ⟨g, o, e, hc⟩ := h.cell j (by rw [← h.len]; exact hj')
    rw [hA] at e
    simp at e
    subst e
    rw [add_add, hc]
    simp [List.getElem?_eq_getElem hj'] at hj
    rw [← hj]
    simp [List.getD_eq_getElem?_getD, List.getElem?_eq_getElem hj']
theorem Blk.src {w : World} {g : Nat} {cs : Array Value} {T : TypeId} (h : Blk w g cs T) (m sz : Nat) (hl : cs.size = m * sz) (h1 : ∀ u ∈ cs.toList, u.oneCell' = true) : Src w (some ⟨g, 0, none⟩) m sz cs.toList :=
  ⟨by simpa using hl, fun e => by simp at e, h1, fun ad e j u hj => by
    simp at e
    subst e
    rw [add_add, Nat.zero_add, h.cell, ← hj]
    simp⟩
theorem Appd.below {W w1 w0 : World} {B e sz n c : Nat} {v : Value} {ys : List Value} {A : Option Addr} (h : Appd W B e sz v n ys A c w1) (hb : Below B w0 W) (hB : B ≤ W.heap.size) (hv : ∀ k, v.ownBlock = some k → B ≤ k) : Below B w0 w1 :=
  hb.grown h.grown hB hv
theorem own_ge {w : World} {B e sz n : Nat} {v : Value} {xs : List Value} (h : w.ownsRow B e sz v n xs) : ∀ k, v.ownBlock = some k → B ≤ k := fun k hk => (h.lt k hk).1
theorem Appd.bl {W w1 w0 : World} {e sz n n0 c : Nat} {v : Value} {xs ys : List Value} {A : Option Addr} (h : Appd W w0.heap.size e sz v n ys A c w1) (ho : W.ownsRow w0.heap.size e sz v n0 xs) (hb : Bl w0 W) : Bl w0 w1 :=
  h.below hb hb.size (own_ge ho)
theorem own_bl {w w1 : World} {B e sz n : Nat} {v : Value} {xs : List Value} (h : w.ownsRow B e sz v n xs) (hb : Bl w w1) : w1.ownsRow B e sz v n xs :=
  h.kept (row := none) ⟨hb.os, hb.tape, hb.output, hb.size, fun i hi _ => hb.block i hi⟩ (by cases hv : v.ownBlock <;> simp)
theorem own_inF {F : Nat → Prop} {w : World} {B e sz n m c : Nat} {A : Option Addr} {xs : List Value} (h : w.ownsRow B e sz (.slice A m c) n xs) (hF : ∀ k, B ≤ k → k < w.heap.size → F k) (q : Nat) : InF F A q := by
  intro _ x hx
  subst hx
  have := h.lt x.block rfl
  exact hF _ this.1 this.2
theorem own_bytV {F : Nat → Prop} {w : World} {B n : Nat} {v : Value} {l : List Int} (h : w.ownsRow B 5 1 v n (l.map (Value.int .u8))) (hl : By l) (hF : ∀ k, B ≤ k → k < w.heap.size → F k) : BytV F w v l := by
  obtain ⟨A, c, rfl, hr⟩ := own_rd h
  exact hr.bytV (own_inF h hF _) hl
theorem own_numV {F : Nat → Prop} {w : World} {B n : Nat} {v : Value} {l : List Int} (h : w.ownsRow B 26 1 v n (l.map (Value.int .u64))) (hF : ∀ k, B ≤ k → k < w.heap.size → F k) : NumV F w v l := by
  obtain ⟨A, c, rfl, hr⟩ := own_rd h
  have := hr.len
  subst this
  exact ⟨A, c, rfl, own_inF h hF _, hr⟩
/-- The tables' rows of the element types. -/
theorem info5 : (Try.prog.info? 5).map (fun i => (i.zero, i.size, i.bytes)) = some (some (.int .u8 0), 1, 1) := by kernel_rfl
theorem info26 : (Try.prog.info? 26).map (fun i => (i.zero, i.size, i.bytes)) = some (some (.int .u64 0), 1, 8) := by kernel_rfl
theorem info57 : (Try.prog.info? 57).map (fun i => (i.zero, i.size, i.bytes)) = some (some (.agg #[.slice none 0 0, .slice none 0 0]), 2, 48) := by kernel_rfl
theorem info24 : (Try.prog.info? 24).map (fun i => (i.zero, i.size, i.bytes)) = some (some (.slice none 0 0), 1, 24) := by kernel_rfl

/-- impl.clone: the same bytes in memory of their own. -/
theorem clone_any (A : Option Addr) (n c : Nat) (l : List Int) (w : World) (h : Rd .u8 w A n c l) (hn : n ≤ 2147483647) :
    Calls Try.prog 67 #[.slice A n c] w fun e w' => (∃ A1 c1, e = .returned (.slice A1 n c1) ∧ w'.ownsRow w.heap.size 5 1 (.slice A1 n c1) n (l.map (Value.int .u8))) ∧ Bl w w' := by
  have hs := Lib.hid h.src
  clear h
  go_enter Try.func67, Try.ntmps67
  go_wp2_with (at_builtin; refine wpList_app rfl _ _ 24 5 (.int .u8 0) 1 1 w.heap.size rfl Try.underlying24 info5 rfl (by decide) (by decide) (.slice none 0 0) 0 [] _ _ _ _ rfl rfl (World.ownsRow_nil _ _ _ _) hs.out (by omega) (Nat.le_refl _) ?_; intro A1 c1 w1 hp)
  go_ret
  exact ⟨⟨A1, c1, rfl, by simpa using hp.own⟩, hp.bl (World.ownsRow_nil _ _ _ _) (Bl.refl _)⟩
end Go.Proofs.Ytoljdgfbkebgcaa
namespace Go.Proofs.Ytoljdgfbkebgcaa
open Go.RowKit
set_option linter.unusedVariables false

theorem bclone_nil (c : Nat) (w : World) :
    Calls Try.prog 42 #[.slice none 0 c] w fun e w' => e = .returned (.slice none 0 0) ∧ w = w' := by
  have hq := fun W : World => Lib.run_eql_slice_nil (P := Try.prog) W 24 5 none 0 c 0 0 Try.underlying24
  go_enter Try.func42, Try.ntmps42
  go_wp2
  go_ret
  exact ⟨rfl, rfl⟩
theorem bclone_some (ad : Addr) (n c : Nat) (l : List Int) (w : World) (h : Rd .u8 w (some ad) n c l) (hn : n ≤ 2147483647) :
    Calls Try.prog 42 #[.slice (some ad) n c] w fun e w' => (∃ A1 c1, e = .returned (.slice A1 n c1) ∧ Rd .u8 w' A1 n c1 l) ∧ Bl w w' := by
  have hq := fun W : World => Lib.run_eql_slice_nil (P := Try.prog) W 24 5 (some ad) n c 0 0 Try.underlying24
  have hs := h.src
  have HS := Lib.hid hs
  clear hs h
  go_enter Try.func42, Try.ntmps42
  go_wp2_with (at_builtin; refine wpList_app rfl _ _ 24 5 (.int .u8 0) 1 1 w.heap.size rfl Try.underlying24 info5 rfl (by decide) (by decide) (.slice (some ⟨w.heap.size, 0, none⟩) 0 0) 0 [] _ _ _ _ rfl rfl ?_ (Src.alloc HS.out _) (by omega) ?_ ?_; exact World.ownsRow_lit w #[] 0 (Nat.le_refl _) (by decide) rfl; simp; intro A1 c1 w1 hp)
  go_ret
  have ho : w1.ownsRow w.heap.size 5 1 (.slice A1 n c1) n (l.map (Value.int .u8)) := by simpa using hp.own
  obtain ⟨A2, c2, e, hr⟩ := own_rd ho
  simp only [Value.slice.injEq] at e
  obtain ⟨rfl, -, rfl⟩ := e
  exact ⟨⟨_, _, rfl, hr⟩, hp.bl (World.ownsRow_lit w #[] 0 (Nat.le_refl _) (by decide) rfl) (by go_grown)⟩
theorem bclone_any (A : Option Addr) (n c : Nat) (l : List Int) (w : World) (h : Rd .u8 w A n c l) (hn : n ≤ 2147483647) :
    Calls Try.prog 42 #[.slice A n c] w fun e w' => (∃ A1 c1, e = .returned (.slice A1 n c1) ∧ Rd .u8 w' A1 n c1 l) ∧ Bl w w' := by
  cases A with
  | none =>
    have h0 : n = 0 := by
      rcases Nat.eq_zero_or_pos n with h0 | h0
      · exact h0
      · obtain ⟨g, o, e, _⟩ := h.cell 0 h0
        simp at e
    subst h0
    have hl : l = [] := List.eq_nil_of_length_eq_zero h.len
    subst hl
    exact (bclone_nil c w).mono fun e w' ⟨he, hw⟩ => ⟨⟨none, 0, he, Rd.nil _ _ _ _⟩, Bl.of_same hw⟩
  | some ad => exact bclone_some ad n c l w h hn

/-- bytes.Equal of the same bytes. -/
theorem run_conv (w : World) (A : Option Addr) (n c : Nat) (l : List Int) (h : Rd .u8 w A n c l) : (convert 24 9 (.slice A n c)).run Try.prog w = .ok (.string (strOfNums l)) w := by
  by_cases hn : 0 < n
  · obtain ⟨g, o, rfl, _, hc⟩ := h.at hn
    exact run_convert_bytes_arg w 24 5 Try.underlying24 Try.underlying5 g o n c l h.len hc 9 Try.underlying9
  · obtain rfl : n = 0 := by omega
    have hl : l = [] := List.eq_nil_of_length_eq_zero h.len
    subst hl
    cases A with
    | none => 
      rw [run_convert_bytes_nil w 24 5 Try.underlying24 Try.underlying5 0 c 9 Try.underlying9]
      rfl
    | some ad =>
      rw [run_convert_bytes_string w 24 9 5 _ 0 c Try.underlying24 Try.underlying5 Try.underlying9, run_bytesToString w ad 0 c [] (by simp [loadCells, loadCellsFrom])]
      rfl
theorem bequal_any (A1 A2 : Option Addr) (n1 c1 n2 c2 : Nat) (l : List Int) (w : World) (h1 : Rd .u8 w A1 n1 c1 l) (h2 : Rd .u8 w A2 n2 c2 l) :
    Calls Try.prog 29 #[.slice A1 n1 c1, .slice A2 n2 c2] w fun e w' => e = .returned (.bool true) ∧ w = w' := by
  have e1 := run_conv w A1 n1 c1 l h1
  have e2 := run_conv w A2 n2 c2 l h2
  clear h1 h2
  go_enter Try.func29, Try.ntmps29
  go_wp2
  go_ret
  exact ⟨by simp, rfl⟩
end Go.Proofs.Ytoljdgfbkebgcaa
namespace Go.Proofs.Ytoljdgfbkebgcaa
open Go.RowKit
set_option linter.unusedVariables false
/-- What ZZDecode leaves: the layer's block. -/
structure Obj1 (w w' : World) (gl : Nat) (E : TypeId) (cs : Array Value) : Prop where
  bl : Bl w w'
  layer : Blk w' gl cs E

set_option maxHeartbeats 1000000 in
theorem zzSctp_any (A : Option Addr) (n c : Nat) (l : List Int) (w : World) (h : Rd .u8 w A n c l) (hl : By l) (hn : 12 ≤ n) :
    Calls Try.prog 69 #[.string ⟨#[115, 99, 116, 112]⟩, .slice A n c] w fun e w' =>
      ∃ gl, e = .returned (.tuple #[.iface 90 (.pointer (some ⟨gl, 0, none⟩)), .nilIface]) ∧
        Obj1 w w' gl 95 #[.slice A 12 c, .slice (cutA A c 12) (n - 12) (c - 12), .int .u16 (be (sub l 0 2)), .int .u16 (be (sub l 2 4)), .int .u32 (be (sub l 4 8)), .int .u32 (be (sub l 8 12))] := by
  have HA : ∀ x, A = some x → x.block < w.heap.size := by
    intro x hx
    obtain ⟨g, o, e, hc⟩ := h.cell 0 (by omega)
    rw [hx] at e
    simp at e
    subst e
    exact World.block_lt_of_cell? w _ hc
  have H := Lib.hid h
  have HB := Lib.hid hl
  have HA' := Lib.hid HA
  clear h hl HA
  go_enter Try.func69, Try.ntmps69
  go_wp2_with fail
  (with_reducible refine (errNew_any _ _).mono ?_)
  rintro e w1 ⟨rfl, hb1⟩
  have k1 := Blk.keep hb1 (Blk.new w _ _)
  have hz : w.heap.size < w1.heap.size := k1.lt
  go_wp2_with fail
  (with_reducible refine (decSctp_any _ _ _ _ _ _ (H.out.below (Bl.trans (by go_grown) hb1)) HB.out hn HA'.out _ k1).mono ?_)
  rintro e w2 ⟨rfl, gl, kp⟩
  have c2 := kp.keeper.cell
  go_wp2_with fail
  go_ret2
  exact ⟨gl, rfl, Below.trans (Bl.trans (by go_grown) hb1) kp.low, kp.layer⟩
theorem zzSctp_short (A : Option Addr) (n c : Nat) (w : World) (hn : n < 12) :
    Calls Try.prog 69 #[.string ⟨#[115, 99, 116, 112]⟩, .slice A n c] w fun e w' => (∃ u, e = .returned (.tuple #[.nilIface, .iface 167 u])) ∧ Bl w w' := by
  go_enter Try.func69, Try.ntmps69
  go_wp2_with fail
  (with_reducible refine (errNew_any _ _).mono ?_)
  rintro e w1 ⟨rfl, hb1⟩
  have k1 := Blk.keep hb1 (Blk.new w _ _)
  have hz : w.heap.size < w1.heap.size := k1.lt
  go_wp2_with fail
  (with_reducible refine (decSctp_short _ _ _ _ _ hn _ k1).mono ?_)
  rintro e w2 ⟨⟨u, rfl⟩, hb2⟩
  go_wp2_with fail
  go_ret2
  exact ⟨⟨_, rfl⟩, Below.trans (Bl.trans (by go_grown) hb1) hb2⟩
theorem calledSctp_any (v : Value) (w : World) :
    Calls Try.prog 68 #[.string ⟨#[115, 99, 116, 112]⟩, v] w fun e w' => e = .returned (.bool true) ∧ w = w' := by
  go_enter Try.func68, Try.ntmps68
  go_wp2
  go_ret
  exact ⟨rfl, rfl⟩
/-- A header's object. -/
def sctpCells (A : Option Addr) (n c : Nat) (l : List Int) : Array Value :=
  #[.slice A 12 c, .slice (cutA A c 12) (n - 12) (c - 12), .int .u16 (be (sub l 0 2)), .int .u16 (be (sub l 2 4)), .int .u32 (be (sub l 4 8)), .int .u32 (be (sub l 8 12))]
theorem decodedSctp_any (A : Option Addr) (n c : Nat) (l : List Int) (w : World) (h : Rd .u8 w A n c l) (hl : By l) (hn : 12 ≤ n) (hn2 : n ≤ 2000) :
    Calls Try.prog 48 #[.string ⟨#[115, 99, 116, 112]⟩, .slice A n c] w fun e w' =>
      ∃ A1 c1 gl, e = .returned (.tuple #[.iface 90 (.pointer (some ⟨gl, 0, none⟩)), .bool true]) ∧ Obj1 w w' gl 95 (sctpCells A1 n c1 l) ∧ Rd .u8 w' A1 n c1 l := by
  have H := Lib.hid h
  have HB := Lib.hid hl
  clear h hl
  go_enter Try.func48, Try.ntmps48
  go_wp2_with fail
  (with_reducible refine (calledSctp_any _ _).mono ?_)
  rintro e w1 ⟨rfl, rfl⟩
  go_wp2_with fail
  (with_reducible refine (bclone_any _ _ _ _ _ H.out (by omega)).mono ?_)
  rintro e w1 ⟨⟨A1, c1, rfl, r1⟩, hb1⟩
  have R1 := Lib.hid r1
  clear r1
  go_wp2_with fail
  (with_reducible refine (zzSctp_any _ _ _ _ _ R1.out HB.out hn).mono ?_)
  rintro e w2 ⟨gl, rfl, ho⟩
  have O := Lib.hid ho
  clear ho
  go_wp2_with fail
  go_quiet (fail)
  go_wp2_with fail
  go_ret2
  exact ⟨A1, c1, gl, rfl, ⟨(hb1.trans O.out.bl).drewN _, O.out.layer.same rfl⟩, (R1.out.below O.out.bl).below ((Bl.refl _).drewN _)⟩
theorem decodedSctp_short (A : Option Addr) (n c : Nat) (l : List Int) (w : World) (h : Rd .u8 w A n c l) (hn : n < 12) :
    Calls Try.prog 48 #[.string ⟨#[115, 99, 116, 112]⟩, .slice A n c] w fun e w' => e = .returned (.tuple #[.nilIface, .bool false]) ∧ Bl w w' := by
  have H := Lib.hid h
  clear h
  go_enter Try.func48, Try.ntmps48
  go_wp2_with fail
  (with_reducible refine (calledSctp_any _ _).mono ?_)
  rintro e w1 ⟨rfl, rfl⟩
  go_wp2_with fail
  (with_reducible refine (bclone_any _ _ _ _ _ H.out (by omega)).mono ?_)
  rintro e w1 ⟨⟨A1, c1, rfl, r1⟩, hb1⟩
  clear r1
  go_wp2_with fail
  (with_reducible refine (zzSctp_short _ _ _ _ hn).mono ?_)
  rintro e w2 ⟨⟨u, rfl⟩, hb2⟩
  go_wp2_with fail
  go_quiet (fail)
  go_wp2_with fail
  go_ret2
  exact ⟨rfl, (hb1.trans hb2).drewN _⟩
end Go.Proofs.Ytoljdgfbkebgcaa
namespace Go.Proofs.Ytoljdgfbkebgcaa
open Go.RowKit
set_option linter.unusedVariables false
theorem ta_90 (p : Option Addr) (w : World) : (Instr.typeAssert (.iface 90 (.pointer p)) 20 90 true).run Try.prog w = .ok (.tuple #[.pointer p, .bool true]) w := by kernel_rfl
theorem ta_97 (p : Option Addr) (w : World) : (Instr.typeAssert (.iface 97 (.pointer p)) 20 97 true).run Try.prog w = .ok (.tuple #[.pointer p, .bool true]) w := by kernel_rfl
theorem ta_97_90 (p : Option Addr) (w : World) : (Instr.typeAssert (.iface 97 (.pointer p)) 20 90 true).run Try.prog w = .ok (.tuple #[.pointer none, .bool false]) w := by kernel_rfl
theorem ta_105 (p : Option Addr) (w : World) : (Instr.typeAssert (.iface 105 (.pointer p)) 20 105 true).run Try.prog w = .ok (.tuple #[.pointer p, .bool true]) w := by kernel_rfl
theorem ta_105_90 (p : Option Addr) (w : World) : (Instr.typeAssert (.iface 105 (.pointer p)) 20 90 true).run Try.prog w = .ok (.tuple #[.pointer none, .bool false]) w := by kernel_rfl
theorem ta_105_97 (p : Option Addr) (w : World) : (Instr.typeAssert (.iface 105 (.pointer p)) 20 97 true).run Try.prog w = .ok (.tuple #[.pointer none, .bool false]) w := by kernel_rfl
theorem ta_115 (p : Option Addr) (w : World) : (Instr.typeAssert (.iface 115 (.pointer p)) 20 115 true).run Try.prog w = .ok (.tuple #[.pointer p, .bool true]) w := by kernel_rfl
theorem ta_115_90 (p : Option Addr) (w : World) : (Instr.typeAssert (.iface 115 (.pointer p)) 20 90 true).run Try.prog w = .ok (.tuple #[.pointer none, .bool false]) w := by kernel_rfl
theorem ta_115_97 (p : Option Addr) (w : World) : (Instr.typeAssert (.iface 115 (.pointer p)) 20 97 true).run Try.prog w = .ok (.tuple #[.pointer none, .bool false]) w := by kernel_rfl
theorem ta_115_105 (p : Option Addr) (w : World) : (Instr.typeAssert (.iface 115 (.pointer p)) 20 105 true).run Try.prog w = .ok (.tuple #[.pointer none, .bool false]) w := by kernel_rfl
theorem ta_120 (p : Option Addr) (w : World) : (Instr.typeAssert (.iface 120 (.pointer p)) 20 120 true).run Try.prog w = .ok (.tuple #[.pointer p, .bool true]) w := by kernel_rfl
theorem ta_120_90 (p : Option Addr) (w : World) : (Instr.typeAssert (.iface 120 (.pointer p)) 20 90 true).run Try.prog w = .ok (.tuple #[.pointer none, .bool false]) w := by kernel_rfl
theorem ta_120_97 (p : Option Addr) (w : World) : (Instr.typeAssert (.iface 120 (.pointer p)) 20 97 true).run Try.prog w = .ok (.tuple #[.pointer none, .bool false]) w := by kernel_rfl
theorem ta_120_105 (p : Option Addr) (w : World) : (Instr.typeAssert (.iface 120 (.pointer p)) 20 105 true).run Try.prog w = .ok (.tuple #[.pointer none, .bool false]) w := by kernel_rfl
theorem ta_120_115 (p : Option Addr) (w : World) : (Instr.typeAssert (.iface 120 (.pointer p)) 20 115 true).run Try.prog w = .ok (.tuple #[.pointer none, .bool false]) w := by kernel_rfl
theorem ta_125 (p : Option Addr) (w : World) : (Instr.typeAssert (.iface 125 (.pointer p)) 20 125 true).run Try.prog w = .ok (.tuple #[.pointer p, .bool true]) w := by kernel_rfl
theorem ta_125_90 (p : Option Addr) (w : World) : (Instr.typeAssert (.iface 125 (.pointer p)) 20 90 true).run Try.prog w = .ok (.tuple #[.pointer none, .bool false]) w := by kernel_rfl
theorem ta_125_97 (p : Option Addr) (w : World) : (Instr.typeAssert (.iface 125 (.pointer p)) 20 97 true).run Try.prog w = .ok (.tuple #[.pointer none, .bool false]) w := by kernel_rfl
theorem ta_125_105 (p : Option Addr) (w : World) : (Instr.typeAssert (.iface 125 (.pointer p)) 20 105 true).run Try.prog w = .ok (.tuple #[.pointer none, .bool false]) w := by kernel_rfl
theorem ta_125_115 (p : Option Addr) (w : World) : (Instr.typeAssert (.iface 125 (.pointer p)) 20 115 true).run Try.prog w = .ok (.tuple #[.pointer none, .bool false]) w := by kernel_rfl
theorem ta_125_120 (p : Option Addr) (w : World) : (Instr.typeAssert (.iface 125 (.pointer p)) 20 120 true).run Try.prog w = .ok (.tuple #[.pointer none, .bool false]) w := by kernel_rfl
theorem ta_130 (p : Option Addr) (w : World) : (Instr.typeAssert (.iface 130 (.pointer p)) 20 130 true).run Try.prog w = .ok (.tuple #[.pointer p, .bool true]) w := by kernel_rfl
theorem ta_130_90 (p : Option Addr) (w : World) : (Instr.typeAssert (.iface 130 (.pointer p)) 20 90 true).run Try.prog w = .ok (.tuple #[.pointer none, .bool false]) w := by kernel_rfl
theorem ta_130_97 (p : Option Addr) (w : World) : (Instr.typeAssert (.iface 130 (.pointer p)) 20 97 true).run Try.prog w = .ok (.tuple #[.pointer none, .bool false]) w := by kernel_rfl
theorem ta_130_105 (p : Option Addr) (w : World) : (Instr.typeAssert (.iface 130 (.pointer p)) 20 105 true).run Try.prog w = .ok (.tuple #[.pointer none, .bool false]) w := by kernel_rfl
theorem ta_130_115 (p : Option Addr) (w : World) : (Instr.typeAssert (.iface 130 (.pointer p)) 20 115 true).run Try.prog w = .ok (.tuple #[.pointer none, .bool false]) w := by kernel_rfl
theorem ta_130_120 (p : Option Addr) (w : World) : (Instr.typeAssert (.iface 130 (.pointer p)) 20 120 true).run Try.prog w = .ok (.tuple #[.pointer none, .bool false]) w := by kernel_rfl
theorem ta_130_125 (p : Option Addr) (w : World) : (Instr.typeAssert (.iface 130 (.pointer p)) 20 125 true).run Try.prog w = .ok (.tuple #[.pointer none, .bool false]) w := by kernel_rfl
theorem ta_133 (p : Option Addr) (w : World) : (Instr.typeAssert (.iface 133 (.pointer p)) 20 133 true).run Try.prog w = .ok (.tuple #[.pointer p, .bool true]) w := by kernel_rfl
theorem ta_133_90 (p : Option Addr) (w : World) : (Instr.typeAssert (.iface 133 (.pointer p)) 20 90 true).run Try.prog w = .ok (.tuple #[.pointer none, .bool false]) w := by kernel_rfl
theorem ta_133_97 (p : Option Addr) (w : World) : (Instr.typeAssert (.iface 133 (.pointer p)) 20 97 true).run Try.prog w = .ok (.tuple #[.pointer none, .bool false]) w := by kernel_rfl
theorem ta_133_105 (p : Option Addr) (w : World) : (Instr.typeAssert (.iface 133 (.pointer p)) 20 105 true).run Try.prog w = .ok (.tuple #[.pointer none, .bool false]) w := by kernel_rfl
theorem ta_133_115 (p : Option Addr) (w : World) : (Instr.typeAssert (.iface 133 (.pointer p)) 20 115 true).run Try.prog w = .ok (.tuple #[.pointer none, .bool false]) w := by kernel_rfl
theorem ta_133_120 (p : Option Addr) (w : World) : (Instr.typeAssert (.iface 133 (.pointer p)) 20 120 true).run Try.prog w = .ok (.tuple #[.pointer none, .bool false]) w := by kernel_rfl
theorem ta_133_125 (p : Option Addr) (w : World) : (Instr.typeAssert (.iface 133 (.pointer p)) 20 125 true).run Try.prog w = .ok (.tuple #[.pointer none, .bool false]) w := by kernel_rfl
theorem ta_133_130 (p : Option Addr) (w : World) : (Instr.typeAssert (.iface 133 (.pointer p)) 20 130 true).run Try.prog w = .ok (.tuple #[.pointer none, .bool false]) w := by kernel_rfl
theorem ta_136 (p : Option Addr) (w : World) : (Instr.typeAssert (.iface 136 (.pointer p)) 20 136 true).run Try.prog w = .ok (.tuple #[.pointer p, .bool true]) w := by kernel_rfl
theorem ta_136_90 (p : Option Addr) (w : World) : (Instr.typeAssert (.iface 136 (.pointer p)) 20 90 true).run Try.prog w = .ok (.tuple #[.pointer none, .bool false]) w := by kernel_rfl
theorem ta_136_97 (p : Option Addr) (w : World) : (Instr.typeAssert (.iface 136 (.pointer p)) 20 97 true).run Try.prog w = .ok (.tuple #[.pointer none, .bool false]) w := by kernel_rfl
theorem ta_136_105 (p : Option Addr) (w : World) : (Instr.typeAssert (.iface 136 (.pointer p)) 20 105 true).run Try.prog w = .ok (.tuple #[.pointer none, .bool false]) w := by kernel_rfl
theorem ta_136_115 (p : Option Addr) (w : World) : (Instr.typeAssert (.iface 136 (.pointer p)) 20 115 true).run Try.prog w = .ok (.tuple #[.pointer none, .bool false]) w := by kernel_rfl
theorem ta_136_120 (p : Option Addr) (w : World) : (Instr.typeAssert (.iface 136 (.pointer p)) 20 120 true).run Try.prog w = .ok (.tuple #[.pointer none, .bool false]) w := by kernel_rfl
theorem ta_136_125 (p : Option Addr) (w : World) : (Instr.typeAssert (.iface 136 (.pointer p)) 20 125 true).run Try.prog w = .ok (.tuple #[.pointer none, .bool false]) w := by kernel_rfl
theorem ta_136_130 (p : Option Addr) (w : World) : (Instr.typeAssert (.iface 136 (.pointer p)) 20 130 true).run Try.prog w = .ok (.tuple #[.pointer none, .bool false]) w := by kernel_rfl
theorem ta_136_133 (p : Option Addr) (w : World) : (Instr.typeAssert (.iface 136 (.pointer p)) 20 133 true).run Try.prog w = .ok (.tuple #[.pointer none, .bool false]) w := by kernel_rfl
theorem ta_139 (p : Option Addr) (w : World) : (Instr.typeAssert (.iface 139 (.pointer p)) 20 139 true).run Try.prog w = .ok (.tuple #[.pointer p, .bool true]) w := by kernel_rfl
theorem ta_139_90 (p : Option Addr) (w : World) : (Instr.typeAssert (.iface 139 (.pointer p)) 20 90 true).run Try.prog w = .ok (.tuple #[.pointer none, .bool false]) w := by kernel_rfl
theorem ta_139_97 (p : Option Addr) (w : World) : (Instr.typeAssert (.iface 139 (.pointer p)) 20 97 true).run Try.prog w = .ok (.tuple #[.pointer none, .bool false]) w := by kernel_rfl
theorem ta_139_105 (p : Option Addr) (w : World) : (Instr.typeAssert (.iface 139 (.pointer p)) 20 105 true).run Try.prog w = .ok (.tuple #[.pointer none, .bool false]) w := by kernel_rfl
theorem ta_139_115 (p : Option Addr) (w : World) : (Instr.typeAssert (.iface 139 (.pointer p)) 20 115 true).run Try.prog w = .ok (.tuple #[.pointer none, .bool false]) w := by kernel_rfl
theorem ta_139_120 (p : Option Addr) (w : World) : (Instr.typeAssert (.iface 139 (.pointer p)) 20 120 true).run Try.prog w = .ok (.tuple #[.pointer none, .bool false]) w := by kernel_rfl
theorem ta_139_125 (p : Option Addr) (w : World) : (Instr.typeAssert (.iface 139 (.pointer p)) 20 125 true).run Try.prog w = .ok (.tuple #[.pointer none, .bool false]) w := by kernel_rfl
theorem ta_139_130 (p : Option Addr) (w : World) : (Instr.typeAssert (.iface 139 (.pointer p)) 20 130 true).run Try.prog w = .ok (.tuple #[.pointer none, .bool false]) w := by kernel_rfl
theorem ta_139_133 (p : Option Addr) (w : World) : (Instr.typeAssert (.iface 139 (.pointer p)) 20 133 true).run Try.prog w = .ok (.tuple #[.pointer none, .bool false]) w := by kernel_rfl
theorem ta_139_136 (p : Option Addr) (w : World) : (Instr.typeAssert (.iface 139 (.pointer p)) 20 136 true).run Try.prog w = .ok (.tuple #[.pointer none, .bool false]) w := by kernel_rfl
theorem ta_159 (p : Option Addr) (w : World) : (Instr.typeAssert (.iface 159 (.pointer p)) 20 159 true).run Try.prog w = .ok (.tuple #[.pointer p, .bool true]) w := by kernel_rfl
theorem ta_159_90 (p : Option Addr) (w : World) : (Instr.typeAssert (.iface 159 (.pointer p)) 20 90 true).run Try.prog w = .ok (.tuple #[.pointer none, .bool false]) w := by kernel_rfl
theorem ta_159_97 (p : Option Addr) (w : World) : (Instr.typeAssert (.iface 159 (.pointer p)) 20 97 true).run Try.prog w = .ok (.tuple #[.pointer none, .bool false]) w := by kernel_rfl
theorem ta_159_105 (p : Option Addr) (w : World) : (Instr.typeAssert (.iface 159 (.pointer p)) 20 105 true).run Try.prog w = .ok (.tuple #[.pointer none, .bool false]) w := by kernel_rfl
theorem ta_159_115 (p : Option Addr) (w : World) : (Instr.typeAssert (.iface 159 (.pointer p)) 20 115 true).run Try.prog w = .ok (.tuple #[.pointer none, .bool false]) w := by kernel_rfl
theorem ta_159_120 (p : Option Addr) (w : World) : (Instr.typeAssert (.iface 159 (.pointer p)) 20 120 true).run Try.prog w = .ok (.tuple #[.pointer none, .bool false]) w := by kernel_rfl
theorem ta_159_125 (p : Option Addr) (w : World) : (Instr.typeAssert (.iface 159 (.pointer p)) 20 125 true).run Try.prog w = .ok (.tuple #[.pointer none, .bool false]) w := by kernel_rfl
theorem ta_159_130 (p : Option Addr) (w : World) : (Instr.typeAssert (.iface 159 (.pointer p)) 20 130 true).run Try.prog w = .ok (.tuple #[.pointer none, .bool false]) w := by kernel_rfl
theorem ta_159_133 (p : Option Addr) (w : World) : (Instr.typeAssert (.iface 159 (.pointer p)) 20 133 true).run Try.prog w = .ok (.tuple #[.pointer none, .bool false]) w := by kernel_rfl
theorem ta_159_136 (p : Option Addr) (w : World) : (Instr.typeAssert (.iface 159 (.pointer p)) 20 136 true).run Try.prog w = .ok (.tuple #[.pointer none, .bool false]) w := by kernel_rfl
theorem ta_159_139 (p : Option Addr) (w : World) : (Instr.typeAssert (.iface 159 (.pointer p)) 20 139 true).run Try.prog w = .ok (.tuple #[.pointer none, .bool false]) w := by kernel_rfl
end Go.Proofs.Ytoljdgfbkebgcaa
namespace Go.Proofs.Ytoljdgfbkebgcaa
open Go.RowKit
set_option linter.unusedVariables false
set_option maxHeartbeats 4000000 in
set_option maxRecDepth 100000 in
theorem toldSctp_any (A1 A : Option Addr) (n c1 m c gl : Nat) (l p : List Int) (w : World) (hl : By l) (k : Blk w gl (sctpCells A1 n c1 l) 95) (h : Rd .u8 w A m c p) (hp : By p) (hm : m ≤ 2000) (hn : 12 ≤ l.length) :
    Calls Try.prog 49 #[.iface 90 (.pointer (some ⟨gl, 0, none⟩)), .slice A m c] w fun e w' =>
      ∃ v0 v3, e = .returned (.tuple #[.agg #[v0, .slice none 0 0, .slice none 0 0, v3], .bool true]) ∧ NumV (fun k => w.heap.size ≤ k) w' v0 [be (sub l 0 2), be (sub l 2 4), be (sub l 4 8), be (sub l 8 12)] ∧ BytV (fun k => w.heap.size ≤ k) w' v3 p ∧ Bl w w' := by
  have H := Lib.hid h
  have HP := Lib.hid hp
  have b1 := be_bd2 (sub l 0 2) (hl.sub _ _) (by rw [sub_length _ _ _ (by omega)])
  have b2 := be_bd2 (sub l 2 4) (hl.sub _ _) (by rw [sub_length _ _ _ (by omega)])
  have b3 := be_bd4 (sub l 4 8) (hl.sub _ _) (by rw [sub_length _ _ _ (by omega)])
  have b4 := be_bd4 (sub l 8 12) (hl.sub _ _) (by rw [sub_length _ _ _ (by omega)])
  unfold sctpCells at k
  generalize be (sub l 0 2) = x1 at *
  generalize be (sub l 2 4) = x2 at *
  generalize be (sub l 4 8) = x3 at *
  generalize be (sub l 8 12) = x4 at *
  clear h hp hl
  have t1 := ta_90
  go_enter Try.func49, Try.ntmps49
  go_wp2_with fail
  (with_reducible refine (clone_any _ _ _ _ _ (H.out.below (by go_grown)) (by omega)).mono ?_)
  rintro e w1 ⟨⟨A2, c2, rfl, ho⟩, hb1⟩
  have kr := Blk.keep hb1 (Blk.new w _ _)
  have kl := Blk.keep hb1 (k.alloc _)
  have OW := Lib.hid ho
  have cl := kl.cell
  have zl := kl.lt
  have cr := kr.cell
  have fr := kr.frozen
  have zr := kr.lt
  clear ho
  go_wp2_with fail
  have B1 : Bl w (w1.alloc (.cells #[.slice none 0 0, .slice none 0 0, .slice none 0 0, .slice A2 m c2] 35)) := Bl.trans (Bl.trans (by go_grown) hb1) (by go_grown)
  have kb := Blk.new w1 #[.slice none 0 0, .slice none 0 0, .slice none 0 0, .slice A2 m c2] 35
  have kl1 := kl.alloc (.cells #[.slice none 0 0, .slice none 0 0, .slice none 0 0, .slice A2 m c2] 35)
  have kr1 := kr.alloc (.cells #[.slice none 0 0, .slice none 0 0, .slice none 0 0, .slice A2 m c2] 35)
  have OW1 := Lib.hid (OW.out.alloc (.cells #[.slice none 0 0, .slice none 0 0, .slice none 0 0, .slice A2 m c2] 35))
  have hne : w.heap.size ≠ w1.heap.size := Nat.ne_of_lt zr
  have hle : w.heap.size < w1.heap.size := zr
  generalize w1.alloc (.cells #[.slice none 0 0, .slice none 0 0, .slice none 0 0, .slice A2 m c2] 35) = W at *
  generalize w1.heap.size = gb at *
  clear cl zl cr fr zr kl kr hb1 OW k
  have cl := kl1.cell
  have cr := kr1.cell
  have fr := kr1.frozen
  have cb := kb.cell
  have fb := kb.frozen
  have zl := kl1.lt
  have zr := kr1.lt
  have zb := kb.lt
  go_region
  go_wp2_with fail
  refine bodyPost_ret (v := .tuple #[.agg #[.slice (some ⟨W.heap.size, 0, none⟩) 4 4, .slice none 0 0, .slice none 0 0, .slice A2 m c2], .bool true]) (by simp [results, Try.results49, go_sem, cr, zr]) rfl ⟨_, _, rfl, ?_, ?_, ?_⟩
  · exact NumV.of_block _ (Nat.le_of_lt zr) (Blk.newAt _ _ 26 W.heap.size (by simp)).heap rfl rfl
  · have kr2 := kr1.far (p := ⟨gb, 0, none⟩) hne (.slice (some ⟨W.heap.size, 0, none⟩) 4 4)
    have kr3 := kr2.set 0 (.slice (some ⟨W.heap.size, 0, none⟩) 4 4)
    have kr4 := kr3.set 1 (.slice none 0 0)
    have kr5 := kr4.set 2 (.slice none 0 0)
    exact own_bytV ((own_same (own_set (own_set (own_set (own_set (own_set OW1.out kb (by decide) _ _) kr2 (by decide) _ _) kr3 (by decide) _ _) kr4 (by decide) _ _) kr5 (by decide) 3 (.slice A2 m c2)) rfl).alloc _) HP.out (fun k h1 _ => by simp at h1; omega)
  · have hgb : w.heap.size ≤ gb := by have := hle; omega
    exact Below.drew (Below.alloc (((((B1.setCell hgb _).setCell (Nat.le_refl _) _).setCell (Nat.le_refl _) _).setCell (Nat.le_refl _) _).setCell (Nat.le_refl _) _) (by simp; omega) _)
end Go.Proofs.Ytoljdgfbkebgcaa
namespace Go.Proofs.Ytoljdgfbkebgcaa
open Go.RowKit
set_option linter.unusedVariables false

theorem u64_or8' (x y : Int) (hy₀ : 0 ≤ y) (hy : y < 256) (hx₀ : 0 ≤ x) (hx : x % 256 = 0) (hx₁ : x < 18446744073709551616) : bits .or .u64 x y = x + y :=
  bits_join .u64 64 (by decide) (fun n h0 h1 => by rw [IntKind.wrap_u64]; omega) 8 x y hx₀ hx hx₁ hy₀ hy (by omega)
theorem be_snoc (l : List Int) (k : Nat) (h : k < l.length) : be (l.take (k + 1)) = be (l.take k) * 256 + l.getD k 0 := by
  rw [List.take_succ_eq_append_getElem h, List.getD_eq_getElem?_getD, List.getElem?_eq_getElem h]
  unfold be
  rw [List.foldl_append]
  rfl
theorem be_take_bd (l : List Int) (hl : By l) (k : Nat) (hk : k ≤ 7) : 0 ≤ be (l.take k) ∧ be (l.take k) < 72057594037927936 := by
  have h1 : By (l.take k) := fun x hx => hl x (List.mem_of_mem_take hx)
  refine ⟨be_nonneg _ h1, Int.lt_of_lt_of_le (be_lt _ h1) ?_⟩
  have : (l.take k).length ≤ 7 := by simp; omega
  exact (by decide : ∀ m : Fin 8, (256 : Int) ^ m.val ≤ 72057594037927936) ⟨_, by omega⟩

theorem num_any (A : Option Addr) (n c : Nat) (l : List Int) (w : World) (h : Rd .u8 w A n c l) (hl : By l) (h0 : 0 < n) (hn : n ≤ 8) :
    Calls Try.prog 38 #[.slice A n c] w fun e w' => e = .returned (.int .u64 (be l)) ∧ w = w' := by
  obtain ⟨g, o, rfl, hg, hc⟩ := h.at (by omega)
  have HC := Lib.hid hc
  have HL := Lib.hid h.len
  have hlen : l.length = n := h.len
  clear hc h hlen
  go_enter Try.func38, Try.ntmps38
  go_wp2
  go_loop [3, 8] (fun t i => ∃ k : Nat, k ≤ n ∧ i = .int .i64 k ∧ t = .int .u64 (be (l.take k))) (fun _ i => n - (intOf i).toNat)
  case atStart => exact ⟨0, Nat.zero_le _, rfl, by simp [be]⟩
  case round =>
    obtain ⟨k, hk, rfl, rfl⟩ := hrel
    by_cases hlt : k < n
    · have hcell := HC.out k hlt
      have hb := hl.getD k
      have hd := be_take_bd l hl k (by omega)
      have hs : bits .or .u64 (be (l.take k) * 256) (l.getD k 0) = be (l.take (k + 1)) := by
        rw [be_snoc l k (by rw [HL.out]; exact hlt), u64_or8' _ _ (by omega) (by omega) (by omega) (by omega) (by omega)]
      generalize l.getD k 0 = x at *
      have HS := Lib.hid hs
      clear hs
      go_wp2
      go_round
      case rel => exact ⟨k + 1, by omega, by go_num, by rw [← HS.out]⟩
      case measure => simp [intOf]; omega
    · have hkn : be (l.take k) = be l := by rw [List.take_of_length_le (by rw [HL.out]; omega)]
      have HK := Lib.hid hkn
      clear hkn
      go_wp2
      go_ret
      exact ⟨ret_int HK.out, rfl⟩
end Go.Proofs.Ytoljdgfbkebgcaa
