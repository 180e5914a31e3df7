/- spec.Kind: the kind of a chunk by its type, out of a map literal. -/
import Derived.Test.YtoljdgfbkebgcaaBase
import Derived.MapKept
import Derived.Maps.OwnOps
import Derived.Carry
namespace Go.Proofs.Ytoljdgfbkebgcaa
open Go.RowKit Go.Maps Go.ChangeMaps

/-- A map of the call's own, by its entries. -/
structure MapAt (w0 w : World) (r : Nat) (es : Array MapEntry) (clock : Nat) : Prop where
  heap : w.heap[r]? = some (.map es clock)
  bl : Bl w0 w
  fresh : w0.heap.size ≤ r
theorem MapAt.new {w0 w : World} (hb : Bl w0 w) : MapAt w0 (w.alloc (.map #[] 0)) w.heap.size #[] 0 := ⟨heap_alloc_new w _, hb.alloc hb.size _, hb.size⟩
theorem MapAt.put {w0 w : World} {r : Nat} {es : Array MapEntry} {clock : Nat} (h : MapAt w0 w r es clock) (es' : Array MapEntry) (clock' : Nat) : MapAt w0 (setBlock w r (.map es' clock')) r es' clock' := by
  refine ⟨(MapKept.heap_set h.heap).1, ⟨h.bl.os, h.bl.tape, h.bl.output, ?_, fun i hi => ?_⟩, h.fresh⟩
  · have := h.bl.size
    simpa [setBlock] using this
  · have hf := h.fresh
    exact ((MapKept.heap_set h.heap).2 i (by omega)).trans (h.bl.block i hi)
section
variable {P : Program}
theorem run_put {W : World} {r : Nat} {es : Array MapEntry} {clock : Nat} {t k e : TypeId} {q : IntKind} (ht : P.underlying t = some (.map k e)) (hk : P.underlying k = some (.int q)) (h : W.heap[r]? = some (.map es clock))
    (x : Int) (v : Value) (hn : Instr.findNow (.int q) (.int q x) es.toList 0 = some none) :
    (Instr.mapUpdate t (.map (some r)) (.int q x) v).run P W = .ok () (setBlock W r (.map (es.push { key := .int q x, val := v, born := clock }) (clock + 1))) := by
  simp [Instr.mapUpdate, run_underlying ht, MapKept.run_getObj_map h, MapKept.run_checkKey hk (k := .int q x) rfl, MapKept.run_findKey hk hn, MapKept.run_setObj_map _ h, Result.andThen, setBlock]
theorem run_look {W : World} {r : Nat} {es : Array MapEntry} {clock : Nat} {t k e : TypeId} {q : IntKind} (ht : P.underlying t = some (.map k e)) (hk : P.underlying k = some (.int q)) (h : W.heap[r]? = some (.map es clock))
    (x : Int) (z : Value) (hz : (zeroValue e).run P W = .ok z W) (a : Option (Nat × Value)) (hn : Instr.findNow (.int q) (.int q x) es.toList 0 = some a) :
    (Instr.lookup t (.map (some r)) (.int q x) true).run P W = .ok (.tuple #[(a.map (·.2)).getD z, .bool a.isSome]) W := by
  cases a <;> simp [Instr.lookup, run_underlying ht, MapKept.run_getObj_map h, MapKept.run_checkKey hk (k := .int q x) rfl, MapKept.run_findKey hk hn, Result.andThen, hz]

variable {ops : Array Oper} {rest : List Oper} {o : Oper} {a : Act} {Q : Exit → Act → World → Prop} {W : World}
theorem wpList_put (hg : o.guard = none) (w0 : World) (m x v : Operand) (t k e : TypeId) (q : IntKind) (hop : o.op = Op.insert t m x v) (ht : P.underlying t = some (.map k e)) (hk : P.underlying k = some (.int q))
    (r : Nat) (es : Array MapEntry) (clock : Nat) (key : Int) (val : Value) (hm : a.eval m = .map (some r)) (hx : a.eval x = .int q key) (hv : a.eval v = val) (h : MapAt w0 W r es clock)
    (hn : Instr.findNow (.int q) (.int q key) es.toList 0 = some none)
    (hK : ∀ w', MapAt w0 w' r (es.push { key := .int q key, val := val, born := clock }) (clock + 1) → wpList P ops Q rest (a.put o.dst undef) w') : wpList P ops Q (o :: rest) a W := by
  refine wpList_plain hg fun K' hK' => ?_
  have hrun := run_put (P := P) ht hk h.heap key val hn
  unfold Oper.wp
  simp [execOp, hop, hm, hx, hv, hrun, Result.andThen]
  exact hK' _ _ (hK _ (h.put _ _))
theorem wpList_look (hg : o.guard = none) (w0 : World) (m x : Operand) (t k e : TypeId) (q : IntKind) (hop : o.op = Op.lookup t m x true) (ht : P.underlying t = some (.map k e)) (hk : P.underlying k = some (.int q))
    (r : Nat) (es : Array MapEntry) (clock : Nat) (key : Int) (hm : a.eval m = .map (some r)) (hx : a.eval x = .int q key) (h : MapAt w0 W r es clock)
    (z : Value) (hz : (zeroValue e).run P W = .ok z W) (b : Option (Nat × Value)) (hn : Instr.findNow (.int q) (.int q key) es.toList 0 = some b)
    (hK : wpList P ops Q rest (a.put o.dst (.tuple #[(b.map (·.2)).getD z, .bool b.isSome])) W) : wpList P ops Q (o :: rest) a W := by
  refine wpList_plain hg fun K' hK' => ?_
  have hrun := run_look (P := P) ht hk h.heap key z hz b hn
  unfold Oper.wp
  simp [execOp, hop, hm, hx, hrun, Result.andThen]
  exact hK' _ _ hK
end
/-- The kinds' names. -/
def kDat : ByteArray := ⟨#[115, 99, 116, 112, 100, 97, 116, 97]⟩
def kIni : ByteArray := ⟨#[115, 99, 116, 112, 105, 110, 105, 116]⟩
def kSac : ByteArray := ⟨#[115, 99, 116, 112, 115, 97, 99, 107]⟩
def kHea : ByteArray := ⟨#[115, 99, 116, 112, 104, 101, 97, 114, 116, 98, 101, 97, 116]⟩
def kErr : ByteArray := ⟨#[115, 99, 116, 112, 101, 114, 114, 111, 114]⟩
def kShu : ByteArray := ⟨#[115, 99, 116, 112, 115, 104, 117, 116, 100, 111, 119, 110]⟩
def kAck : ByteArray := ⟨#[115, 99, 116, 112, 115, 104, 117, 116, 100, 111, 119, 110, 97, 99, 107]⟩
def kCoo : ByteArray := ⟨#[115, 99, 116, 112, 99, 111, 111, 107, 105, 101, 101, 99, 104, 111]⟩
def kEmp : ByteArray := ⟨#[115, 99, 116, 112, 101, 109, 112, 116, 121]⟩
def kUnk : ByteArray := ⟨#[115, 99, 116, 112, 117, 110, 107, 110, 111, 119, 110]⟩
/-- The kind by a type. -/
def kindOf (x : Int) : ByteArray :=
  if x = 0 then kDat else if x = 1 then kIni else if x = 2 then kIni else if x = 3 then kSac else if x = 4 then kHea else if x = 5 then kHea else if x = 6 then kErr else if x = 7 then kShu
  else if x = 8 then kAck else if x = 9 then kErr else if x = 10 then kCoo else if x = 11 then kEmp else if x = 14 then kEmp else kUnk
def kindRow (x : Int) : Option (Nat × Value) :=
  if x = 0 then some (0, .string kDat) else if x = 1 then some (1, .string kIni) else if x = 2 then some (2, .string kIni) else if x = 3 then some (3, .string kSac) else if x = 4 then some (4, .string kHea) else if x = 5 then some (5, .string kHea)
  else if x = 6 then some (6, .string kErr) else if x = 7 then some (7, .string kShu) else if x = 8 then some (8, .string kAck) else if x = 9 then some (9, .string kErr) else if x = 10 then some (10, .string kCoo) else if x = 11 then some (11, .string kEmp)
  else if x = 14 then some (12, .string kEmp) else none
theorem kindRow_known (x : Int) (h : x = 0 ∨ x = 1 ∨ x = 2 ∨ x = 3 ∨ x = 4 ∨ x = 5 ∨ x = 6 ∨ x = 7 ∨ x = 8 ∨ x = 9 ∨ x = 10 ∨ x = 11 ∨ x = 14) : ∃ j, kindRow x = some (j, .string (kindOf x)) := by
  rcases h with rfl | rfl | rfl | rfl | rfl | rfl | rfl | rfl | rfl | rfl | rfl | rfl | rfl
  all_goals exact ⟨_, rfl⟩
theorem kindRow_else (x : Int) (h : ¬ (x = 0 ∨ x = 1 ∨ x = 2 ∨ x = 3 ∨ x = 4 ∨ x = 5 ∨ x = 6 ∨ x = 7 ∨ x = 8 ∨ x = 9 ∨ x = 10 ∨ x = 11 ∨ x = 14)) : kindRow x = none ∧ kindOf x = kUnk := by
  simp only [not_or] at h
  obtain ⟨h0, h1, h2, h3, h4, h5, h6, h7, h8, h9, h10, h11, h14⟩ := h
  simp only [kindRow, kindOf, if_neg h0, if_neg h1, if_neg h2, if_neg h3, if_neg h4, if_neg h5, if_neg h6, if_neg h7, if_neg h8, if_neg h9, if_neg h10, if_neg h11, if_neg h14, and_self]
def Known (x : Int) : Prop := x = 0 ∨ x = 1 ∨ x = 2 ∨ x = 3 ∨ x = 4 ∨ x = 5 ∨ x = 6 ∨ x = 7 ∨ x = 8 ∨ x = 9 ∨ x = 10 ∨ x = 11 ∨ x = 14
set_option maxHeartbeats 2000000 in
theorem kind_known (x : Int) (w : World) (h : Known x) :
    Calls Try.prog 45 #[.int .u8 x] w fun e w' => e = .returned (.string (kindOf x)) ∧ Bl w w' := by
  obtain ⟨j, hj⟩ := kindRow_known x h
  have m0 := MapAt.new (Bl.refl w)
  have hz : ∀ W, (zeroValue 9).run Try.prog W = .ok (.string ⟨#[]⟩) W := by intro W; kernel_rfl
  have mm := run_makeMap (P := Try.prog) 150 w
  have HK := Lib.hid h
  have HJ := Lib.hid hj
  clear hj h
  go_enter Try.func45, Try.ntmps45
  go_wp2_with (first | (refine wpList_put rfl w _ _ _ 150 5 9 .u8 rfl Try.underlying150 Try.underlying5 w.heap.size _ _ _ _ rfl rfl rfl (by assumption) (by simp [Instr.findNow, Instr.sameNow]) ?_; intro W m1) | (refine wpList_look rfl w _ _ 150 5 9 .u8 rfl Try.underlying150 Try.underlying5 w.heap.size _ _ x rfl rfl (by assumption) _ (hz _) (some (j, .string (kindOf x))) (by rw [← HJ.out]; rcases HK.out with rfl | rfl | rfl | rfl | rfl | rfl | rfl | rfl | rfl | rfl | rfl | rfl | rfl <;> rfl) ?_))
  go_wp2_with fail
  go_ret
  exact ⟨rfl, MapAt.bl (by assumption)⟩
set_option maxHeartbeats 2000000 in
theorem kind_else (x : Int) (w : World) (h : ¬ Known x) :
    Calls Try.prog 45 #[.int .u8 x] w fun e w' => e = .returned (.string kUnk) ∧ Bl w w' := by
  obtain ⟨hj, _⟩ := kindRow_else x h
  have m0 := MapAt.new (Bl.refl w)
  have hz : ∀ W, (zeroValue 9).run Try.prog W = .ok (.string ⟨#[]⟩) W := by intro W; kernel_rfl
  have mm := run_makeMap (P := Try.prog) 150 w
  simp only [Known, not_or, ← beq_eq_false_iff_ne] at h
  have HK := Lib.hid h
  clear hj h
  go_enter Try.func45, Try.ntmps45
  go_wp2_with (first | (refine wpList_put rfl w _ _ _ 150 5 9 .u8 rfl Try.underlying150 Try.underlying5 w.heap.size _ _ _ _ rfl rfl rfl (by assumption) (by simp [Instr.findNow, Instr.sameNow]) ?_; intro W m1) | (refine wpList_look rfl w _ _ 150 5 9 .u8 rfl Try.underlying150 Try.underlying5 w.heap.size _ _ x rfl rfl (by assumption) _ (hz _) none (by have q := HK.out; simp [Instr.findNow, Instr.sameNow, q]) ?_))
  go_wp2_with fail
  go_ret
  exact ⟨rfl, MapAt.bl (by assumption)⟩
theorem kind_any (x : Int) (w : World) :
    Calls Try.prog 45 #[.int .u8 x] w fun e w' => e = .returned (.string (kindOf x)) ∧ Bl w w' := by
  by_cases h : Known x
  · exact kind_known x w h
  · rw [(kindRow_else x h).2]
    exact kind_else x w h

end Go.Proofs.Ytoljdgfbkebgcaa
