/- called and decoded, for any kind of chunk. decoded, for the kinds that hold a row. Appends in regions that draw their order: what they leave of other blocks. spec.Kind: the kind of a chunk by its type, out of a map literal. Kinds that differ, by their bytes. laws.same: of one layer twice it is true. laws.read, for any kind: out of what the reference says and what the package reads. What a chunk of a packet is: what the reference says of it, and what the package decodes. -/
import Derived.Test.YtoljdgfbkebgcaaPq03
import Derived.Test.YtoljdgfbkebgcaaPq02
import Derived.Deep.RegionLaw
import Derived.Test.YtoljdgfbkebgcaaPq01
import Derived.MapKept
import Derived.Maps.OwnOps
import Derived.Carry
import Derived.Test.YtoljdgfbkebgcaaPq06
import Derived.WalkSpells
import Derived.Laws.BytesArg
namespace Go.Proofs.Ytoljdgfbkebgcaa
open Go.RowKit
set_option linter.unusedVariables false
abbrev CallAt (s : ByteArray) (l : List Int) (b : Bool) : Prop :=
  ∀ (A : Option Addr) (n c : Nat) (w : World), Rd .u8 w A n c l → Calls Try.prog 68 #[.string s, .slice A n c] w fun e w' => e = .returned (.bool b) ∧ Bl w w'
abbrev ZzErr (s : ByteArray) (l : List Int) : Prop :=
  ∀ (A : Option Addr) (n c : Nat) (w : World), Rd .u8 w A n c l → Calls Try.prog 69 #[.string s, .slice A n c] w fun e w' => (∃ u, e = .returned (.tuple #[.nilIface, .iface 167 u])) ∧ Bl w w'
abbrev ZzOk (s : ByteArray) (l : List Int) (T E : TypeId) (cells : Option Addr → Nat → Nat → Array Value) : Prop :=
  ∀ (A : Option Addr) (n c : Nat) (w : World), Rd .u8 w A n c l → Calls Try.prog 69 #[.string s, .slice A n c] w fun e w' => ∃ gl, e = .returned (.tuple #[.iface T (.pointer (some ⟨gl, 0, none⟩)), .nilIface]) ∧ Obj1 w w' gl E (cells A n c)

theorem called_short (s : ByteArray) (l : List Int) (hs : (s.toList == [115, 99, 116, 112]) = false) (hn : l.length < 4) : CallAt s l false := by
  intro A n c w h
  have hlen := h.len
  have h4 : n < 4 := by omega
  clear h hlen hn
  go_enter Try.func68, Try.ntmps68
  go_wp2_with fail
  go_ret
  exact ⟨rfl, Bl.refl _⟩
theorem called_err (s : ByteArray) (l : List Int) (hs : (s.toList == [115, 99, 116, 112]) = false) (hl : By l) (hn : 4 ≤ l.length) (hn2 : l.length ≤ 2000) (hL : chL l < 4) : CallAt s l true := by
  intro A n c w h
  have hlen := h.len
  have HH := Lib.hid h
  have HB := Lib.hid hl
  have h4 : 4 ≤ n := by omega
  have h5 : n ≤ 2000 := by omega
  have e1 := chL_int l hl
  have b1 : be (sub l 2 (2 + 2)) < 4 := by show be (sub l 2 4) < 4; omega
  clear h hlen hn hl e1
  go_enter Try.func68, Try.ntmps68
  go_wp2_with fail
  (with_reducible refine (number_any _ _ _ 2 _ _ HH.out HB.out (by omega) (by omega) 2 rfl).mono ?_)
  rintro e w1 ⟨rfl, q, rfl⟩
  generalize be (sub l 2 (2 + 2)) = L at *
  go_wp2_with fail
  go_ret
  exact ⟨rfl, (Bl.refl _).drewN _⟩
theorem called_no (s : ByteArray) (l : List Int) (hs : (s.toList == [115, 99, 116, 112]) = false) (hl : By l) (hn : 4 ≤ l.length) (hn2 : l.length ≤ 2000) (h0 : l.getD 0 0 ≠ 0) (h4' : 4 ≤ chL l) (hL : l.length < up4 (chL l)) : CallAt s l false := by
  intro A n c w h
  have hlen := h.len
  have HH := Lib.hid h
  have HB := Lib.hid hl
  obtain ⟨g, o, rfl, hg, hc⟩ := h.at (by omega)
  have d0 := hc 0 (by omega)
  simp only [Nat.add_zero] at d0
  have h4 : 4 ≤ n := by omega
  have h5 : n ≤ 2000 := by omega
  have e1 : be (sub l 2 (2 + 2)) = (chL l : Int) := chL_int l hl
  have b1 : 4 ≤ be (sub l 2 (2 + 2)) := by omega
  have b2 : be (sub l 2 (2 + 2)) ≤ 65535 := by have := chL_le l hl (by omega); omega
  have b3 : (n : Int) < (be (sub l 2 (2 + 2)) + 3) / 4 * 4 := by rw [e1]; unfold up4 at hL; omega
  generalize l.getD 0 0 = x0 at *
  have H0 := Lib.hid h0
  have d0' : ∀ q, (w.drewN q).cell? ⟨g, o, none⟩ = some (.int .u8 x0) := fun q => d0
  clear h hlen hn hl e1 hc h4' hL h0 d0
  go_enter Try.func68, Try.ntmps68
  go_wp2_with fail
  (with_reducible refine (number_any _ _ _ 2 _ _ HH.out HB.out (by omega) (by omega) 2 rfl).mono ?_)
  rintro e w1 ⟨rfl, q, rfl⟩
  generalize be (sub l 2 (2 + 2)) = L at *
  go_wp2_with fail
  (with_reducible refine (iup_any _ (by omega) (by omega) _).mono ?_)
  rintro e w1 ⟨rfl, rfl⟩
  generalize (L + 3) / 4 * 4 = U at *
  have h0 := H0.out
  go_wp2_with fail
  go_ret
  exact ⟨rfl, (Bl.refl _).drewN _⟩
theorem decoded_ok (s : ByteArray) (l : List Int) (T E : TypeId) (cells : Option Addr → Nat → Nat → Array Value) (hn : l.length ≤ 2000) (hc : CallAt s l true) (hz : ZzOk s l T E cells) (A : Option Addr) (n c : Nat) (w : World) (h : Rd .u8 w A n c l) :
    Calls Try.prog 48 #[.string s, .slice A n c] w fun e w' =>
      ∃ A1 c1 gl, e = .returned (.tuple #[.iface T (.pointer (some ⟨gl, 0, none⟩)), .bool true]) ∧ Obj1 w w' gl E (cells A1 n c1) ∧ Rd .u8 w' A1 n c1 l := by
  have hlen := h.len
  have h5 : n ≤ 2000 := by omega
  have H := Lib.hid h
  have HC := Lib.hid hc
  have HZ := Lib.hid hz
  clear h hlen hn hc hz
  go_enter Try.func48, Try.ntmps48
  go_wp2_with fail
  (with_reducible refine (HC.out _ _ _ _ H.out).mono ?_)
  rintro e w1 ⟨rfl, hb0⟩
  go_wp2_with fail
  (with_reducible refine (bclone_any _ _ _ _ _ (H.out.below hb0) (by omega)).mono ?_)
  rintro e w2 ⟨⟨A1, c1, rfl, r1⟩, hb1⟩
  have R1 := Lib.hid r1
  clear r1
  go_wp2_with fail
  (with_reducible refine (HZ.out _ _ _ _ R1.out).mono ?_)
  rintro e w3 ⟨gl, rfl, ho⟩
  have O := Lib.hid ho
  clear ho
  go_wp2_with fail
  go_quiet (fail)
  go_wp2_with fail
  go_ret2
  exact ⟨A1, c1, gl, rfl, ⟨((hb0.trans hb1).trans O.out.bl).drewN _, O.out.layer.same rfl⟩, (R1.out.below O.out.bl).below ((Bl.refl _).drewN _)⟩
theorem decoded_err (s : ByteArray) (l : List Int) (hn : l.length ≤ 2000) (hc : CallAt s l true) (hz : ZzErr s l) (A : Option Addr) (n c : Nat) (w : World) (h : Rd .u8 w A n c l) :
    Calls Try.prog 48 #[.string s, .slice A n c] w fun e w' => e = .returned (.tuple #[.nilIface, .bool false]) ∧ Bl w w' := by
  have hlen := h.len
  have h5 : n ≤ 2000 := by omega
  have H := Lib.hid h
  have HC := Lib.hid hc
  have HZ := Lib.hid hz
  clear h hlen hn hc hz
  go_enter Try.func48, Try.ntmps48
  go_wp2_with fail
  (with_reducible refine (HC.out _ _ _ _ H.out).mono ?_)
  rintro e w1 ⟨rfl, hb0⟩
  go_wp2_with fail
  (with_reducible refine (bclone_any _ _ _ _ _ (H.out.below hb0) (by omega)).mono ?_)
  rintro e w2 ⟨⟨A1, c1, rfl, r1⟩, hb1⟩
  have R1 := Lib.hid r1
  clear r1
  go_wp2_with fail
  (with_reducible refine (HZ.out _ _ _ _ R1.out).mono ?_)
  rintro e w3 ⟨⟨u, rfl⟩, hb2⟩
  go_wp2_with fail
  go_quiet (fail)
  go_wp2_with fail
  go_ret2
  exact ⟨rfl, ((hb0.trans hb1).trans hb2).drewN _⟩
theorem decoded_no (s : ByteArray) (l : List Int) (hn : l.length ≤ 2000) (hc : CallAt s l false) (A : Option Addr) (n c : Nat) (w : World) (h : Rd .u8 w A n c l) :
    Calls Try.prog 48 #[.string s, .slice A n c] w fun e w' => e = .returned (.tuple #[.nilIface, .bool false]) ∧ Bl w w' := by
  have hlen := h.len
  have h5 : n ≤ 2000 := by omega
  have H := Lib.hid h
  have HC := Lib.hid hc
  clear h hlen hn hc
  go_enter Try.func48, Try.ntmps48
  go_wp2_with fail
  (with_reducible refine (HC.out _ _ _ _ H.out).mono ?_)
  rintro e w1 ⟨rfl, hb0⟩
  go_wp2_with fail
  go_ret2
  exact ⟨rfl, hb0⟩
end Go.Proofs.Ytoljdgfbkebgcaa
namespace Go.Proofs.Ytoljdgfbkebgcaa
open Go.RowKit
set_option linter.unusedVariables false
abbrev ZzOkP (s : ByteArray) (l : List Int) (T : TypeId) (Φ : Option Addr → Nat → Nat → World → Nat → Prop) : Prop :=
  ∀ (A : Option Addr) (n c : Nat) (w : World), Rd .u8 w A n c l → Calls Try.prog 69 #[.string s, .slice A n c] w fun e w' => ∃ gl, e = .returned (.tuple #[.iface T (.pointer (some ⟨gl, 0, none⟩)), .nilIface]) ∧ Bl w w' ∧ Φ A n c w' gl
theorem decodedP_ok (s : ByteArray) (l : List Int) (T : TypeId) (Φ : Option Addr → Nat → Nat → World → Nat → Prop) (hΦ : ∀ A n c w w' gl, Φ A n c w gl → Bl w w' → Φ A n c w' gl) (hn : l.length ≤ 2000) (hc : CallAt s l true) (hz : ZzOkP s l T Φ) (A : Option Addr) (n c : Nat) (w : World) (h : Rd .u8 w A n c l) :
    Calls Try.prog 48 #[.string s, .slice A n c] w fun e w' =>
      ∃ A1 c1 gl, e = .returned (.tuple #[.iface T (.pointer (some ⟨gl, 0, none⟩)), .bool true]) ∧ Bl w w' ∧ Φ A1 n c1 w' gl ∧ Rd .u8 w' A1 n c1 l := by
  have hlen := h.len
  have h5 : n ≤ 2000 := by omega
  have H := Lib.hid h
  have HC := Lib.hid hc
  have HZ := Lib.hid hz
  have HF := Lib.hid hΦ
  clear h hlen hn hc hz hΦ
  go_enter Try.func48, Try.ntmps48
  go_wp2_with fail
  (with_reducible refine (HC.out _ _ _ _ H.out).mono ?_)
  rintro e w1 ⟨rfl, hb0⟩
  go_wp2_with fail
  (with_reducible refine (bclone_any _ _ _ _ _ (H.out.below hb0) (by omega)).mono ?_)
  rintro e w2 ⟨⟨A1, c1, rfl, r1⟩, hb1⟩
  have R1 := Lib.hid r1
  clear r1
  go_wp2_with fail
  (with_reducible refine (HZ.out _ _ _ _ R1.out).mono ?_)
  rintro e w3 ⟨gl, rfl, hb3, ho⟩
  have O := Lib.hid ho
  clear ho
  go_wp2_with fail
  go_quiet (fail)
  go_wp2_with fail
  go_ret2
  exact ⟨A1, c1, gl, rfl, ((hb0.trans hb1).trans hb3).drewN _, HF.out _ _ _ _ _ _ O.out ((Bl.refl _).drewN _), (R1.out.below hb3).below ((Bl.refl _).drewN _)⟩
end Go.Proofs.Ytoljdgfbkebgcaa
namespace Go.Proofs.Ytoljdgfbkebgcaa
open Go.RowKit
set_option linter.unusedVariables false
theorem Appd.blk {W w1 : World} {B e sz n g : Nat} {v : Value} {ys : List Value} {A : Option Addr} {c : Nat} {cs : Array Value} {T : TypeId} (hp : Appd W B e sz v n ys A c w1) (k : Blk W g cs T) (hne : v.ownBlock ≠ some g) : Blk w1 g cs T :=
  ⟨(hp.grown.block g k.lt (fun h => hne h.symm)).trans k.heap⟩
/-- A block of one's own as a row. -/
theorem Blk.own {w : World} {g B n : Nat} {e : TypeId} {cs : Array Value} (k : Blk w g cs e) (hB : B ≤ g) (hn : cs.size = n) (hm : n ≤ maxLen) : w.ownsRow B e 1 (.slice (some ⟨g, 0, none⟩) n n) n cs.toList := by
  subst hn
  exact ⟨by simp, .inr ⟨g, _, cs, rfl, hB, k.heap, Nat.le_refl _, hm, by simp, List.take_of_length_le (by simp)⟩⟩
theorem own_mono {w : World} {base base' : Nat} {e : TypeId} {size n : Nat} {v : Value} {xs : List Value} (h : w.ownsRow base e size v n xs) (hb : base' ≤ base) : w.ownsRow base' e size v n xs :=
  ⟨h.1, h.2.elim .inl fun ⟨g, cap, cur, h1, h2, h3⟩ => .inr ⟨g, cap, cur, h1, Nat.le_trans hb h2, h3⟩⟩
end Go.Proofs.Ytoljdgfbkebgcaa
namespace Go.Proofs.Ytoljdgfbkebgcaa
open Go.RowKit Go.Maps Go.ChangeMaps

/-- A map of the call's own, by its entries. -/
structure MapAt (w0 w : World) (r : Nat) (es : Array MapEntry) (clock : Nat) : Prop where
  heap : w.heap[r]? = some (.map es clock)
  bl : Bl w0 w
  fresh : w0.heap.size ≤ r
theorem MapAt.new {w0 w : World} (hb : Bl w0 w) : MapAt w0 (w.alloc (.map #[] 0)) w.heap.size #[] 0 := ⟨heap_alloc_new w _, hb.alloc hb.size _, hb.size⟩
theorem MapAt.put {w0 w : World} {r : Nat} {es : Array MapEntry} {clock : Nat} (h : MapAt w0 w r es clock) (es' : Array MapEntry) (clock' : Nat) : MapAt w0 (setBlock w r (.map es' clock')) r es' clock' := by
  refine ⟨(MapKept.heap_set h.heap).1, ⟨h.bl.os, h.bl.tape, h.bl.output, ?_, fun i hi => ?_⟩, h.fresh⟩
  · have := h.bl.size
    simpa [setBlock] using this
  · have hf := h.fresh
    exact ((MapKept.heap_set h.heap).2 i (by omega)).trans (h.bl.block i hi)
section
variable {P : Program}
theorem run_put {W : World} {r : Nat} {es : Array MapEntry} {clock : Nat} {t k e : TypeId} {q : IntKind} (ht : P.underlying t = some (.map k e)) (hk : P.underlying k = some (.int q)) (h : W.heap[r]? = some (.map es clock))
    (x : Int) (v : Value) (hn : Instr.findNow (.int q) (.int q x) es.toList 0 = some none) :
    (Instr.mapUpdate t (.map (some r)) (.int q x) v).run P W = .ok () (setBlock W r (.map (es.push { key := .int q x, val := v, born := clock }) (clock + 1))) := by
  simp [Instr.mapUpdate, run_underlying ht, MapKept.run_getObj_map h, MapKept.run_checkKey hk (k := .int q x) rfl, MapKept.run_findKey hk hn, MapKept.run_setObj_map _ h, Result.andThen, setBlock]
theorem run_look {W : World} {r : Nat} {es : Array MapEntry} {clock : Nat} {t k e : TypeId} {q : IntKind} (ht : P.underlying t = some (.map k e)) (hk : P.underlying k = some (.int q)) (h : W.heap[r]? = some (.map es clock))
    (x : Int) (z : Value) (hz : (zeroValue e).run P W = .ok z W) (a : Option (Nat × Value)) (hn : Instr.findNow (.int q) (.int q x) es.toList 0 = some a) :
    (Instr.lookup t (.map (some r)) (.int q x) true).run P W = .ok (.tuple #[(a.map (·.2)).getD z, .bool a.isSome]) W := by
  cases a <;> simp [Instr.lookup, run_underlying ht, MapKept.run_getObj_map h, MapKept.run_checkKey hk (k := .int q x) rfl, MapKept.run_findKey hk hn, Result.andThen, hz]

variable {ops : Array Oper} {rest : List Oper} {o : Oper} {a : Act} {Q : Exit → Act → World → Prop} {W : World}
theorem wpList_put (hg : o.guard = none) (w0 : World) (m x v : Operand) (t k e : TypeId) (q : IntKind) (hop : o.op = Op.insert t m x v) (ht : P.underlying t = some (.map k e)) (hk : P.underlying k = some (.int q))
    (r : Nat) (es : Array MapEntry) (clock : Nat) (key : Int) (val : Value) (hm : a.eval m = .map (some r)) (hx : a.eval x = .int q key) (hv : a.eval v = val) (h : MapAt w0 W r es clock)
    (hn : Instr.findNow (.int q) (.int q key) es.toList 0 = some none)
    (hK : ∀ w', MapAt w0 w' r (es.push { key := .int q key, val := val, born := clock }) (clock + 1) → wpList P ops Q rest (a.put o.dst undef) w') : wpList P ops Q (o :: rest) a W := by
  refine wpList_plain hg fun K' hK' => ?_
  have hrun := run_put (P := P) ht hk h.heap key val hn
  unfold Oper.wp
  simp [execOp, hop, hm, hx, hv, hrun, Result.andThen]
  exact hK' _ _ (hK _ (h.put _ _))
theorem wpList_look (hg : o.guard = none) (w0 : World) (m x : Operand) (t k e : TypeId) (q : IntKind) (hop : o.op = Op.lookup t m x true) (ht : P.underlying t = some (.map k e)) (hk : P.underlying k = some (.int q))
    (r : Nat) (es : Array MapEntry) (clock : Nat) (key : Int) (hm : a.eval m = .map (some r)) (hx : a.eval x = .int q key) (h : MapAt w0 W r es clock)
    (z : Value) (hz : (zeroValue e).run P W = .ok z W) (b : Option (Nat × Value)) (hn : Instr.findNow (.int q) (.int q key) es.toList 0 = some b)
    (hK : wpList P ops Q rest (a.put o.dst (.tuple #[(b.map (·.2)).getD z, .bool b.isSome])) W) : wpList P ops Q (o :: rest) a W := by
  refine wpList_plain hg fun K' hK' => ?_
  have hrun := run_look (P := P) ht hk h.heap key z hz b hn
  unfold Oper.wp
  simp [execOp, hop, hm, hx, hrun, Result.andThen]
  exact hK' _ _ hK
end
/-- The kinds' names. -/
def kDat : ByteArray := ⟨#[115, 99, 116, 112, 100, 97, 116, 97]⟩
def kIni : ByteArray := ⟨#[115, 99, 116, 112, 105, 110, 105, 116]⟩
def kSac : ByteArray := ⟨#[115, 99, 116, 112, 115, 97, 99, 107]⟩
def kHea : ByteArray := ⟨#[115, 99, 116, 112, 104, 101, 97, 114, 116, 98, 101, 97, 116]⟩
def kErr : ByteArray := ⟨#[115, 99, 116, 112, 101, 114, 114, 111, 114]⟩
def kShu : ByteArray := ⟨#[115, 99, 116, 112, 115, 104, 117, 116, 100, 111, 119, 110]⟩
def kAck : ByteArray := ⟨#[115, 99, 116, 112, 115, 104, 117, 116, 100, 111, 119, 110, 97, 99, 107]⟩
def kCoo : ByteArray := ⟨#[115, 99, 116, 112, 99, 111, 111, 107, 105, 101, 101, 99, 104, 111]⟩
def kEmp : ByteArray := ⟨#[115, 99, 116, 112, 101, 109, 112, 116, 121]⟩
def kUnk : ByteArray := ⟨#[115, 99, 116, 112, 117, 110, 107, 110, 111, 119, 110]⟩
/-- The kind by a type. -/
def kindOf (x : Int) : ByteArray :=
  if x = 0 then kDat else if x = 1 then kIni else if x = 2 then kIni else if x = 3 then kSac else if x = 4 then kHea else if x = 5 then kHea else if x = 6 then kErr else if x = 7 then kShu
  else if x = 8 then kAck else if x = 9 then kErr else if x = 10 then kCoo else if x = 11 then kEmp else if x = 14 then kEmp else kUnk
def kindRow (x : Int) : Option (Nat × Value) :=
  if x = 0 then some (0, .string kDat) else if x = 1 then some (1, .string kIni) else if x = 2 then some (2, .string kIni) else if x = 3 then some (3, .string kSac) else if x = 4 then some (4, .string kHea) else if x = 5 then some (5, .string kHea)
  else if x = 6 then some (6, .string kErr) else if x = 7 then some (7, .string kShu) else if x = 8 then some (8, .string kAck) else if x = 9 then some (9, .string kErr) else if x = 10 then some (10, .string kCoo) else if x = 11 then some (11, .string kEmp)
  else if x = 14 then some (12, .string kEmp) else none
theorem kindRow_known (x : Int) (h : x = 0 ∨ x = 1 ∨ x = 2 ∨ x = 3 ∨ x = 4 ∨ x = 5 ∨ x = 6 ∨ x = 7 ∨ x = 8 ∨ x = 9 ∨ x = 10 ∨ x = 11 ∨ x = 14) : ∃ j, kindRow x = some (j, .string (kindOf x)) := by
  rcases h with rfl | rfl | rfl | rfl | rfl | rfl | rfl | rfl | rfl | rfl | rfl | rfl | rfl
  all_goals exact ⟨_, rfl⟩
theorem kindRow_else (x : Int) (h : ¬ (x = 0 ∨ x = 1 ∨ x = 2 ∨ x = 3 ∨ x = 4 ∨ x = 5 ∨ x = 6 ∨ x = 7 ∨ x = 8 ∨ x = 9 ∨ x = 10 ∨ x = 11 ∨ x = 14)) : kindRow x = none ∧ kindOf x = kUnk := by
  simp only [not_or] at h
  obtain ⟨h0, h1, h2, h3, h4, h5, h6, h7, h8, h9, h10, h11, h14⟩ := h
  simp only [kindRow, kindOf, if_neg h0, if_neg h1, if_neg h2, if_neg h3, if_neg h4, if_neg h5, if_neg h6, if_neg h7, if_neg h8, if_neg h9, if_neg h10, if_neg h11, if_neg h14, and_self]
def Known (x : Int) : Prop := x = 0 ∨ x = 1 ∨ x = 2 ∨ x = 3 ∨ x = 4 ∨ x = 5 ∨ x = 6 ∨ x = 7 ∨ x = 8 ∨ x = 9 ∨ x = 10 ∨ x = 11 ∨ x = 14
set_option maxHeartbeats 2000000 in
theorem kind_known (x : Int) (w : World) (h : Known x) :
    Calls Try.prog 45 #[.int .u8 x] w fun e w' => e = .returned (.string (kindOf x)) ∧ Bl w w' := by
  obtain ⟨j, hj⟩ := kindRow_known x h
  have m0 := MapAt.new (Bl.refl w)
  have hz : ∀ W, (zeroValue 9).run Try.prog W = .ok (.string ⟨#[]⟩) W := by intro W; kernel_rfl
  have mm := run_makeMap (P := Try.prog) 150 w
  have HK := Lib.hid h
  have HJ := Lib.hid hj
  clear hj h
  go_enter Try.func45, Try.ntmps45
  go_wp2_with (first | (refine wpList_put rfl w _ _ _ 150 5 9 .u8 rfl Try.underlying150 Try.underlying5 w.heap.size _ _ _ _ rfl rfl rfl (by assumption) (by simp [Instr.findNow, Instr.sameNow]) ?_; intro W m1) | (refine wpList_look rfl w _ _ 150 5 9 .u8 rfl Try.underlying150 Try.underlying5 w.heap.size _ _ x rfl rfl (by assumption) _ (hz _) (some (j, .string (kindOf x))) (by rw [← HJ.out]; rcases HK.out with rfl | rfl | rfl | rfl | rfl | rfl | rfl | rfl | rfl | rfl | rfl | rfl | rfl <;> rfl) ?_))
  go_wp2_with fail
  go_ret
  exact ⟨rfl, MapAt.bl (by assumption)⟩
set_option maxHeartbeats 2000000 in
theorem kind_else (x : Int) (w : World) (h : ¬ Known x) :
    Calls Try.prog 45 #[.int .u8 x] w fun e w' => e = .returned (.string kUnk) ∧ Bl w w' := by
  obtain ⟨hj, _⟩ := kindRow_else x h
  have m0 := MapAt.new (Bl.refl w)
  have hz : ∀ W, (zeroValue 9).run Try.prog W = .ok (.string ⟨#[]⟩) W := by intro W; kernel_rfl
  have mm := run_makeMap (P := Try.prog) 150 w
  simp only [Known, not_or, ← beq_eq_false_iff_ne] at h
  have HK := Lib.hid h
  clear hj h
  go_enter Try.func45, Try.ntmps45
  go_wp2_with (first | (refine wpList_put rfl w _ _ _ 150 5 9 .u8 rfl Try.underlying150 Try.underlying5 w.heap.size _ _ _ _ rfl rfl rfl (by assumption) (by simp [Instr.findNow, Instr.sameNow]) ?_; intro W m1) | (refine wpList_look rfl w _ _ 150 5 9 .u8 rfl Try.underlying150 Try.underlying5 w.heap.size _ _ x rfl rfl (by assumption) _ (hz _) none (by have q := HK.out; simp [Instr.findNow, Instr.sameNow, q]) ?_))
  go_wp2_with fail
  go_ret
  exact ⟨rfl, MapAt.bl (by assumption)⟩
theorem kind_any (x : Int) (w : World) :
    Calls Try.prog 45 #[.int .u8 x] w fun e w' => e = .returned (.string (kindOf x)) ∧ Bl w w' := by
  by_cases h : Known x
  · exact kind_known x w h
  · rw [(kindRow_else x h).2]
    exact kind_else x w h

end Go.Proofs.Ytoljdgfbkebgcaa
namespace Go.Proofs.Ytoljdgfbkebgcaa
open Go.RowKit
set_option linter.unusedVariables false
def IsKind (s : ByteArray) : Prop := s = kDat ∨ s = kIni ∨ s = kSac ∨ s = kHea ∨ s = kErr ∨ s = kShu ∨ s = kAck ∨ s = kCoo ∨ s = kEmp ∨ s = kUnk
theorem kindOf_is (x : Int) : IsKind (kindOf x) := by
  by_cases h : Known x
  · rcases h with rfl | rfl | rfl | rfl | rfl | rfl | rfl | rfl | rfl | rfl | rfl | rfl | rfl <;> simp [IsKind, kindOf]
  · rw [(kindRow_else x h).2]; simp [IsKind]
theorem kind_ne (x : Int) (s : ByteArray) (h : kindOf x ≠ s) (hs : IsKind s) : ((kindOf x).toList == s.toList) = false := by
  have hm := kindOf_is x
  rcases hm with hm | hm | hm | hm | hm | hm | hm | hm | hm | hm <;> rw [hm] at h ⊢ <;>
  rcases hs with hs | hs | hs | hs | hs | hs | hs | hs | hs | hs <;> subst hs <;> first | exact absurd rfl h | (simp [go_sem, kDat, kIni, kSac, kHea, kErr, kShu, kAck, kCoo, kEmp, kUnk])
end Go.Proofs.Ytoljdgfbkebgcaa
namespace Go.Proofs.Ytoljdgfbkebgcaa
open Go.RowKit
set_option linter.unusedVariables false
structure Small (L : Lyr) : Prop where
  nums : L.nums.length ≤ 2147483647
  data : L.data.length ≤ 2147483647
  parts : L.parts.length ≤ 2147483647
  each : ∀ p ∈ L.parts, p.nums.length ≤ 2147483647

set_option maxHeartbeats 1000000 in
theorem same_any {F G : Nat → Prop} (a b : Value) (L : Lyr) (w : World) (ha : LyrV F w a L) (hb : LyrV G w b L) (hs : Small L) :
    Calls Try.prog 34 #[a, b] w fun e w' => e = .returned (.bool true) ∧ Bl w w' := by
  obtain ⟨a0, a1, a2, a3, rfl, ⟨A0, x0, rfl, _, r0⟩, ra1, ra2, ⟨⟨A3, x3, rfl, _, r3⟩, _⟩⟩ := ha
  obtain ⟨b0, b1, b2, b3, rfl, ⟨B0, y0, rfl, _, s0⟩, sb1, sb2, ⟨⟨B3, y3, rfl, _, s3⟩, _⟩⟩ := hb
  have ra1' := ra1
  have ra2' := ra2
  have sb1' := sb1
  have sb2' := sb2
  obtain ⟨A1, x1, rfl, _, _, _⟩ := ra1
  obtain ⟨A2, x2, rfl, _, _, _⟩ := ra2
  obtain ⟨B1, y1, rfl, _, _, _⟩ := sb1
  obtain ⟨B2, y2, rfl, _, _, _⟩ := sb2
  have N0 := hs.nums
  have N1 := hs.data
  have N2 := hs.parts
  have N3 := Lib.hid hs.each
  have R0 := Lib.hid (And.intro r0 s0)
  have R1 := Lib.hid (And.intro ra1' sb1')
  have R2 := Lib.hid (And.intro ra2' sb2')
  have R3 := Lib.hid (And.intro r3 s3)
  clear r0 s0 ra1' sb1' ra2' sb2' r3 s3 hs
  go_enter Try.func34, Try.ntmps34
  go_wp2_with fail
  (with_reducible refine (seq_any _ _ _ _ _ _ _ (R0.out.1.below (by go_grown)) (R0.out.2.below (by go_grown)) N0).mono ?_)
  rintro e w1 ⟨rfl, q1, rfl⟩
  go_wp2_with fail
  (with_reducible refine (eqData_any _ _ _ _ (R1.out.1.below (Bl.drewN (by go_grown) _)) (R1.out.2.below (Bl.drewN (by go_grown) _)) N1).mono ?_)
  rintro e w2 ⟨rfl, hb2⟩
  have B2 : Bl w w2 := Bl.trans (Bl.drewN (by go_grown) _) hb2
  have k1 : Blk w2 w.heap.size _ 35 := Blk.keep hb2 (Blk.same (Blk.alloc (Blk.new w _ _) _) rfl)
  have k2 : Blk w2 (w.heap.size + 1) _ 35 := Blk.keep hb2 (Blk.same (Blk.newAt (w.alloc _) _ _ _ (by simp)) rfl)
  have c1 := k1.cell
  have c2 := k2.cell
  go_wp2_with fail
  (with_reducible refine (eqParts_any _ _ _ _ (R2.out.1.below B2) (R2.out.2.below B2) N2 N3.out).mono ?_)
  rintro e w3 ⟨rfl, hb3⟩
  have c3 := (Blk.keep hb3 k1).cell
  have c4 := (Blk.keep hb3 k2).cell
  have B3 := B2.trans hb3
  go_wp2_with fail
  (with_reducible refine (bequal_any _ _ _ _ _ _ _ _ (R3.out.1.below B3) (R3.out.2.below B3)).mono ?_)
  rintro e w4 ⟨rfl, rfl⟩
  go_wp2_with fail
  go_ret
  exact ⟨rfl, B3⟩
end Go.Proofs.Ytoljdgfbkebgcaa
namespace Go.Proofs.Ytoljdgfbkebgcaa
open Go.RowKit
set_option linter.unusedVariables false
/-- What impl.Read gives where there is no layer. -/
def NotGot (w w' : World) (e : Ending) : Prop := e = .returned (.tuple #[zeroLyr, .bool false]) ∧ Bl w w'
/-- The reference at a kind and bytes: the layer, whether there is one, whether it is told. -/
abbrev SpecAt (s : ByteArray) (l : List Int) (L : Lyr) (ok told : Bool) : Prop :=
  ∀ (A : Option Addr) (n c B : Nat) (w : World), Rd .u8 w A n c l → InF (· < B) A n → B ≤ w.heap.size → Calls Try.prog 43 #[.string s, .slice A n c] w fun e w' => Told B w w' e L ok told
abbrev ReadAt (s : ByteArray) (l : List Int) (L : Lyr) : Prop :=
  ∀ (A : Option Addr) (n c : Nat) (w : World), Rd .u8 w A n c l → Calls Try.prog 33 #[.string s, .slice A n c] w fun e w' => Got w w' e L
abbrev NoReadAt (s : ByteArray) (l : List Int) : Prop :=
  ∀ (A : Option Addr) (n c : Nat) (w : World), Rd .u8 w A n c l → Calls Try.prog 33 #[.string s, .slice A n c] w fun e w' => NotGot w w' e

set_option maxHeartbeats 1000000 in
theorem read_open (s : ByteArray) (l : List Int) (L : Lyr) (ok : Bool) (hs : SpecAt s l L ok false) (A : Option Addr) (n c : Nat) (w : World) (h : Rd .u8 w A n c l) :
    Calls Try.prog 30 #[.string s, .slice A n c] w fun e w' => e = .returned (.bool true) ∧ Bl w w' := by
  have H := Lib.hid (hs A n c w.heap.size w h h.inF (Nat.le_refl _))
  clear hs h
  by_cases h2 : (200 : Int) < (n : Int)
  · go_enter Try.func30, Try.ntmps30
    go_wp2_with fail
    (with_reducible refine H.out.mono ?_)
    rintro e w1 ⟨v, rfl, hL, hb⟩
    obtain ⟨A0, c0, A1, c1, A2, c2, A3, c3, rfl⟩ := hL.form
    clear hL
    go_wp2_with fail
    go_ret
    exact ⟨rfl, hb.trans (by go_grown)⟩
  · go_enter Try.func30, Try.ntmps30
    go_wp2_with fail
    (with_reducible refine H.out.mono ?_)
    rintro e w1 ⟨v, rfl, hL, hb⟩
    obtain ⟨A0, c0, A1, c1, A2, c2, A3, c3, rfl⟩ := hL.form
    clear hL
    go_wp2_with fail
    go_ret
    exact ⟨rfl, hb.trans (by go_grown)⟩
set_option maxHeartbeats 1000000 in
theorem read_long (s : ByteArray) (l : List Int) (L : Lyr) (ok told : Bool) (hs : SpecAt s l L ok told) (A : Option Addr) (n c : Nat) (w : World) (h : Rd .u8 w A n c l) (h2 : 200 < n) :
    Calls Try.prog 30 #[.string s, .slice A n c] w fun e w' => e = .returned (.bool true) ∧ Bl w w' := by
  have H := Lib.hid (hs A n c w.heap.size w h h.inF (Nat.le_refl _))
  clear hs h
  go_enter Try.func30, Try.ntmps30
  go_wp2_with fail
  (with_reducible refine H.out.mono ?_)
  rintro e w1 ⟨v, rfl, hL, hb⟩
  obtain ⟨A0, c0, A1, c1, A2, c2, A3, c3, rfl⟩ := hL.form
  clear hL
  go_wp2_with fail
  go_ret
  exact ⟨rfl, hb.trans (by go_grown)⟩
set_option maxHeartbeats 1000000 in
theorem read_none (s : ByteArray) (l : List Int) (L : Lyr) (hs : SpecAt s l L false true) (hr : NoReadAt s l) (A : Option Addr) (n c : Nat) (w : World) (h : Rd .u8 w A n c l) (hn : n ≤ 200) :
    Calls Try.prog 30 #[.string s, .slice A n c] w fun e w' => e = .returned (.bool true) ∧ Bl w w' := by
  have H := Lib.hid (hs A n c w.heap.size w h h.inF (Nat.le_refl _))
  have R := Lib.hid h
  have HR := Lib.hid hr
  clear hs h hr
  go_enter Try.func30, Try.ntmps30
  go_wp2_with fail
  (with_reducible refine H.out.mono ?_)
  rintro e w1 ⟨v, rfl, hL, hb⟩
  obtain ⟨A0, c0, A1, c1, A2, c2, A3, c3, rfl⟩ := hL.form
  clear hL
  go_wp2_with fail
  (with_reducible refine (HR.out _ _ _ _ (R.out.below (hb.trans (by go_grown)))).mono ?_)
  rintro e w2 ⟨rfl, hb2⟩
  unfold zeroLyr
  go_wp2_with fail
  (with_reducible refine (alive_any _).mono ?_)
  rintro e w3 ⟨rfl, hb3⟩
  go_wp2_with fail
  go_ret
  exact ⟨rfl, (hb.trans (Bl.trans (by go_grown) hb2)).trans (Bl.trans (by go_grown) hb3)⟩
set_option maxHeartbeats 1000000 in
theorem read_some (s : ByteArray) (l : List Int) (L : Lyr) (hs : SpecAt s l L true true) (hr : ReadAt s l L) (hsm : Small L) (A : Option Addr) (n c : Nat) (w : World) (h : Rd .u8 w A n c l) (hn : n ≤ 200) :
    Calls Try.prog 30 #[.string s, .slice A n c] w fun e w' => e = .returned (.bool true) ∧ Bl w w' := by
  have H := Lib.hid (hs A n c w.heap.size w h h.inF (Nat.le_refl _))
  have R := Lib.hid h
  have HR := Lib.hid hr
  have HS := Lib.hid hsm
  clear hs h hr hsm
  go_enter Try.func30, Try.ntmps30
  go_wp2_with fail
  (with_reducible refine H.out.mono ?_)
  rintro e w1 ⟨v, rfl, hL, hb⟩
  obtain ⟨A0, c0, A1, c1, A2, c2, A3, c3, rfl⟩ := hL.form
  have HL := Lib.hid hL
  clear hL
  go_wp2_with fail
  (with_reducible refine (HR.out _ _ _ _ (R.out.below (hb.trans (by go_grown)))).mono ?_)
  rintro e w2 ⟨v, rfl, hL2, hb2⟩
  obtain ⟨A4, c4, A5, c5, A6, c6, A7, c7, rfl⟩ := hL2.form
  have HL2 := Lib.hid hL2
  clear hL2
  have k1 := Blk.keep hb2 (Blk.new w1 _ _)
  have d1 := k1.cell
  have z1 := k1.lt
  go_wp2_with fail
  (with_reducible refine (same_any _ _ L _ (LyrV.below HL2.out (by go_grown)) (LyrV.below HL.out ((Bl.trans (by go_grown) hb2).trans (by go_grown))) HS.out).mono ?_)
  rintro e w3 ⟨rfl, hb3⟩
  go_wp2_with fail
  (with_reducible refine (alive_any _).mono ?_)
  rintro e w4 ⟨rfl, hb4⟩
  go_wp2_with fail
  go_ret
  exact ⟨rfl, ((hb.trans (Bl.trans (by go_grown) hb2)).trans (Bl.trans (by go_grown) hb3)).trans hb4⟩
/-- The law for any kind. -/
theorem read_any (s : ByteArray) (l : List Int) (L : Lyr) (ok told : Bool) (hs : SpecAt s l L ok told) (hr : told = true → ok = true → l.length ≤ 200 → ReadAt s l L ∧ Small L) (hnr : told = true → ok = false → l.length ≤ 200 → NoReadAt s l)
    (A : Option Addr) (n c : Nat) (w : World) (h : Rd .u8 w A n c l) :
    Calls Try.prog 30 #[.string s, .slice A n c] w fun e w' => e = .returned (.bool true) ∧ Bl w w' := by
  have hl := h.len
  by_cases h2 : 200 < n
  · exact read_long s l L ok told hs A n c w h h2
  · cases told with
    | false => exact read_open s l L ok hs A n c w h
    | true =>
      cases ok with
      | false => exact read_none s l L hs (hnr rfl rfl (by omega)) A n c w h (by omega)
      | true =>
        obtain ⟨h3, h4⟩ := hr rfl rfl (by omega)
        exact read_some s l L hs h3 h4 A n c w h (by omega)
end Go.Proofs.Ytoljdgfbkebgcaa
namespace Go.Proofs.Ytoljdgfbkebgcaa
open Go.RowKit
set_option linter.unusedVariables false
/-! ### decoded, and that what it gives is new -/
theorem bclone_new (A : Option Addr) (n c : Nat) (l : List Int) (w : World) (h : Rd .u8 w A n c l) (hn : n ≤ 2147483647) :
    Calls Try.prog 42 #[.slice A n c] w fun e w' => (∃ A1 c1, e = .returned (.slice A1 n c1) ∧ Rd .u8 w' A1 n c1 l ∧ InF (fun k => w.heap.size ≤ k) A1 n) ∧ Bl w w' := by
  cases A with
  | none =>
    have h0 : n = 0 := by
      rcases Nat.eq_zero_or_pos n with h0 | h0
      · exact h0
      · obtain ⟨g, o, e, _⟩ := h.cell 0 h0
        simp at e
    subst h0
    have hl : l = [] := List.eq_nil_of_length_eq_zero h.len
    subst hl
    exact (bclone_nil c w).mono fun e w' ⟨he, hw⟩ => ⟨⟨none, 0, he, Rd.nil _ _ _ _, InF.zero _ _⟩, Bl.of_same hw⟩
  | some ad =>
    have hq := fun W : World => Lib.run_eql_slice_nil (P := Try.prog) W 24 5 (some ad) n c 0 0 Try.underlying24
    have hs := h.src
    have HS := Lib.hid hs
    clear hs h
    go_enter Try.func42, Try.ntmps42
    go_wp2_with (at_builtin; refine wpList_app rfl _ _ 24 5 (.int .u8 0) 1 1 w.heap.size rfl Try.underlying24 info5 rfl (by decide) (by decide) (.slice (some ⟨w.heap.size, 0, none⟩) 0 0) 0 [] _ _ _ _ rfl rfl ?_ (Src.alloc HS.out _) (by omega) ?_ ?_; exact World.ownsRow_lit w #[] 0 (Nat.le_refl _) (by decide) rfl; simp; intro A1 c1 w1 hp)
    go_ret
    have ho : w1.ownsRow w.heap.size 5 1 (.slice A1 n c1) n (l.map (Value.int .u8)) := by simpa using hp.own
    have hI : InF (fun k => w.heap.size ≤ k) A1 n := own_inF ho (fun k h _ => h) n
    obtain ⟨A2, c2, e, hr⟩ := own_rd ho
    simp only [Value.slice.injEq] at e
    obtain ⟨rfl, -, rfl⟩ := e
    exact ⟨⟨_, _, rfl, hr, hI⟩, hp.bl (World.ownsRow_lit w #[] 0 (Nat.le_refl _) (by decide) rfl) (by go_grown)⟩
theorem decodedN_ok (s : ByteArray) (l : List Int) (T E : TypeId) (cells : Option Addr → Nat → Nat → Array Value) (hn : l.length ≤ 2000) (hc : CallAt s l true) (hz : ZzOk s l T E cells) (A : Option Addr) (n c : Nat) (w : World) (h : Rd .u8 w A n c l) :
    Calls Try.prog 48 #[.string s, .slice A n c] w fun e w' =>
      ∃ A1 c1 gl, e = .returned (.tuple #[.iface T (.pointer (some ⟨gl, 0, none⟩)), .bool true]) ∧ Obj1 w w' gl E (cells A1 n c1) ∧ Rd .u8 w' A1 n c1 l ∧ InF (fun k => w.heap.size ≤ k) A1 n := by
  have hlen := h.len
  have h5 : n ≤ 2000 := by omega
  have H := Lib.hid h
  have HC := Lib.hid hc
  have HZ := Lib.hid hz
  clear h hlen hn hc hz
  go_enter Try.func48, Try.ntmps48
  go_wp2_with fail
  (with_reducible refine (HC.out _ _ _ _ H.out).mono ?_)
  rintro e w1 ⟨rfl, hb0⟩
  go_wp2_with fail
  (with_reducible refine (bclone_new _ _ _ _ _ (H.out.below hb0) (by omega)).mono ?_)
  rintro e w2 ⟨⟨A1, c1, rfl, r1, i1⟩, hb1⟩
  have R1 := Lib.hid r1
  clear r1
  go_wp2_with fail
  (with_reducible refine (HZ.out _ _ _ _ R1.out).mono ?_)
  rintro e w3 ⟨gl, rfl, ho⟩
  have O := Lib.hid ho
  clear ho
  go_wp2_with fail
  go_quiet (fail)
  go_wp2_with fail
  go_ret2
  exact ⟨A1, c1, gl, rfl, ⟨((hb0.trans hb1).trans O.out.bl).drewN _, O.out.layer.same rfl⟩, (R1.out.below O.out.bl).below ((Bl.refl _).drewN _), i1.mono fun _ hk => Nat.le_trans hb0.size hk⟩
theorem decodedNP_ok (s : ByteArray) (l : List Int) (T : TypeId) (Φ : Option Addr → Nat → Nat → World → Nat → Prop) (hΦ : ∀ A n c w w' gl, Φ A n c w gl → Bl w w' → Φ A n c w' gl) (hn : l.length ≤ 2000) (hc : CallAt s l true) (hz : ZzOkP s l T Φ) (A : Option Addr) (n c : Nat) (w : World) (h : Rd .u8 w A n c l) :
    Calls Try.prog 48 #[.string s, .slice A n c] w fun e w' =>
      ∃ A1 c1 gl, e = .returned (.tuple #[.iface T (.pointer (some ⟨gl, 0, none⟩)), .bool true]) ∧ Bl w w' ∧ Φ A1 n c1 w' gl ∧ Rd .u8 w' A1 n c1 l ∧ InF (fun k => w.heap.size ≤ k) A1 n := by
  have hlen := h.len
  have h5 : n ≤ 2000 := by omega
  have H := Lib.hid h
  have HC := Lib.hid hc
  have HZ := Lib.hid hz
  have HF := Lib.hid hΦ
  clear h hlen hn hc hz hΦ
  go_enter Try.func48, Try.ntmps48
  go_wp2_with fail
  (with_reducible refine (HC.out _ _ _ _ H.out).mono ?_)
  rintro e w1 ⟨rfl, hb0⟩
  go_wp2_with fail
  (with_reducible refine (bclone_new _ _ _ _ _ (H.out.below hb0) (by omega)).mono ?_)
  rintro e w2 ⟨⟨A1, c1, rfl, r1, i1⟩, hb1⟩
  have R1 := Lib.hid r1
  clear r1
  go_wp2_with fail
  (with_reducible refine (HZ.out _ _ _ _ R1.out).mono ?_)
  rintro e w3 ⟨gl, rfl, hb3, ho⟩
  have O := Lib.hid ho
  clear ho
  go_wp2_with fail
  go_quiet (fail)
  go_wp2_with fail
  go_ret2
  exact ⟨A1, c1, gl, rfl, ((hb0.trans hb1).trans hb3).drewN _, HF.out _ _ _ _ _ _ O.out ((Bl.refl _).drewN _), (R1.out.below hb3).below ((Bl.refl _).drewN _), i1.mono fun _ hk => Nat.le_trans hb0.size hk⟩
/-- LayerContents and LayerPayload, called on a pointer to a type. -/
structure MethAt (T : TypeId) : Prop where
  con : ∀ (a : Addr) (w : World), (method 307 T (.pointer (some a)) "LayerContents").run Try.prog w = .ok (109, .pointer (some a)) w
  pay : ∀ (a : Addr) (w : World), (method 307 T (.pointer (some a)) "LayerPayload").run Try.prog w = .ok (110, .pointer (some a)) w
theorem meth90 : MethAt 90 := ⟨fun _ _ => by kernel_rfl, fun _ _ => by kernel_rfl⟩
theorem meth97 : MethAt 97 := ⟨fun _ _ => by kernel_rfl, fun _ _ => by kernel_rfl⟩
theorem meth105 : MethAt 105 := ⟨fun _ _ => by kernel_rfl, fun _ _ => by kernel_rfl⟩
theorem meth115 : MethAt 115 := ⟨fun _ _ => by kernel_rfl, fun _ _ => by kernel_rfl⟩
theorem meth120 : MethAt 120 := ⟨fun _ _ => by kernel_rfl, fun _ _ => by kernel_rfl⟩
theorem meth125 : MethAt 125 := ⟨fun _ _ => by kernel_rfl, fun _ _ => by kernel_rfl⟩
theorem meth130 : MethAt 130 := ⟨fun _ _ => by kernel_rfl, fun _ _ => by kernel_rfl⟩
theorem meth133 : MethAt 133 := ⟨fun _ _ => by kernel_rfl, fun _ _ => by kernel_rfl⟩
theorem meth136 : MethAt 136 := ⟨fun _ _ => by kernel_rfl, fun _ _ => by kernel_rfl⟩
theorem meth139 : MethAt 139 := ⟨fun _ _ => by kernel_rfl, fun _ _ => by kernel_rfl⟩
/-- A chunk's own bytes, and what stands behind them (of data: its head, and its data). -/
def conOf (l : List Int) : List Int := if l.getD 0 0 = 0 then sub l 0 16 else sub l 0 (up4 (chL l))
def payOf (l : List Int) : List Int := if l.getD 0 0 = 0 then sub l 16 (chL l) else sub l (up4 (chL l)) l.length
/-- What decoded gives: an object whose first two fields are these. -/
def DecAt (l : List Int) : Prop :=
  ∀ (A : Option Addr) (n c : Nat) (w : World), Rd .u8 w A n c l → Calls Try.prog 48 #[.string (kindOf (l.getD 0 0)), .slice A n c] w fun e w' =>
    ∃ T gl E cs A0 n0 c0 A1 n1 c1, e = .returned (.tuple #[.iface T (.pointer (some ⟨gl, 0, none⟩)), .bool true]) ∧ MethAt T ∧ Bl w w' ∧ Blk w' gl cs E ∧ (E ≠ 35 ∧ E ≠ 57) ∧ cs[0]? = some (.slice A0 n0 c0) ∧ cs[1]? = some (.slice A1 n1 c1) ∧
      Rd .u8 w' A0 n0 c0 (conOf l) ∧ Rd .u8 w' A1 n1 c1 (payOf l) ∧ InF (fun k => w.heap.size ≤ k) A1 n1
structure Chunk (l : List Int) (L : Lyr) : Prop where
  low : 4 ≤ chL l
  up : up4 (chL l) ≤ l.length
  nums : ∃ t, L.nums = l.getD 0 0 :: l.getD 1 0 :: be (sub l 2 4) :: t
  dat : l.getD 0 0 = 0 → up4 (chL l) = l.length ∧ 17 ≤ chL l ∧ L.payload = sub l 16 (chL l)
  dec : l.length ≤ 2000 → DecAt l
/-- What the reference says of a chunk, and what then holds. -/
def KindAt (l : List Int) : Prop := ∃ L ok told, SpecAt (kindOf (l.getD 0 0)) l L ok told ∧ (ok = true → told = true → Chunk l L)
theorem KindAt.no {l : List Int} {s : ByteArray} (hk : kindOf (l.getD 0 0) = s) (L : Lyr) (ok told : Bool) (h : SpecAt s l L ok told) (hn : (ok && told) = false) : KindAt l :=
  ⟨L, ok, told, by rw [hk]; exact h, fun h1 h2 => by rw [h1, h2] at hn; cases hn⟩
theorem Obj1.dec {l : List Int} {n : Nat} {w w' : World} {e : Ending} {T E : TypeId} {K : Nat} {cs : Array Value} {A1 : Option Addr} {c1 gl : Nat} (h0 : l.getD 0 0 ≠ 0) (hK : K = up4 (chL l)) (hup : K ≤ l.length) (hn : n = l.length)
    (he : e = .returned (.tuple #[.iface T (.pointer (some ⟨gl, 0, none⟩)), .bool true])) (hT : MethAt T) (hb : Bl w w') (hl : Blk w' gl cs E) (hE : E ≠ 35 ∧ E ≠ 57) (hc0 : cs[0]? = some (.slice A1 K c1)) (hc1 : cs[1]? = some (.slice (cutA A1 c1 K) (n - K) (c1 - K))) (hr : Rd .u8 w' A1 n c1 l) (hI : InF (fun k => w.heap.size ≤ k) A1 n) :
    ∃ T gl E cs A0 n0 c0 A1 n1 c1, e = .returned (.tuple #[.iface T (.pointer (some ⟨gl, 0, none⟩)), .bool true]) ∧ MethAt T ∧ Bl w w' ∧ Blk w' gl cs E ∧ (E ≠ 35 ∧ E ≠ 57) ∧ cs[0]? = some (.slice A0 n0 c0) ∧ cs[1]? = some (.slice A1 n1 c1) ∧
      Rd .u8 w' A0 n0 c0 (conOf l) ∧ Rd .u8 w' A1 n1 c1 (payOf l) ∧ InF (fun k => w.heap.size ≤ k) A1 n1 := by
  subst hn
  refine ⟨T, gl, E, cs, A1, K, c1, _, _, _, he, hT, hb, hl, hE, hc0, hc1, ?_, ?_, ?_⟩
  · rw [conOf, if_neg h0, ← hK]; exact hr.cut0 K hup
  · rw [payOf, if_neg h0, ← hK]; exact hr.cut K l.length hup (Nat.le_refl _)
  · exact cutA_inF hI (fun _ => by omega)
end Go.Proofs.Ytoljdgfbkebgcaa
