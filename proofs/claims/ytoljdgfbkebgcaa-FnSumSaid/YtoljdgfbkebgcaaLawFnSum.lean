/- A header is written with both ports and the tag, and with the sum CRC-32C, the lowest byte first, over all of the packet with 0 in its place, if that is asked for, else with 0, for every header and every bytes behind it (nothing is said of more than 300 bytes behind). No conditions. -/
import Derived.Test.YtoljdgfbkebgcaaRows
import Derived.WalkKit
import Derived.ProofKit
import Derived.OpenShut
import Derived.ShutString
import Derived.ChangeOld
import Derived.Below
import Derived.JoinedOf
import Derived.Test.YtoljdgfbkebgcaaHead
import Derived.Test.YtoljdgfbkebgcaaSum
import Derived.Test.YtoljdgfbkebgcaaArg
namespace Go.Proofs.Ytoljdgfbkebgcaa.fnSum
open Go.ChangeShapes Go.WideShapes Go.ChangeAt Go.RowKit
open Go.ChangeMaps (open_string shut_string)
set_option linter.unusedVariables false

theorem own : ownKnob Try.prog.godebug = none := by kernel_rfl
theorem laidOut : laidOutB Try.prog = true := by kernel_rfl

theorem walk (a0 : Int) (a1 : Int) (a2 : Int) (a3 : Option Addr) (len3 cap3 : Nat) (z3 : List Int) (a4 : Bool) (w : World) (w0 : (Lit.int .u16 a0).wf = true) (w1 : (Lit.int .u16 a1).wf = true) (w2 : (Lit.int .u32 a2).wf = true) (w3 : IsRow .u8 w a3 len3 cap3 z3) :
    Calls Try.prog 3 #[.int .u16 a0, .int .u16 a1, .int .u32 a2, .slice a3 len3 cap3, .bool a4] w fun e w' => e = .returned (.bool true) ∧ Below w.heap.size w w' := by
  obtain ⟨h, hl⟩ := w3.rd
  exact sum_law a3 len3 cap3 (z3.take len3) a0 a1 a2 a4 w h w0 w1 w2

set_option maxRecDepth 100000 in
theorem lifted (os : Os) (started : os.Started) (H : Type) (enc : TypeId × Value → H) :
    ReturnsInHanded {} Try.checked os 3 .any (Rows.fnSumSpec.pre6 enc Try.prog Try.f3 Rows.fnSumRow.domain false) (Rows.fnSumSpec.post enc Try.prog Try.f3 false true false false) := by
  refine returnsInHanded_of_change (C := Try.checked) own started (by kernel_rfl) Try.func3
    (ChangeSpec.witness6 (enc := enc) (C := Try.checked) false ⟨#[], #[.int .u16 0, .int .u16 0, .int .u32 0, .slice none 0 0, .bool false], []⟩ 8 (by kernel_rfl) (by kernel_rfl) (by kernel_rfl) (by kernel_rfl)) ?_
  intro W base args ds gs before hval0 hW hcnd _
  have hval : ∀ (j : Nat) t v, Try.f3.params[j]? = some t → args[j]? = some v → Value.okWide Try.prog W .any base t v := hval0
  have hW' := hW
  obtain ⟨p, q, hA0, hV, rfl, hfz, hnd⟩ := hW
  have hA : DataW.TrodAll enc Try.prog W 0 (fun _ => true) true Try.f3.params.toList args.toList ds p := hA0
  rw [Try.params3] at hA hval
  obtain ⟨v0, vs0, d0, ds0, p0, q0, hargs, rfl, rfl, h0, r0⟩ := trodAll_cons hA
  obtain ⟨v1, vs1, d1, ds1, p1, q1, rfl, rfl, rfl, h1, r1⟩ := trodAll_cons r0
  obtain ⟨v2, vs2, d2, ds2, p2, q2, rfl, rfl, rfl, h2, r2⟩ := trodAll_cons r1
  obtain ⟨v3, vs3, d3, ds3, p3, q3, rfl, rfl, rfl, h3, r3⟩ := trodAll_cons r2
  obtain ⟨v4, vs4, d4, ds4, p4, q4, rfl, rfl, rfl, h4, r4⟩ := trodAll_cons r3
  obtain ⟨rfl, rfl, rfl⟩ := trodAll_nil r4
  obtain rfl : args = #[v0, v1, v2, v3, v4] := by cases args; simp_all
  obtain ⟨rfl, rfl⟩ := trodVars_none hV
  obtain ⟨a0, rfl, rfl, rfl, w0⟩ := open_int Try.underlying22 (hval 0 22 v0 rfl rfl) h0
  obtain ⟨a1, rfl, rfl, rfl, w1⟩ := open_int Try.underlying22 (hval 1 22 v1 rfl rfl) h1
  obtain ⟨a2, rfl, rfl, rfl, w2⟩ := open_int Try.underlying23 (hval 2 23 v2 rfl rfl) h2
  obtain ⟨a3, len3, cap3, rfl⟩ := okWide_slice Try.underlying24 (hval 3 24 v3 rfl rfl)
  have k3 := h3
  have lt3 : ∀ x ∈ p3, x.block < W.heap.size := by obtain ⟨m, hm⟩ := k3; exact DataW.trod_lt m _ _ _ hm
  obtain ⟨z3, w3⟩ : ∃ zs, IsRow .u8 W a3 len3 cap3 zs := by
    obtain ⟨fuel, hf⟩ := h3
    rcases open_ints Try.underlying24 Try.underlying5 (by kernel_rfl) hf with ⟨hcs, _⟩ | ⟨x, l, c, zs, hcs, _, hl, hm, hz, _, hcell, hwz⟩
    · simp [Value.cells] at hcs
      obtain ⟨rfl, rfl, rfl⟩ := hcs
      exact ⟨[], .inl ⟨rfl, rfl, rfl, rfl⟩⟩
    · simp [Value.cells] at hcs
      obtain ⟨rfl, rfl, rfl⟩ := hcs
      exact ⟨zs, .inr ⟨_, rfl, hl, hm, by simpa using hz, hcell, hwz⟩⟩
  obtain ⟨a4, rfl, rfl, rfl⟩ := open_bool Try.underlying4 (hval 4 4 v4 rfl rfl) h4
  clear hA0 hval0
  refine (walk a0 a1 a2 a3 len3 cap3 z3 a4 W w0 w1 w2 w3).mono fun e W' ⟨he, bel⟩ => ?_
  subst he
  exact ⟨_, rfl, _, _, _, [], _, [], hW', trodAll_mk1 (shut_bool Try.underlying4 _), (trodAll_cons_mk (shut_int Try.underlying22 w0) (trodAll_cons_mk (shut_int Try.underlying22 w1) (trodAll_cons_mk (shut_int Try.underlying23 w2) (trodAll_cons_mk (Below.trod laidOut (by kernel_rfl) (of_decide_eq_true (by kernel_rfl)) k3 bel lt3) (trodAll_cons_mk (shut_bool Try.underlying4 _) trodAll_mk0))))), rfl, bel.frame _, fun h => by cases h⟩

theorem cf0 : (Rows.fnSumRow.wf (OpenSpec.ofChange Rows.fnSumSpec)) = true := by kernel_rfl
theorem cf3 : (Try.f3.params.all (Try.pinned.checked.prog.readableRec ·)) = true := by kernel_rfl
theorem cf4 : (namedTie Try.pinned.checked.prog Rows.fnSumRow.named Rows.fnSumSpec.vars) = true := by kernel_rfl
theorem cf5 : Rows.fnSumRow.stops = [] := by kernel_rfl
theorem cf7 : Rows.fnSumRow.knobs = [] := by kernel_rfl
theorem cf9 : Rows.fnSumRow.inPlace = Try.pinned.checked.prog.inPlace 3 := by kernel_rfl
theorem cf10 : Rows.fnSumRow.unfollowed = Try.pinned.checked.prog.unfollowed 3 := by kernel_rfl
theorem cf11 : Rows.fnSumRow.recurses = Try.pinned.checked.prog.recurses 3 := by kernel_rfl
theorem cf12 : Rows.fnSumRow.named = Try.pinned.checked.prog.varsNamed 3 := by kernel_rfl
theorem cf13 : Rows.fnSumRow.maps = (Try.f3.params.toList ++ Rows.fnSumSpec.plain.varTypes Try.pinned.checked.prog).any (Try.pinned.checked.prog.mapsRec ·) := by kernel_rfl
theorem cf14 : Rows.fnSumRow.ifaces = (Try.f3.params.toList ++ Rows.fnSumSpec.plain.varTypes Try.pinned.checked.prog).any (Try.pinned.checked.prog.ifacesRec ·) := by kernel_rfl
theorem cf15 : Rows.fnSumRow.mapsOut = Try.pinned.checked.prog.mapsAmong Try.f3.resultTypes.toList := by kernel_rfl
theorem cf16 : Rows.fnSumRow.loops = (Try.f3.params.toList ++ Rows.fnSumSpec.plain.varTypes Try.pinned.checked.prog).any (Try.pinned.checked.prog.loopsFrom ·) := by kernel_rfl
theorem cf17 : Rows.fnSumRow.wideKeys = (Try.f3.params.toList ++ Rows.fnSumSpec.plain.varTypes Try.pinned.checked.prog ++ Try.f3.resultTypes.toList).any (Try.pinned.checked.prog.wideKeysFrom ·) := by kernel_rfl
theorem cf18 : (Rows.fnSumSpec.vars.all (Try.pinned.checked.prog.varReadable ·)) = true := by kernel_rfl
theorem cf19 : (Try.f3.resultTypes.all (fun t => Try.pinned.checked.prog.readableRec t && decide (t < Try.pinned.checked.prog.types.size))) = true := by kernel_rfl
theorem cf20 : Rows.fnSumRow.ifacesOut = Try.f3.resultTypes.toList.any (Try.pinned.checked.prog.ifacesRec ·) := by kernel_rfl
theorem cf21 : Rows.fnSumRow.loopsOut = Try.f3.resultTypes.toList.any (Try.pinned.checked.prog.loopsFrom ·) := by kernel_rfl
theorem cf22 : Rows.fnSumRow.plainKeys = Try.pinned.checked.prog.plainKeys := by kernel_rfl
theorem cf23 : (Rows.fnSumRow.shortTexts.isNone) = true := by kernel_rfl
theorem cf29 : Rows.fnSumRow.pinned = Rows.fnSumRow.pinnedBy := by kernel_rfl
theorem cf30 : Rows.fnSumRow.veiled = (Try.f3.params.toList ++ Rows.fnSumSpec.plain.varTypes Try.pinned.checked.prog ++ Try.f3.resultTypes.toList).any (Try.pinned.checked.prog.veiledRec ·) := by kernel_rfl
theorem cf31 : (Rows.fnSumRow.veiledFits Try.pinned.checked.prog Try.f3.params.toList (Try.f3.params.toList ++ Rows.fnSumSpec.plain.varTypes Try.pinned.checked.prog ++ Try.f3.resultTypes.toList)) = true := by kernel_rfl
theorem cf26 : Rows.fnSumRow.lifted = Try.pinned.checked.prog.liftsFinal := (show Rows.fnSumRow.lifted = false by kernel_rfl).trans fact_liftsFinal.symm
theorem cf27 : Try.pinned.checked.prog.make = some Rows.fnSumRow.make := fact_make.trans (by kernel_rfl)
theorem closed_ : joinedFacts Try.pinned.checked.prog 3 Try.f3 Rows.fnSumSpec Rows.fnSumRow = true := by
  simp only [joinedFacts, Bool.and_eq_true, beq_iff_eq]
  exact ⟨⟨⟨⟨⟨⟨⟨⟨⟨⟨⟨⟨⟨⟨⟨⟨⟨⟨⟨⟨⟨⟨⟨⟨⟨⟨⟨⟨⟨⟨⟨cf0, fact_laidOut⟩, fact_mapsRowed⟩, cf3⟩, cf4⟩, cf5⟩, fact_stops⟩, cf7⟩, fact_knobs⟩, cf9⟩, cf10⟩, cf11⟩, cf12⟩, cf13⟩, cf14⟩, cf15⟩, cf16⟩, cf17⟩, cf18⟩, cf19⟩, cf20⟩, cf21⟩, cf22⟩, cf23⟩, fact_stopsHeard⟩, fact_mayEnter⟩, cf26⟩, cf27⟩, (by kernel_rfl)⟩, cf29⟩, cf30⟩, cf31⟩
theorem over : Rows.fnSumRow.holds Try.pinned (OpenSpec.ofChange Rows.fnSumSpec) :=
  OpenClaim.holds_of_wide 3 Try.f3 rfl rfl rfl rfl rfl rfl rfl ⟨rfl, rfl, rfl, rfl, rfl⟩ rfl rfl rfl rfl rfl (by kernel_rfl) Try.func3 closed_
    (of_decide_eq_true (by kernel_rfl)) (by unfold Func.isWrapper; first | (rw [if_pos (by decide +kernel)]; kernel_rfl) | (rw [if_neg (by decide +kernel)]; exact ⟨rfl, rfl⟩))
    (fun os started H enc _ => lifted os started H enc)

end Go.Proofs.Ytoljdgfbkebgcaa.fnSum
namespace Go.Proofs.Ytoljdgfbkebgcaa
theorem fnSum_holds : Rows.FnSumSaid := fnSum.over
#print axioms fnSum_holds
end Go.Proofs.Ytoljdgfbkebgcaa
