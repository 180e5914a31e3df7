/- A chunk that acknowledges, without gaps, that is read is written as the bytes that it was, for every input (nothing is said of more than 200 bytes, of another first byte, of what the reference leaves open, nor where something stands behind or what fills it up is not 0). No conditions. -/
import Derived.Test.YtoljdgfbkebgcaaRows
import Derived.WalkKit
import Derived.ProofKit
import Derived.OpenShut
import Derived.ShutString
import Derived.ChangeOld
import Derived.Below
import Derived.JoinedOf
import Derived.Test.YtoljdgfbkebgcaaHead
import Derived.Test.YtoljdgfbkebgcaaFaSac
import Derived.Test.YtoljdgfbkebgcaaArg
namespace Go.Proofs.Ytoljdgfbkebgcaa.fnAgainSack
open Go.ChangeShapes Go.WideShapes Go.ChangeAt Go.RowKit
open Go.ChangeMaps (open_string shut_string)
set_option linter.unusedVariables false

theorem own : ownKnob Try.prog.godebug = none := by kernel_rfl
theorem laidOut : laidOutB Try.prog = true := by kernel_rfl

theorem walk (a0 : Option Addr) (len0 cap0 : Nat) (z0 : List Int) (a1 : Bool) (w : World) (w0 : IsRow .u8 w a0 len0 cap0 z0) :
    Calls Try.prog 5 #[.slice a0 len0 cap0, .bool a1] w fun e w' => e = .returned (.bool true) ∧ Below w.heap.size w w' := by
  obtain ⟨h, hl⟩ := w0.rd
  exact Sac_alaw a0 len0 cap0 (z0.take len0) _ w h hl

set_option maxRecDepth 100000 in
theorem lifted (os : Os) (started : os.Started) (H : Type) (enc : TypeId × Value → H) :
    ReturnsInHanded {} Try.checked os 5 .any (Rows.fnAgainSackSpec.pre6 enc Try.prog Try.f5 Rows.fnAgainSackRow.domain false) (Rows.fnAgainSackSpec.post enc Try.prog Try.f5 false true false false) := by
  refine returnsInHanded_of_change (C := Try.checked) own started (by kernel_rfl) Try.func5
    (ChangeSpec.witness6 (enc := enc) (C := Try.checked) false ⟨#[], #[.slice none 0 0, .bool false], []⟩ 8 (by kernel_rfl) (by kernel_rfl) (by kernel_rfl) (by kernel_rfl)) ?_
  intro W base args ds gs before hval0 hW hcnd _
  have hval : ∀ (j : Nat) t v, Try.f5.params[j]? = some t → args[j]? = some v → Value.okWide Try.prog W .any base t v := hval0
  have hW' := hW
  obtain ⟨p, q, hA0, hV, rfl, hfz, hnd⟩ := hW
  have hA : DataW.TrodAll enc Try.prog W 0 (fun _ => true) true Try.f5.params.toList args.toList ds p := hA0
  rw [Try.params5] at hA hval
  obtain ⟨v0, vs0, d0, ds0, p0, q0, hargs, rfl, rfl, h0, r0⟩ := trodAll_cons hA
  obtain ⟨v1, vs1, d1, ds1, p1, q1, rfl, rfl, rfl, h1, r1⟩ := trodAll_cons r0
  obtain ⟨rfl, rfl, rfl⟩ := trodAll_nil r1
  obtain rfl : args = #[v0, v1] := by cases args; simp_all
  obtain ⟨rfl, rfl⟩ := trodVars_none hV
  obtain ⟨a0, len0, cap0, rfl⟩ := okWide_slice Try.underlying24 (hval 0 24 v0 rfl rfl)
  have k0 := h0
  have lt0 : ∀ x ∈ p0, x.block < W.heap.size := by obtain ⟨m, hm⟩ := k0; exact DataW.trod_lt m _ _ _ hm
  obtain ⟨z0, w0⟩ : ∃ zs, IsRow .u8 W a0 len0 cap0 zs := by
    obtain ⟨fuel, hf⟩ := h0
    rcases open_ints Try.underlying24 Try.underlying5 (by kernel_rfl) hf with ⟨hcs, _⟩ | ⟨x, l, c, zs, hcs, _, hl, hm, hz, _, hcell, hwz⟩
    · simp [Value.cells] at hcs
      obtain ⟨rfl, rfl, rfl⟩ := hcs
      exact ⟨[], .inl ⟨rfl, rfl, rfl, rfl⟩⟩
    · simp [Value.cells] at hcs
      obtain ⟨rfl, rfl, rfl⟩ := hcs
      exact ⟨zs, .inr ⟨_, rfl, hl, hm, by simpa using hz, hcell, hwz⟩⟩
  obtain ⟨a1, rfl, rfl, rfl⟩ := open_bool Try.underlying4 (hval 1 4 v1 rfl rfl) h1
  clear hA0 hval0
  refine (walk a0 len0 cap0 z0 a1 W w0).mono fun e W' ⟨he, bel⟩ => ?_
  subst he
  exact ⟨_, rfl, _, _, _, [], _, [], hW', trodAll_mk1 (shut_bool Try.underlying4 _), (trodAll_cons_mk (Below.trod laidOut (by kernel_rfl) (of_decide_eq_true (by kernel_rfl)) k0 bel lt0) (trodAll_cons_mk (shut_bool Try.underlying4 _) trodAll_mk0)), rfl, bel.frame _, fun h => by cases h⟩

theorem cf0 : (Rows.fnAgainSackRow.wf (OpenSpec.ofChange Rows.fnAgainSackSpec)) = true := by kernel_rfl
theorem cf3 : (Try.f5.params.all (Try.pinned.checked.prog.readableRec ·)) = true := by kernel_rfl
theorem cf4 : (namedTie Try.pinned.checked.prog Rows.fnAgainSackRow.named Rows.fnAgainSackSpec.vars) = true := by kernel_rfl
theorem cf5 : Rows.fnAgainSackRow.stops = [] := by kernel_rfl
theorem cf7 : Rows.fnAgainSackRow.knobs = [] := by kernel_rfl
theorem cf9 : Rows.fnAgainSackRow.inPlace = Try.pinned.checked.prog.inPlace 5 := by kernel_rfl
theorem cf10 : Rows.fnAgainSackRow.unfollowed = Try.pinned.checked.prog.unfollowed 5 := by kernel_rfl
theorem cf11 : Rows.fnAgainSackRow.recurses = Try.pinned.checked.prog.recurses 5 := by kernel_rfl
theorem cf12 : Rows.fnAgainSackRow.named = Try.pinned.checked.prog.varsNamed 5 := by kernel_rfl
theorem cf13 : Rows.fnAgainSackRow.maps = (Try.f5.params.toList ++ Rows.fnAgainSackSpec.plain.varTypes Try.pinned.checked.prog).any (Try.pinned.checked.prog.mapsRec ·) := by kernel_rfl
theorem cf14 : Rows.fnAgainSackRow.ifaces = (Try.f5.params.toList ++ Rows.fnAgainSackSpec.plain.varTypes Try.pinned.checked.prog).any (Try.pinned.checked.prog.ifacesRec ·) := by kernel_rfl
theorem cf15 : Rows.fnAgainSackRow.mapsOut = Try.pinned.checked.prog.mapsAmong Try.f5.resultTypes.toList := by kernel_rfl
theorem cf16 : Rows.fnAgainSackRow.loops = (Try.f5.params.toList ++ Rows.fnAgainSackSpec.plain.varTypes Try.pinned.checked.prog).any (Try.pinned.checked.prog.loopsFrom ·) := by kernel_rfl
theorem cf17 : Rows.fnAgainSackRow.wideKeys = (Try.f5.params.toList ++ Rows.fnAgainSackSpec.plain.varTypes Try.pinned.checked.prog ++ Try.f5.resultTypes.toList).any (Try.pinned.checked.prog.wideKeysFrom ·) := by kernel_rfl
theorem cf18 : (Rows.fnAgainSackSpec.vars.all (Try.pinned.checked.prog.varReadable ·)) = true := by kernel_rfl
theorem cf19 : (Try.f5.resultTypes.all (fun t => Try.pinned.checked.prog.readableRec t && decide (t < Try.pinned.checked.prog.types.size))) = true := by kernel_rfl
theorem cf20 : Rows.fnAgainSackRow.ifacesOut = Try.f5.resultTypes.toList.any (Try.pinned.checked.prog.ifacesRec ·) := by kernel_rfl
theorem cf21 : Rows.fnAgainSackRow.loopsOut = Try.f5.resultTypes.toList.any (Try.pinned.checked.prog.loopsFrom ·) := by kernel_rfl
theorem cf22 : Rows.fnAgainSackRow.plainKeys = Try.pinned.checked.prog.plainKeys := by kernel_rfl
theorem cf23 : (Rows.fnAgainSackRow.shortTexts.isNone) = true := by kernel_rfl
theorem cf29 : Rows.fnAgainSackRow.pinned = Rows.fnAgainSackRow.pinnedBy := by kernel_rfl
theorem cf30 : Rows.fnAgainSackRow.veiled = (Try.f5.params.toList ++ Rows.fnAgainSackSpec.plain.varTypes Try.pinned.checked.prog ++ Try.f5.resultTypes.toList).any (Try.pinned.checked.prog.veiledRec ·) := by kernel_rfl
theorem cf31 : (Rows.fnAgainSackRow.veiledFits Try.pinned.checked.prog Try.f5.params.toList (Try.f5.params.toList ++ Rows.fnAgainSackSpec.plain.varTypes Try.pinned.checked.prog ++ Try.f5.resultTypes.toList)) = true := by kernel_rfl
theorem cf26 : Rows.fnAgainSackRow.lifted = Try.pinned.checked.prog.liftsFinal := (show Rows.fnAgainSackRow.lifted = false by kernel_rfl).trans fact_liftsFinal.symm
theorem cf27 : Try.pinned.checked.prog.make = some Rows.fnAgainSackRow.make := fact_make.trans (by kernel_rfl)
theorem closed_ : joinedFacts Try.pinned.checked.prog 5 Try.f5 Rows.fnAgainSackSpec Rows.fnAgainSackRow = true := by
  simp only [joinedFacts, Bool.and_eq_true, beq_iff_eq]
  exact ⟨⟨⟨⟨⟨⟨⟨⟨⟨⟨⟨⟨⟨⟨⟨⟨⟨⟨⟨⟨⟨⟨⟨⟨⟨⟨⟨⟨⟨⟨⟨cf0, fact_laidOut⟩, fact_mapsRowed⟩, cf3⟩, cf4⟩, cf5⟩, fact_stops⟩, cf7⟩, fact_knobs⟩, cf9⟩, cf10⟩, cf11⟩, cf12⟩, cf13⟩, cf14⟩, cf15⟩, cf16⟩, cf17⟩, cf18⟩, cf19⟩, cf20⟩, cf21⟩, cf22⟩, cf23⟩, fact_stopsHeard⟩, fact_mayEnter⟩, cf26⟩, cf27⟩, (by kernel_rfl)⟩, cf29⟩, cf30⟩, cf31⟩
theorem over : Rows.fnAgainSackRow.holds Try.pinned (OpenSpec.ofChange Rows.fnAgainSackSpec) :=
  OpenClaim.holds_of_wide 5 Try.f5 rfl rfl rfl rfl rfl rfl rfl ⟨rfl, rfl, rfl, rfl, rfl⟩ rfl rfl rfl rfl rfl (by kernel_rfl) Try.func5 closed_
    (of_decide_eq_true (by kernel_rfl)) (by unfold Func.isWrapper; first | (rw [if_pos (by decide +kernel)]; kernel_rfl) | (rw [if_neg (by decide +kernel)]; exact ⟨rfl, rfl⟩))
    (fun os started H enc _ => lifted os started H enc)

end Go.Proofs.Ytoljdgfbkebgcaa.fnAgainSack
namespace Go.Proofs.Ytoljdgfbkebgcaa
theorem fnAgainSack_holds : Rows.FnAgainSackSaid := fnAgainSack.over
#print axioms fnAgainSack_holds
end Go.Proofs.Ytoljdgfbkebgcaa
