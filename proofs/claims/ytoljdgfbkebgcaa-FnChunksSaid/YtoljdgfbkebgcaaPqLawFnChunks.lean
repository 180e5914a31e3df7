/- Chunks that are put one behind the other, behind a header, are read as these chunks, for every header and every list (nothing is said of more than 8 chunks; of each chunk's bytes the first 40 tell what it is made of). No conditions. -/
import Derived.Test.YtoljdgfbkebgcaaRows
import Derived.WalkKit
import Derived.ProofKit
import Derived.OpenShut
import Derived.ShutString
import Derived.ChangeOld
import Derived.Below
import Derived.JoinedOf
import Derived.Test.YtoljdgfbkebgcaaHead
import Derived.Test.YtoljdgfbkebgcaaPc03
namespace Go.Proofs.Ytoljdgfbkebgcaa.fnChunks
open Go.ChangeShapes Go.WideShapes Go.ChangeAt Go.RowKit
open Go.ChangeMaps (open_string shut_string)
set_option linter.unusedVariables false

theorem own : ownKnob Try.prog.godebug = none := by kernel_rfl
theorem laidOut : laidOutB Try.prog = true := by kernel_rfl

theorem walk (hl : List Int) (a1 : Option Addr) (len1 cap1 : Nat) (w : World) (h12 : hl.length = 12) (hb : By hl) (w1 : CkRow w a1 len1 cap1) :
    Calls Try.prog 19 #[.agg (hl.map (Value.int .u8)).toArray, .slice a1 len1 cap1] w fun e w' => e = .returned (.bool true) ∧ Below w.heap.size w w' :=
  chunks_law hl _ rfl h12 hb a1 len1 cap1 w w1

set_option maxRecDepth 100000 in
theorem lifted (os : Os) (started : os.Started) (H : Type) (enc : TypeId × Value → H) :
    ReturnsInHanded {} Try.checked os 19 .any (Rows.fnChunksSpec.pre6 enc Try.prog Try.f19 Rows.fnChunksRow.domain false) (Rows.fnChunksSpec.post enc Try.prog Try.f19 false true false false) := by
  refine returnsInHanded_of_change (C := Try.checked) own started (by kernel_rfl) Try.func19
    (ChangeSpec.witness6 (enc := enc) (C := Try.checked) false ⟨#[], #[.agg #[.int .u8 0, .int .u8 0, .int .u8 0, .int .u8 0, .int .u8 0, .int .u8 0, .int .u8 0, .int .u8 0, .int .u8 0, .int .u8 0, .int .u8 0, .int .u8 0], .slice none 0 0], []⟩ 8 (by kernel_rfl) (by kernel_rfl) (by kernel_rfl) (by kernel_rfl)) ?_
  intro W base args ds gs before hval0 hW hcnd _
  have hval : ∀ (j : Nat) t v, Try.f19.params[j]? = some t → args[j]? = some v → Value.okWide Try.prog W .any base t v := hval0
  have hW' := hW
  obtain ⟨p, q, hA0, hV, rfl, hfz, hnd⟩ := hW
  have hA : DataW.TrodAll enc Try.prog W 0 (fun _ => true) true Try.f19.params.toList args.toList ds p := hA0
  rw [Try.params19] at hA hval
  obtain ⟨v0, vs0, d0, ds0, p0, q0, hargs, rfl, rfl, h0, r0⟩ := trodAll_cons hA
  obtain ⟨v1, vs1, d1, ds1, p1, q1, rfl, rfl, rfl, h1, r1⟩ := trodAll_cons r0
  obtain ⟨rfl, rfl, rfl⟩ := trodAll_nil r1
  obtain rfl : args = #[v0, v1] := by cases args; simp_all
  obtain ⟨rfl, rfl⟩ := trodVars_none hV
  obtain ⟨hl, rfl, h12, hlb⟩ := open_head (hval 0 47 v0 rfl rfl) h0
  obtain ⟨a1, len1, cap1, rfl⟩ := okWide_slice Try.underlying48 (hval 1 48 v1 rfl rfl)
  have k0 := h0
  have k1 := h1
  have lt0 : ∀ x ∈ p0, x.block < W.heap.size := by obtain ⟨m, hm⟩ := k0; exact DataW.trod_lt m _ _ _ hm
  have lt1 : ∀ x ∈ p1, x.block < W.heap.size := by obtain ⟨m, hm⟩ := k1; exact DataW.trod_lt m _ _ _ hm
  have w1 := open_list h1
  clear hA0 hval0
  refine (walk hl a1 len1 cap1 W h12 hlb w1).mono fun e W' ⟨he, bel⟩ => ?_
  subst he
  exact ⟨_, rfl, _, _, _, [], _, [], hW', trodAll_mk1 (shut_bool Try.underlying4 _), (trodAll_cons_mk (Below.trod laidOut (by kernel_rfl) (of_decide_eq_true (by kernel_rfl)) k0 bel lt0) (trodAll_cons_mk (Below.trod laidOut (by kernel_rfl) (of_decide_eq_true (by kernel_rfl)) k1 bel lt1) trodAll_mk0)), rfl, bel.frame _, fun h => by cases h⟩

theorem cf0 : (Rows.fnChunksRow.wf (OpenSpec.ofChange Rows.fnChunksSpec)) = true := by kernel_rfl
theorem cf3 : (Try.f19.params.all (Try.pinned.checked.prog.readableRec ·)) = true := by kernel_rfl
theorem cf4 : (namedTie Try.pinned.checked.prog Rows.fnChunksRow.named Rows.fnChunksSpec.vars) = true := by kernel_rfl
theorem cf5 : Rows.fnChunksRow.stops = [] := by kernel_rfl
theorem cf7 : Rows.fnChunksRow.knobs = [] := by kernel_rfl
theorem cf9 : Rows.fnChunksRow.inPlace = Try.pinned.checked.prog.inPlace 19 := by kernel_rfl
theorem cf10 : Rows.fnChunksRow.unfollowed = Try.pinned.checked.prog.unfollowed 19 := by kernel_rfl
theorem cf11 : Rows.fnChunksRow.recurses = Try.pinned.checked.prog.recurses 19 := by kernel_rfl
theorem cf12 : Rows.fnChunksRow.named = Try.pinned.checked.prog.varsNamed 19 := by kernel_rfl
theorem cf13 : Rows.fnChunksRow.maps = (Try.f19.params.toList ++ Rows.fnChunksSpec.plain.varTypes Try.pinned.checked.prog).any (Try.pinned.checked.prog.mapsRec ·) := by kernel_rfl
theorem cf14 : Rows.fnChunksRow.ifaces = (Try.f19.params.toList ++ Rows.fnChunksSpec.plain.varTypes Try.pinned.checked.prog).any (Try.pinned.checked.prog.ifacesRec ·) := by kernel_rfl
theorem cf15 : Rows.fnChunksRow.mapsOut = Try.pinned.checked.prog.mapsAmong Try.f19.resultTypes.toList := by kernel_rfl
theorem cf16 : Rows.fnChunksRow.loops = (Try.f19.params.toList ++ Rows.fnChunksSpec.plain.varTypes Try.pinned.checked.prog).any (Try.pinned.checked.prog.loopsFrom ·) := by kernel_rfl
theorem cf17 : Rows.fnChunksRow.wideKeys = (Try.f19.params.toList ++ Rows.fnChunksSpec.plain.varTypes Try.pinned.checked.prog ++ Try.f19.resultTypes.toList).any (Try.pinned.checked.prog.wideKeysFrom ·) := by kernel_rfl
theorem cf18 : (Rows.fnChunksSpec.vars.all (Try.pinned.checked.prog.varReadable ·)) = true := by kernel_rfl
theorem cf19 : (Try.f19.resultTypes.all (fun t => Try.pinned.checked.prog.readableRec t && decide (t < Try.pinned.checked.prog.types.size))) = true := by kernel_rfl
theorem cf20 : Rows.fnChunksRow.ifacesOut = Try.f19.resultTypes.toList.any (Try.pinned.checked.prog.ifacesRec ·) := by kernel_rfl
theorem cf21 : Rows.fnChunksRow.loopsOut = Try.f19.resultTypes.toList.any (Try.pinned.checked.prog.loopsFrom ·) := by kernel_rfl
theorem cf22 : Rows.fnChunksRow.plainKeys = Try.pinned.checked.prog.plainKeys := by kernel_rfl
theorem cf23 : (Rows.fnChunksRow.shortTexts.isNone) = true := by kernel_rfl
theorem cf29 : Rows.fnChunksRow.pinned = Rows.fnChunksRow.pinnedBy := by kernel_rfl
theorem cf30 : Rows.fnChunksRow.veiled = (Try.f19.params.toList ++ Rows.fnChunksSpec.plain.varTypes Try.pinned.checked.prog ++ Try.f19.resultTypes.toList).any (Try.pinned.checked.prog.veiledRec ·) := by kernel_rfl
theorem cf31 : (Rows.fnChunksRow.veiledFits Try.pinned.checked.prog Try.f19.params.toList (Try.f19.params.toList ++ Rows.fnChunksSpec.plain.varTypes Try.pinned.checked.prog ++ Try.f19.resultTypes.toList)) = true := by kernel_rfl
theorem cf26 : Rows.fnChunksRow.lifted = Try.pinned.checked.prog.liftsFinal := (show Rows.fnChunksRow.lifted = false by kernel_rfl).trans fact_liftsFinal.symm
theorem cf27 : Try.pinned.checked.prog.make = some Rows.fnChunksRow.make := fact_make.trans (by kernel_rfl)
theorem closed_ : joinedFacts Try.pinned.checked.prog 19 Try.f19 Rows.fnChunksSpec Rows.fnChunksRow = true := by
  simp only [joinedFacts, Bool.and_eq_true, beq_iff_eq]
  exact ⟨⟨⟨⟨⟨⟨⟨⟨⟨⟨⟨⟨⟨⟨⟨⟨⟨⟨⟨⟨⟨⟨⟨⟨⟨⟨⟨⟨⟨⟨⟨cf0, fact_laidOut⟩, fact_mapsRowed⟩, cf3⟩, cf4⟩, cf5⟩, fact_stops⟩, cf7⟩, fact_knobs⟩, cf9⟩, cf10⟩, cf11⟩, cf12⟩, cf13⟩, cf14⟩, cf15⟩, cf16⟩, cf17⟩, cf18⟩, cf19⟩, cf20⟩, cf21⟩, cf22⟩, cf23⟩, fact_stopsHeard⟩, fact_mayEnter⟩, cf26⟩, cf27⟩, (by kernel_rfl)⟩, cf29⟩, cf30⟩, cf31⟩
theorem over : Rows.fnChunksRow.holds Try.pinned (OpenSpec.ofChange Rows.fnChunksSpec) :=
  OpenClaim.holds_of_wide 19 Try.f19 rfl rfl rfl rfl rfl rfl rfl ⟨rfl, rfl, rfl, rfl, rfl⟩ rfl rfl rfl rfl rfl (by kernel_rfl) Try.func19 closed_
    (of_decide_eq_true (by kernel_rfl)) (by unfold Func.isWrapper; first | (rw [if_pos (by decide +kernel)]; kernel_rfl) | (rw [if_neg (by decide +kernel)]; exact ⟨rfl, rfl⟩))
    (fun os started H enc _ => lifted os started H enc)

end Go.Proofs.Ytoljdgfbkebgcaa.fnChunks
namespace Go.Proofs.Ytoljdgfbkebgcaa
theorem fnChunks_holds : Rows.FnChunksSaid := fnChunks.over
#print axioms fnChunks_holds
end Go.Proofs.Ytoljdgfbkebgcaa
