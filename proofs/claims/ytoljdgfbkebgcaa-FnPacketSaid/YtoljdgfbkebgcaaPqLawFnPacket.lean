/- Of a packet the header is read, and chunk by chunk, in their order, the bytes that each takes, up to the first chunk of data, whose data is told, exactly as the reference says, for every input (nothing is said of more than 200 bytes, nor where the reference does not tell: a type that is not known, or a chunk that is not as it should be). No conditions. -/
import Derived.Test.YtoljdgfbkebgcaaRows
import Derived.WalkKit
import Derived.ProofKit
import Derived.OpenShut
import Derived.ShutString
import Derived.ChangeOld
import Derived.Below
import Derived.JoinedOf
import Derived.Test.YtoljdgfbkebgcaaHead
import Derived.Test.YtoljdgfbkebgcaaPp14
import Derived.Test.YtoljdgfbkebgcaaPq04
namespace Go.Proofs.Ytoljdgfbkebgcaa.fnPacket
open Go.ChangeShapes Go.WideShapes Go.ChangeAt Go.RowKit
open Go.ChangeMaps (open_string shut_string)
set_option linter.unusedVariables false

theorem own : ownKnob Try.prog.godebug = none := by kernel_rfl
theorem laidOut : laidOutB Try.prog = true := by kernel_rfl

theorem walk (a0 : Option Addr) (len0 cap0 : Nat) (z0 : List Int) (w : World) (w0 : IsRow .u8 w a0 len0 cap0 z0) :
    Calls Try.prog 6 #[.slice a0 len0 cap0] w fun e w' => e = .returned (.bool true) ∧ Below w.heap.size w w' := by
  obtain ⟨h, hl⟩ := w0.rd
  exact pkt_law a0 len0 cap0 (z0.take len0) w h hl

set_option maxRecDepth 100000 in
theorem lifted (os : Os) (started : os.Started) (H : Type) (enc : TypeId × Value → H) :
    ReturnsInHanded {} Try.checked os 6 .any (Rows.fnPacketSpec.pre6 enc Try.prog Try.f6 Rows.fnPacketRow.domain false) (Rows.fnPacketSpec.post enc Try.prog Try.f6 false true false false) := by
  refine returnsInHanded_of_change (C := Try.checked) own started (by kernel_rfl) Try.func6
    (ChangeSpec.witness6 (enc := enc) (C := Try.checked) false ⟨#[], #[.slice none 0 0], []⟩ 8 (by kernel_rfl) (by kernel_rfl) (by kernel_rfl) (by kernel_rfl)) ?_
  intro W base args ds gs before hval0 hW hcnd _
  have hval : ∀ (j : Nat) t v, Try.f6.params[j]? = some t → args[j]? = some v → Value.okWide Try.prog W .any base t v := hval0
  have hW' := hW
  obtain ⟨p, q, hA0, hV, rfl, hfz, hnd⟩ := hW
  have hA : DataW.TrodAll enc Try.prog W 0 (fun _ => true) true Try.f6.params.toList args.toList ds p := hA0
  rw [Try.params6] at hA hval
  obtain ⟨v0, vs0, d0, ds0, p0, q0, hargs, rfl, rfl, h0, r0⟩ := trodAll_cons hA
  obtain ⟨rfl, rfl, rfl⟩ := trodAll_nil r0
  obtain rfl : args = #[v0] := by cases args; simp_all
  obtain ⟨rfl, rfl⟩ := trodVars_none hV
  obtain ⟨a0, len0, cap0, rfl⟩ := okWide_slice Try.underlying24 (hval 0 24 v0 rfl rfl)
  have k0 := h0
  have lt0 : ∀ x ∈ p0, x.block < W.heap.size := by obtain ⟨m, hm⟩ := k0; exact DataW.trod_lt m _ _ _ hm
  obtain ⟨z0, w0⟩ : ∃ zs, IsRow .u8 W a0 len0 cap0 zs := by
    obtain ⟨fuel, hf⟩ := h0
    rcases open_ints Try.underlying24 Try.underlying5 (by kernel_rfl) hf with ⟨hcs, _⟩ | ⟨x, l, c, zs, hcs, _, hl, hm, hz, _, hcell, hwz⟩
    · simp [Value.cells] at hcs
      obtain ⟨rfl, rfl, rfl⟩ := hcs
      exact ⟨[], .inl ⟨rfl, rfl, rfl, rfl⟩⟩
    · simp [Value.cells] at hcs
      obtain ⟨rfl, rfl, rfl⟩ := hcs
      exact ⟨zs, .inr ⟨_, rfl, hl, hm, by simpa using hz, hcell, hwz⟩⟩
  clear hA0 hval0
  refine (walk a0 len0 cap0 z0 W w0).mono fun e W' ⟨he, bel⟩ => ?_
  subst he
  exact ⟨_, rfl, _, _, _, [], _, [], hW', trodAll_mk1 (shut_bool Try.underlying4 _), (trodAll_cons_mk (Below.trod laidOut (by kernel_rfl) (of_decide_eq_true (by kernel_rfl)) k0 bel lt0) trodAll_mk0), rfl, bel.frame _, fun h => by cases h⟩

theorem cf0 : (Rows.fnPacketRow.wf (OpenSpec.ofChange Rows.fnPacketSpec)) = true := by kernel_rfl
theorem cf3 : (Try.f6.params.all (Try.pinned.checked.prog.readableRec ·)) = true := by kernel_rfl
theorem cf4 : (namedTie Try.pinned.checked.prog Rows.fnPacketRow.named Rows.fnPacketSpec.vars) = true := by kernel_rfl
theorem cf5 : Rows.fnPacketRow.stops = [] := by kernel_rfl
theorem cf7 : Rows.fnPacketRow.knobs = [] := by kernel_rfl
theorem cf9 : Rows.fnPacketRow.inPlace = Try.pinned.checked.prog.inPlace 6 := by kernel_rfl
theorem cf10 : Rows.fnPacketRow.unfollowed = Try.pinned.checked.prog.unfollowed 6 := by kernel_rfl
theorem cf11 : Rows.fnPacketRow.recurses = Try.pinned.checked.prog.recurses 6 := by kernel_rfl
theorem cf12 : Rows.fnPacketRow.named = Try.pinned.checked.prog.varsNamed 6 := by kernel_rfl
theorem cf13 : Rows.fnPacketRow.maps = (Try.f6.params.toList ++ Rows.fnPacketSpec.plain.varTypes Try.pinned.checked.prog).any (Try.pinned.checked.prog.mapsRec ·) := by kernel_rfl
theorem cf14 : Rows.fnPacketRow.ifaces = (Try.f6.params.toList ++ Rows.fnPacketSpec.plain.varTypes Try.pinned.checked.prog).any (Try.pinned.checked.prog.ifacesRec ·) := by kernel_rfl
theorem cf15 : Rows.fnPacketRow.mapsOut = Try.pinned.checked.prog.mapsAmong Try.f6.resultTypes.toList := by kernel_rfl
theorem cf16 : Rows.fnPacketRow.loops = (Try.f6.params.toList ++ Rows.fnPacketSpec.plain.varTypes Try.pinned.checked.prog).any (Try.pinned.checked.prog.loopsFrom ·) := by kernel_rfl
theorem cf17 : Rows.fnPacketRow.wideKeys = (Try.f6.params.toList ++ Rows.fnPacketSpec.plain.varTypes Try.pinned.checked.prog ++ Try.f6.resultTypes.toList).any (Try.pinned.checked.prog.wideKeysFrom ·) := by kernel_rfl
theorem cf18 : (Rows.fnPacketSpec.vars.all (Try.pinned.checked.prog.varReadable ·)) = true := by kernel_rfl
theorem cf19 : (Try.f6.resultTypes.all (fun t => Try.pinned.checked.prog.readableRec t && decide (t < Try.pinned.checked.prog.types.size))) = true := by kernel_rfl
theorem cf20 : Rows.fnPacketRow.ifacesOut = Try.f6.resultTypes.toList.any (Try.pinned.checked.prog.ifacesRec ·) := by kernel_rfl
theorem cf21 : Rows.fnPacketRow.loopsOut = Try.f6.resultTypes.toList.any (Try.pinned.checked.prog.loopsFrom ·) := by kernel_rfl
theorem cf22 : Rows.fnPacketRow.plainKeys = Try.pinned.checked.prog.plainKeys := by kernel_rfl
theorem cf23 : (Rows.fnPacketRow.shortTexts.isNone) = true := by kernel_rfl
theorem cf29 : Rows.fnPacketRow.pinned = Rows.fnPacketRow.pinnedBy := by kernel_rfl
theorem cf30 : Rows.fnPacketRow.veiled = (Try.f6.params.toList ++ Rows.fnPacketSpec.plain.varTypes Try.pinned.checked.prog ++ Try.f6.resultTypes.toList).any (Try.pinned.checked.prog.veiledRec ·) := by kernel_rfl
theorem cf31 : (Rows.fnPacketRow.veiledFits Try.pinned.checked.prog Try.f6.params.toList (Try.f6.params.toList ++ Rows.fnPacketSpec.plain.varTypes Try.pinned.checked.prog ++ Try.f6.resultTypes.toList)) = true := by kernel_rfl
theorem cf26 : Rows.fnPacketRow.lifted = Try.pinned.checked.prog.liftsFinal := (show Rows.fnPacketRow.lifted = false by kernel_rfl).trans fact_liftsFinal.symm
theorem cf27 : Try.pinned.checked.prog.make = some Rows.fnPacketRow.make := fact_make.trans (by kernel_rfl)
theorem closed_ : joinedFacts Try.pinned.checked.prog 6 Try.f6 Rows.fnPacketSpec Rows.fnPacketRow = true := by
  simp only [joinedFacts, Bool.and_eq_true, beq_iff_eq]
  exact ⟨⟨⟨⟨⟨⟨⟨⟨⟨⟨⟨⟨⟨⟨⟨⟨⟨⟨⟨⟨⟨⟨⟨⟨⟨⟨⟨⟨⟨⟨⟨cf0, fact_laidOut⟩, fact_mapsRowed⟩, cf3⟩, cf4⟩, cf5⟩, fact_stops⟩, cf7⟩, fact_knobs⟩, cf9⟩, cf10⟩, cf11⟩, cf12⟩, cf13⟩, cf14⟩, cf15⟩, cf16⟩, cf17⟩, cf18⟩, cf19⟩, cf20⟩, cf21⟩, cf22⟩, cf23⟩, fact_stopsHeard⟩, fact_mayEnter⟩, cf26⟩, cf27⟩, (by kernel_rfl)⟩, cf29⟩, cf30⟩, cf31⟩
theorem over : Rows.fnPacketRow.holds Try.pinned (OpenSpec.ofChange Rows.fnPacketSpec) :=
  OpenClaim.holds_of_wide 6 Try.f6 rfl rfl rfl rfl rfl rfl rfl ⟨rfl, rfl, rfl, rfl, rfl⟩ rfl rfl rfl rfl rfl (by kernel_rfl) Try.func6 closed_
    (of_decide_eq_true (by kernel_rfl)) (by unfold Func.isWrapper; first | (rw [if_pos (by decide +kernel)]; kernel_rfl) | (rw [if_neg (by decide +kernel)]; exact ⟨rfl, rfl⟩))
    (fun os started H enc _ => lifted os started H enc)

end Go.Proofs.Ytoljdgfbkebgcaa.fnPacket
namespace Go.Proofs.Ytoljdgfbkebgcaa
theorem fnPacket_holds : Rows.FnPacketSaid := fnPacket.over
#print axioms fnPacket_holds
end Go.Proofs.Ytoljdgfbkebgcaa
