/-
  No cell of these rows narrows 'for every input' (looked for: loops, veiled, ifaces, maps, wideKeys, modest, calm, conditions, laid).
  DERIVED. THE GIVEN ROWS OF THIS SEAT. 23 by the template 'for every input the law returns true; each argument reads behind the call as it read before'; 0 by the template 'total and deterministic' (their statements: YtoljdgfbkebgcaaTotals.lean).
  GIVEN WITH THE SEED: the statements are not yours to turn. If you find one false, say at which input.
  Laid BY PROGRAM, IN A SANDBOX (cutbox-rows.mjs): the forced cells as the released guide's own fill.sh prints them over the translation f20149c361c8a377… (all of the seat's roots in one cut). By AI agents, Wed Nov 11 2026. No macro, syntax, notation, axiom, sorry.
-/
import Derived.Test.YtoljdgfbkebgcaaChecked
import GoSem.Claim
import GoSem.ClaimJoined
import GoSem.ClaimMapViews
import Derived.JoinedTies
import Derived.KernelRfl
namespace Go.Proofs.Ytoljdgfbkebgcaa
/- THE CELL 'sum', in the pinned program and in every row, IS THE sha256 OF THE DUMP (.gsa) THAT YtoljdgfbkebgcaaProg.lean LOADS. Nothing in Lean hashes anything: it is a label: what it is worth is what the hold of that sum in a sandbox is worth. -/
noncomputable def Try.pinned : Pinned := { name := "ytoljdgfbkebgcaa", sum := "f20149c361c8a3772ee5fee4052e2ef0dfd7aa3972041cb59a46eca87a6dace5", checked := Try.checked }
namespace Rows
def none {H : Type} : Left H := { results := [], args := [] }

/-- 'laws.FnSum': WHATEVER THE INPUT: true; the input reads as it did. -/
def fnSumSpec : ChangeSpec := { name := "fnSum", fn := fun _ => fun
  | [d1, d2, d3, d4, d5] => { results := [.lit (.bool true)], args := [d1, d2, d3, d4, d5] }
  | _ => none }
def fnSumRow : OpenClaim := { program := "ytoljdgfbkebgcaa", sum := "f20149c361c8a3772ee5fee4052e2ef0dfd7aa3972041cb59a46eca87a6dace5", func := "loop.example/pub-g03270/laws.FnSum", spec := "fnSum", unfollowed := true, recurses := true, apart := false }
def FnSumSaid : Prop := fnSumRow.holds Try.pinned (OpenSpec.ofChange fnSumSpec)

/-- ITS FALSE NEIGHBOUR: 'it returns false'. Refute it at one input. -/
def fnSumWrong : ChangeSpec := { name := "fnSum", fn := fun _ => fun
  | [d1, d2, d3, d4, d5] => { results := [.lit (.bool false)], args := [d1, d2, d3, d4, d5] }
  | _ => none }
def FnSumWrongFalsely : Prop := fnSumRow.holds Try.pinned (OpenSpec.ofChange fnSumWrong)

/-- 'laws.FnHeader': WHATEVER THE INPUT: true; the input reads as it did. -/
def fnHeaderSpec : ChangeSpec := { name := "fnHeader", fn := fun _ => fun
  | [d] => { results := [.lit (.bool true)], args := [d] }
  | _ => none }
def fnHeaderRow : OpenClaim := { program := "ytoljdgfbkebgcaa", sum := "f20149c361c8a3772ee5fee4052e2ef0dfd7aa3972041cb59a46eca87a6dace5", func := "loop.example/pub-g03270/laws.FnHeader", spec := "fnHeader", unfollowed := true, recurses := true, named := ["encoding/binary.BigEndian"], apart := false }
def FnHeaderSaid : Prop := fnHeaderRow.holds Try.pinned (OpenSpec.ofChange fnHeaderSpec)

/-- ITS FALSE NEIGHBOUR: 'it returns false'. Refute it at one input. -/
def fnHeaderWrong : ChangeSpec := { name := "fnHeader", fn := fun _ => fun
  | [d] => { results := [.lit (.bool false)], args := [d] }
  | _ => none }
def FnHeaderWrongFalsely : Prop := fnHeaderRow.holds Try.pinned (OpenSpec.ofChange fnHeaderWrong)

/-- 'laws.FnAgainSack': WHATEVER THE INPUT: true; the input reads as it did. -/
def fnAgainSackSpec : ChangeSpec := { name := "fnAgainSack", fn := fun _ => fun
  | [d1, d2] => { results := [.lit (.bool true)], args := [d1, d2] }
  | _ => none }
def fnAgainSackRow : OpenClaim := { program := "ytoljdgfbkebgcaa", sum := "f20149c361c8a3772ee5fee4052e2ef0dfd7aa3972041cb59a46eca87a6dace5", func := "loop.example/pub-g03270/laws.FnAgainSack", spec := "fnAgainSack", unfollowed := true, recurses := true, named := ["encoding/binary.BigEndian"], apart := false }
def FnAgainSackSaid : Prop := fnAgainSackRow.holds Try.pinned (OpenSpec.ofChange fnAgainSackSpec)

/-- ITS FALSE NEIGHBOUR: 'it returns false'. Refute it at one input. -/
def fnAgainSackWrong : ChangeSpec := { name := "fnAgainSack", fn := fun _ => fun
  | [d1, d2] => { results := [.lit (.bool false)], args := [d1, d2] }
  | _ => none }
def FnAgainSackWrongFalsely : Prop := fnAgainSackRow.holds Try.pinned (OpenSpec.ofChange fnAgainSackWrong)

/-- 'laws.FnPacket': WHATEVER THE INPUT: true; the input reads as it did. -/
def fnPacketSpec : ChangeSpec := { name := "fnPacket", fn := fun _ => fun
  | [d] => { results := [.lit (.bool true)], args := [d] }
  | _ => none }
def fnPacketRow : OpenClaim := { program := "ytoljdgfbkebgcaa", sum := "f20149c361c8a3772ee5fee4052e2ef0dfd7aa3972041cb59a46eca87a6dace5", func := "loop.example/pub-g03270/laws.FnPacket", spec := "fnPacket", unfollowed := true, recurses := true, named := ["encoding/binary.BigEndian"], apart := false }
def FnPacketSaid : Prop := fnPacketRow.holds Try.pinned (OpenSpec.ofChange fnPacketSpec)

/-- ITS FALSE NEIGHBOUR: 'it returns false'. Refute it at one input. -/
def fnPacketWrong : ChangeSpec := { name := "fnPacket", fn := fun _ => fun
  | [d] => { results := [.lit (.bool false)], args := [d] }
  | _ => none }
def FnPacketWrongFalsely : Prop := fnPacketRow.holds Try.pinned (OpenSpec.ofChange fnPacketWrong)

/-- 'laws.FnReadCookie': WHATEVER THE INPUT: true; the input reads as it did. -/
def fnReadCookieSpec : ChangeSpec := { name := "fnReadCookie", fn := fun _ => fun
  | [d] => { results := [.lit (.bool true)], args := [d] }
  | _ => none }
def fnReadCookieRow : OpenClaim := { program := "ytoljdgfbkebgcaa", sum := "f20149c361c8a3772ee5fee4052e2ef0dfd7aa3972041cb59a46eca87a6dace5", func := "loop.example/pub-g03270/laws.FnReadCookie", spec := "fnReadCookie", unfollowed := true, recurses := true, named := ["encoding/binary.BigEndian"], apart := false }
def FnReadCookieSaid : Prop := fnReadCookieRow.holds Try.pinned (OpenSpec.ofChange fnReadCookieSpec)

/-- ITS FALSE NEIGHBOUR: 'it returns false'. Refute it at one input. -/
def fnReadCookieWrong : ChangeSpec := { name := "fnReadCookie", fn := fun _ => fun
  | [d] => { results := [.lit (.bool false)], args := [d] }
  | _ => none }
def FnReadCookieWrongFalsely : Prop := fnReadCookieRow.holds Try.pinned (OpenSpec.ofChange fnReadCookieWrong)

/-- 'laws.FnAgainShutdown': WHATEVER THE INPUT: true; the input reads as it did. -/
def fnAgainShutdownSpec : ChangeSpec := { name := "fnAgainShutdown", fn := fun _ => fun
  | [d1, d2] => { results := [.lit (.bool true)], args := [d1, d2] }
  | _ => none }
def fnAgainShutdownRow : OpenClaim := { program := "ytoljdgfbkebgcaa", sum := "f20149c361c8a3772ee5fee4052e2ef0dfd7aa3972041cb59a46eca87a6dace5", func := "loop.example/pub-g03270/laws.FnAgainShutdown", spec := "fnAgainShutdown", unfollowed := true, recurses := true, named := ["encoding/binary.BigEndian"], apart := false }
def FnAgainShutdownSaid : Prop := fnAgainShutdownRow.holds Try.pinned (OpenSpec.ofChange fnAgainShutdownSpec)

/-- ITS FALSE NEIGHBOUR: 'it returns false'. Refute it at one input. -/
def fnAgainShutdownWrong : ChangeSpec := { name := "fnAgainShutdown", fn := fun _ => fun
  | [d1, d2] => { results := [.lit (.bool false)], args := [d1, d2] }
  | _ => none }
def FnAgainShutdownWrongFalsely : Prop := fnAgainShutdownRow.holds Try.pinned (OpenSpec.ofChange fnAgainShutdownWrong)

/-- 'laws.FnReadData': WHATEVER THE INPUT: true; the input reads as it did. -/
def fnReadDataSpec : ChangeSpec := { name := "fnReadData", fn := fun _ => fun
  | [d] => { results := [.lit (.bool true)], args := [d] }
  | _ => none }
def fnReadDataRow : OpenClaim := { program := "ytoljdgfbkebgcaa", sum := "f20149c361c8a3772ee5fee4052e2ef0dfd7aa3972041cb59a46eca87a6dace5", func := "loop.example/pub-g03270/laws.FnReadData", spec := "fnReadData", unfollowed := true, recurses := true, named := ["encoding/binary.BigEndian"], apart := false }
def FnReadDataSaid : Prop := fnReadDataRow.holds Try.pinned (OpenSpec.ofChange fnReadDataSpec)

/-- ITS FALSE NEIGHBOUR: 'it returns false'. Refute it at one input. -/
def fnReadDataWrong : ChangeSpec := { name := "fnReadData", fn := fun _ => fun
  | [d] => { results := [.lit (.bool false)], args := [d] }
  | _ => none }
def FnReadDataWrongFalsely : Prop := fnReadDataRow.holds Try.pinned (OpenSpec.ofChange fnReadDataWrong)

/-- 'laws.FnReadEmpty': WHATEVER THE INPUT: true; the input reads as it did. -/
def fnReadEmptySpec : ChangeSpec := { name := "fnReadEmpty", fn := fun _ => fun
  | [d] => { results := [.lit (.bool true)], args := [d] }
  | _ => none }
def fnReadEmptyRow : OpenClaim := { program := "ytoljdgfbkebgcaa", sum := "f20149c361c8a3772ee5fee4052e2ef0dfd7aa3972041cb59a46eca87a6dace5", func := "loop.example/pub-g03270/laws.FnReadEmpty", spec := "fnReadEmpty", unfollowed := true, recurses := true, named := ["encoding/binary.BigEndian"], apart := false }
def FnReadEmptySaid : Prop := fnReadEmptyRow.holds Try.pinned (OpenSpec.ofChange fnReadEmptySpec)

/-- ITS FALSE NEIGHBOUR: 'it returns false'. Refute it at one input. -/
def fnReadEmptyWrong : ChangeSpec := { name := "fnReadEmpty", fn := fun _ => fun
  | [d] => { results := [.lit (.bool false)], args := [d] }
  | _ => none }
def FnReadEmptyWrongFalsely : Prop := fnReadEmptyRow.holds Try.pinned (OpenSpec.ofChange fnReadEmptyWrong)

/-- 'laws.FnAgainShutdownAck': WHATEVER THE INPUT: true; the input reads as it did. -/
def fnAgainShutdownAckSpec : ChangeSpec := { name := "fnAgainShutdownAck", fn := fun _ => fun
  | [d1, d2] => { results := [.lit (.bool true)], args := [d1, d2] }
  | _ => none }
def fnAgainShutdownAckRow : OpenClaim := { program := "ytoljdgfbkebgcaa", sum := "f20149c361c8a3772ee5fee4052e2ef0dfd7aa3972041cb59a46eca87a6dace5", func := "loop.example/pub-g03270/laws.FnAgainShutdownAck", spec := "fnAgainShutdownAck", unfollowed := true, recurses := true, named := ["encoding/binary.BigEndian"], apart := false }
def FnAgainShutdownAckSaid : Prop := fnAgainShutdownAckRow.holds Try.pinned (OpenSpec.ofChange fnAgainShutdownAckSpec)

/-- ITS FALSE NEIGHBOUR: 'it returns false'. Refute it at one input. -/
def fnAgainShutdownAckWrong : ChangeSpec := { name := "fnAgainShutdownAck", fn := fun _ => fun
  | [d1, d2] => { results := [.lit (.bool false)], args := [d1, d2] }
  | _ => none }
def FnAgainShutdownAckWrongFalsely : Prop := fnAgainShutdownAckRow.holds Try.pinned (OpenSpec.ofChange fnAgainShutdownAckWrong)

/-- 'laws.FnReadError': WHATEVER THE INPUT: true; the input reads as it did. -/
def fnReadErrorSpec : ChangeSpec := { name := "fnReadError", fn := fun _ => fun
  | [d] => { results := [.lit (.bool true)], args := [d] }
  | _ => none }
def fnReadErrorRow : OpenClaim := { program := "ytoljdgfbkebgcaa", sum := "f20149c361c8a3772ee5fee4052e2ef0dfd7aa3972041cb59a46eca87a6dace5", func := "loop.example/pub-g03270/laws.FnReadError", spec := "fnReadError", unfollowed := true, recurses := true, named := ["encoding/binary.BigEndian"], apart := false }
def FnReadErrorSaid : Prop := fnReadErrorRow.holds Try.pinned (OpenSpec.ofChange fnReadErrorSpec)

/-- ITS FALSE NEIGHBOUR: 'it returns false'. Refute it at one input. -/
def fnReadErrorWrong : ChangeSpec := { name := "fnReadError", fn := fun _ => fun
  | [d] => { results := [.lit (.bool false)], args := [d] }
  | _ => none }
def FnReadErrorWrongFalsely : Prop := fnReadErrorRow.holds Try.pinned (OpenSpec.ofChange fnReadErrorWrong)

/-- 'laws.FnReadHeartbeat': WHATEVER THE INPUT: true; the input reads as it did. -/
def fnReadHeartbeatSpec : ChangeSpec := { name := "fnReadHeartbeat", fn := fun _ => fun
  | [d] => { results := [.lit (.bool true)], args := [d] }
  | _ => none }
def fnReadHeartbeatRow : OpenClaim := { program := "ytoljdgfbkebgcaa", sum := "f20149c361c8a3772ee5fee4052e2ef0dfd7aa3972041cb59a46eca87a6dace5", func := "loop.example/pub-g03270/laws.FnReadHeartbeat", spec := "fnReadHeartbeat", unfollowed := true, recurses := true, named := ["encoding/binary.BigEndian"], apart := false }
def FnReadHeartbeatSaid : Prop := fnReadHeartbeatRow.holds Try.pinned (OpenSpec.ofChange fnReadHeartbeatSpec)

/-- ITS FALSE NEIGHBOUR: 'it returns false'. Refute it at one input. -/
def fnReadHeartbeatWrong : ChangeSpec := { name := "fnReadHeartbeat", fn := fun _ => fun
  | [d] => { results := [.lit (.bool false)], args := [d] }
  | _ => none }
def FnReadHeartbeatWrongFalsely : Prop := fnReadHeartbeatRow.holds Try.pinned (OpenSpec.ofChange fnReadHeartbeatWrong)

/-- 'laws.FnReadInit': WHATEVER THE INPUT: true; the input reads as it did. -/
def fnReadInitSpec : ChangeSpec := { name := "fnReadInit", fn := fun _ => fun
  | [d] => { results := [.lit (.bool true)], args := [d] }
  | _ => none }
def fnReadInitRow : OpenClaim := { program := "ytoljdgfbkebgcaa", sum := "f20149c361c8a3772ee5fee4052e2ef0dfd7aa3972041cb59a46eca87a6dace5", func := "loop.example/pub-g03270/laws.FnReadInit", spec := "fnReadInit", unfollowed := true, recurses := true, named := ["encoding/binary.BigEndian"], apart := false }
def FnReadInitSaid : Prop := fnReadInitRow.holds Try.pinned (OpenSpec.ofChange fnReadInitSpec)

/-- ITS FALSE NEIGHBOUR: 'it returns false'. Refute it at one input. -/
def fnReadInitWrong : ChangeSpec := { name := "fnReadInit", fn := fun _ => fun
  | [d] => { results := [.lit (.bool false)], args := [d] }
  | _ => none }
def FnReadInitWrongFalsely : Prop := fnReadInitRow.holds Try.pinned (OpenSpec.ofChange fnReadInitWrong)

/-- 'laws.FnReadSack': WHATEVER THE INPUT: true; the input reads as it did. -/
def fnReadSackSpec : ChangeSpec := { name := "fnReadSack", fn := fun _ => fun
  | [d] => { results := [.lit (.bool true)], args := [d] }
  | _ => none }
def fnReadSackRow : OpenClaim := { program := "ytoljdgfbkebgcaa", sum := "f20149c361c8a3772ee5fee4052e2ef0dfd7aa3972041cb59a46eca87a6dace5", func := "loop.example/pub-g03270/laws.FnReadSack", spec := "fnReadSack", unfollowed := true, recurses := true, named := ["encoding/binary.BigEndian"], apart := false }
def FnReadSackSaid : Prop := fnReadSackRow.holds Try.pinned (OpenSpec.ofChange fnReadSackSpec)

/-- ITS FALSE NEIGHBOUR: 'it returns false'. Refute it at one input. -/
def fnReadSackWrong : ChangeSpec := { name := "fnReadSack", fn := fun _ => fun
  | [d] => { results := [.lit (.bool false)], args := [d] }
  | _ => none }
def FnReadSackWrongFalsely : Prop := fnReadSackRow.holds Try.pinned (OpenSpec.ofChange fnReadSackWrong)

/-- 'laws.FnReadShutdown': WHATEVER THE INPUT: true; the input reads as it did. -/
def fnReadShutdownSpec : ChangeSpec := { name := "fnReadShutdown", fn := fun _ => fun
  | [d] => { results := [.lit (.bool true)], args := [d] }
  | _ => none }
def fnReadShutdownRow : OpenClaim := { program := "ytoljdgfbkebgcaa", sum := "f20149c361c8a3772ee5fee4052e2ef0dfd7aa3972041cb59a46eca87a6dace5", func := "loop.example/pub-g03270/laws.FnReadShutdown", spec := "fnReadShutdown", unfollowed := true, recurses := true, named := ["encoding/binary.BigEndian"], apart := false }
def FnReadShutdownSaid : Prop := fnReadShutdownRow.holds Try.pinned (OpenSpec.ofChange fnReadShutdownSpec)

/-- ITS FALSE NEIGHBOUR: 'it returns false'. Refute it at one input. -/
def fnReadShutdownWrong : ChangeSpec := { name := "fnReadShutdown", fn := fun _ => fun
  | [d] => { results := [.lit (.bool false)], args := [d] }
  | _ => none }
def FnReadShutdownWrongFalsely : Prop := fnReadShutdownRow.holds Try.pinned (OpenSpec.ofChange fnReadShutdownWrong)

/-- 'laws.FnReadShutdownAck': WHATEVER THE INPUT: true; the input reads as it did. -/
def fnReadShutdownAckSpec : ChangeSpec := { name := "fnReadShutdownAck", fn := fun _ => fun
  | [d] => { results := [.lit (.bool true)], args := [d] }
  | _ => none }
def fnReadShutdownAckRow : OpenClaim := { program := "ytoljdgfbkebgcaa", sum := "f20149c361c8a3772ee5fee4052e2ef0dfd7aa3972041cb59a46eca87a6dace5", func := "loop.example/pub-g03270/laws.FnReadShutdownAck", spec := "fnReadShutdownAck", unfollowed := true, recurses := true, named := ["encoding/binary.BigEndian"], apart := false }
def FnReadShutdownAckSaid : Prop := fnReadShutdownAckRow.holds Try.pinned (OpenSpec.ofChange fnReadShutdownAckSpec)

/-- ITS FALSE NEIGHBOUR: 'it returns false'. Refute it at one input. -/
def fnReadShutdownAckWrong : ChangeSpec := { name := "fnReadShutdownAck", fn := fun _ => fun
  | [d] => { results := [.lit (.bool false)], args := [d] }
  | _ => none }
def FnReadShutdownAckWrongFalsely : Prop := fnReadShutdownAckRow.holds Try.pinned (OpenSpec.ofChange fnReadShutdownAckWrong)

/-- 'laws.FnReadUnknown': WHATEVER THE INPUT: true; the input reads as it did. -/
def fnReadUnknownSpec : ChangeSpec := { name := "fnReadUnknown", fn := fun _ => fun
  | [d] => { results := [.lit (.bool true)], args := [d] }
  | _ => none }
def fnReadUnknownRow : OpenClaim := { program := "ytoljdgfbkebgcaa", sum := "f20149c361c8a3772ee5fee4052e2ef0dfd7aa3972041cb59a46eca87a6dace5", func := "loop.example/pub-g03270/laws.FnReadUnknown", spec := "fnReadUnknown", unfollowed := true, recurses := true, named := ["encoding/binary.BigEndian"], apart := false }
def FnReadUnknownSaid : Prop := fnReadUnknownRow.holds Try.pinned (OpenSpec.ofChange fnReadUnknownSpec)

/-- ITS FALSE NEIGHBOUR: 'it returns false'. Refute it at one input. -/
def fnReadUnknownWrong : ChangeSpec := { name := "fnReadUnknown", fn := fun _ => fun
  | [d] => { results := [.lit (.bool false)], args := [d] }
  | _ => none }
def FnReadUnknownWrongFalsely : Prop := fnReadUnknownRow.holds Try.pinned (OpenSpec.ofChange fnReadUnknownWrong)

/-- 'laws.FnChunks': WHATEVER THE INPUT: true; the input reads as it did. -/
def fnChunksSpec : ChangeSpec := { name := "fnChunks", fn := fun _ => fun
  | [d1, d2] => { results := [.lit (.bool true)], args := [d1, d2] }
  | _ => none }
def fnChunksRow : OpenClaim := { program := "ytoljdgfbkebgcaa", sum := "f20149c361c8a3772ee5fee4052e2ef0dfd7aa3972041cb59a46eca87a6dace5", func := "loop.example/pub-g03270/laws.FnChunks", spec := "fnChunks", unfollowed := true, recurses := true, named := ["encoding/binary.BigEndian"], apart := false }
def FnChunksSaid : Prop := fnChunksRow.holds Try.pinned (OpenSpec.ofChange fnChunksSpec)

/-- ITS FALSE NEIGHBOUR: 'it returns false'. Refute it at one input. -/
def fnChunksWrong : ChangeSpec := { name := "fnChunks", fn := fun _ => fun
  | [d1, d2] => { results := [.lit (.bool false)], args := [d1, d2] }
  | _ => none }
def FnChunksWrongFalsely : Prop := fnChunksRow.holds Try.pinned (OpenSpec.ofChange fnChunksWrong)

/-- 'laws.FnAgainCookie': WHATEVER THE INPUT: true; the input reads as it did. -/
def fnAgainCookieSpec : ChangeSpec := { name := "fnAgainCookie", fn := fun _ => fun
  | [d1, d2] => { results := [.lit (.bool true)], args := [d1, d2] }
  | _ => none }
def fnAgainCookieRow : OpenClaim := { program := "ytoljdgfbkebgcaa", sum := "f20149c361c8a3772ee5fee4052e2ef0dfd7aa3972041cb59a46eca87a6dace5", func := "loop.example/pub-g03270/laws.FnAgainCookie", spec := "fnAgainCookie", unfollowed := true, recurses := true, named := ["encoding/binary.BigEndian"], apart := false }
def FnAgainCookieSaid : Prop := fnAgainCookieRow.holds Try.pinned (OpenSpec.ofChange fnAgainCookieSpec)

/-- ITS FALSE NEIGHBOUR: 'it returns false'. Refute it at one input. -/
def fnAgainCookieWrong : ChangeSpec := { name := "fnAgainCookie", fn := fun _ => fun
  | [d1, d2] => { results := [.lit (.bool false)], args := [d1, d2] }
  | _ => none }
def FnAgainCookieWrongFalsely : Prop := fnAgainCookieRow.holds Try.pinned (OpenSpec.ofChange fnAgainCookieWrong)

/-- 'laws.FnAgainData': WHATEVER THE INPUT: true; the input reads as it did. -/
def fnAgainDataSpec : ChangeSpec := { name := "fnAgainData", fn := fun _ => fun
  | [d1, d2] => { results := [.lit (.bool true)], args := [d1, d2] }
  | _ => none }
def fnAgainDataRow : OpenClaim := { program := "ytoljdgfbkebgcaa", sum := "f20149c361c8a3772ee5fee4052e2ef0dfd7aa3972041cb59a46eca87a6dace5", func := "loop.example/pub-g03270/laws.FnAgainData", spec := "fnAgainData", unfollowed := true, recurses := true, named := ["encoding/binary.BigEndian"], apart := false }
def FnAgainDataSaid : Prop := fnAgainDataRow.holds Try.pinned (OpenSpec.ofChange fnAgainDataSpec)

/-- ITS FALSE NEIGHBOUR: 'it returns false'. Refute it at one input. -/
def fnAgainDataWrong : ChangeSpec := { name := "fnAgainData", fn := fun _ => fun
  | [d1, d2] => { results := [.lit (.bool false)], args := [d1, d2] }
  | _ => none }
def FnAgainDataWrongFalsely : Prop := fnAgainDataRow.holds Try.pinned (OpenSpec.ofChange fnAgainDataWrong)

/-- 'laws.FnAgainEmpty': WHATEVER THE INPUT: true; the input reads as it did. -/
def fnAgainEmptySpec : ChangeSpec := { name := "fnAgainEmpty", fn := fun _ => fun
  | [d1, d2] => { results := [.lit (.bool true)], args := [d1, d2] }
  | _ => none }
def fnAgainEmptyRow : OpenClaim := { program := "ytoljdgfbkebgcaa", sum := "f20149c361c8a3772ee5fee4052e2ef0dfd7aa3972041cb59a46eca87a6dace5", func := "loop.example/pub-g03270/laws.FnAgainEmpty", spec := "fnAgainEmpty", unfollowed := true, recurses := true, named := ["encoding/binary.BigEndian"], apart := false }
def FnAgainEmptySaid : Prop := fnAgainEmptyRow.holds Try.pinned (OpenSpec.ofChange fnAgainEmptySpec)

/-- ITS FALSE NEIGHBOUR: 'it returns false'. Refute it at one input. -/
def fnAgainEmptyWrong : ChangeSpec := { name := "fnAgainEmpty", fn := fun _ => fun
  | [d1, d2] => { results := [.lit (.bool false)], args := [d1, d2] }
  | _ => none }
def FnAgainEmptyWrongFalsely : Prop := fnAgainEmptyRow.holds Try.pinned (OpenSpec.ofChange fnAgainEmptyWrong)

/-- 'laws.FnAgainError': WHATEVER THE INPUT: true; the input reads as it did. -/
def fnAgainErrorSpec : ChangeSpec := { name := "fnAgainError", fn := fun _ => fun
  | [d1, d2] => { results := [.lit (.bool true)], args := [d1, d2] }
  | _ => none }
def fnAgainErrorRow : OpenClaim := { program := "ytoljdgfbkebgcaa", sum := "f20149c361c8a3772ee5fee4052e2ef0dfd7aa3972041cb59a46eca87a6dace5", func := "loop.example/pub-g03270/laws.FnAgainError", spec := "fnAgainError", unfollowed := true, recurses := true, named := ["encoding/binary.BigEndian"], apart := false }
def FnAgainErrorSaid : Prop := fnAgainErrorRow.holds Try.pinned (OpenSpec.ofChange fnAgainErrorSpec)

/-- ITS FALSE NEIGHBOUR: 'it returns false'. Refute it at one input. -/
def fnAgainErrorWrong : ChangeSpec := { name := "fnAgainError", fn := fun _ => fun
  | [d1, d2] => { results := [.lit (.bool false)], args := [d1, d2] }
  | _ => none }
def FnAgainErrorWrongFalsely : Prop := fnAgainErrorRow.holds Try.pinned (OpenSpec.ofChange fnAgainErrorWrong)

/-- 'laws.FnAgainHeartbeat': WHATEVER THE INPUT: true; the input reads as it did. -/
def fnAgainHeartbeatSpec : ChangeSpec := { name := "fnAgainHeartbeat", fn := fun _ => fun
  | [d1, d2] => { results := [.lit (.bool true)], args := [d1, d2] }
  | _ => none }
def fnAgainHeartbeatRow : OpenClaim := { program := "ytoljdgfbkebgcaa", sum := "f20149c361c8a3772ee5fee4052e2ef0dfd7aa3972041cb59a46eca87a6dace5", func := "loop.example/pub-g03270/laws.FnAgainHeartbeat", spec := "fnAgainHeartbeat", unfollowed := true, recurses := true, named := ["encoding/binary.BigEndian"], apart := false }
def FnAgainHeartbeatSaid : Prop := fnAgainHeartbeatRow.holds Try.pinned (OpenSpec.ofChange fnAgainHeartbeatSpec)

/-- ITS FALSE NEIGHBOUR: 'it returns false'. Refute it at one input. -/
def fnAgainHeartbeatWrong : ChangeSpec := { name := "fnAgainHeartbeat", fn := fun _ => fun
  | [d1, d2] => { results := [.lit (.bool false)], args := [d1, d2] }
  | _ => none }
def FnAgainHeartbeatWrongFalsely : Prop := fnAgainHeartbeatRow.holds Try.pinned (OpenSpec.ofChange fnAgainHeartbeatWrong)

/-- 'laws.FnAgainInit': WHATEVER THE INPUT: true; the input reads as it did. -/
def fnAgainInitSpec : ChangeSpec := { name := "fnAgainInit", fn := fun _ => fun
  | [d1, d2] => { results := [.lit (.bool true)], args := [d1, d2] }
  | _ => none }
def fnAgainInitRow : OpenClaim := { program := "ytoljdgfbkebgcaa", sum := "f20149c361c8a3772ee5fee4052e2ef0dfd7aa3972041cb59a46eca87a6dace5", func := "loop.example/pub-g03270/laws.FnAgainInit", spec := "fnAgainInit", unfollowed := true, recurses := true, named := ["encoding/binary.BigEndian"], apart := false }
def FnAgainInitSaid : Prop := fnAgainInitRow.holds Try.pinned (OpenSpec.ofChange fnAgainInitSpec)

/-- ITS FALSE NEIGHBOUR: 'it returns false'. Refute it at one input. -/
def fnAgainInitWrong : ChangeSpec := { name := "fnAgainInit", fn := fun _ => fun
  | [d1, d2] => { results := [.lit (.bool false)], args := [d1, d2] }
  | _ => none }
def FnAgainInitWrongFalsely : Prop := fnAgainInitRow.holds Try.pinned (OpenSpec.ofChange fnAgainInitWrong)

/- THE SECOND FORM. 'bulk': how many values and letters a reading holds, each counted each time it is reached (what is shared counts as often as it is met; a slice's spare places count too). A statement '..UptoSaid' is the law's where the arguments, and the package variables that the reading takes, are together of bulk at most 1048576: NARROWER than '..Said'. Prove '..Said' where nothing that the law and all that it calls make is longer than what came in: it says more and counts as full. Else prove '..UptoSaid'. A law counts once. -/
mutual
def uptoBulk {H : Type} : DataW H → Nat
  | .lit (.string bytes) => bytes.length + 1
  | .lit _ => 1
  | .nil => 1
  | .ptr d => uptoBulk d + 1
  | .slice elems spare => uptoBulkAll elems + uptoBulkAll spare + 1
  | .agg parts => uptoBulkAll parts + 1
  | .iface _ d => uptoBulk d + 1
  | .map entries => uptoBulkEntries entries + 1
  | .held _ => 1
def uptoBulkAll {H : Type} : List (DataW H) → Nat
  | [] => 0
  | d :: r => uptoBulk d + uptoBulkAll r
def uptoBulkEntries {H : Type} : List (Lit × DataW H) → Nat
  | [] => 0
  | x :: r => uptoBulkEntry x + uptoBulkEntries r
def uptoBulkEntry {H : Type} : Lit × DataW H → Nat
  | (.string bytes, d) => bytes.length + uptoBulk d + 1
  | (_, d) => uptoBulk d + 1
 end
def uptoSmall : (H : Type) → List (DataW H) → Bool := fun _ ds => decide (uptoBulkAll ds ≤ 1048576)
def OpenSpec.upto (s : _root_.Go.ChangeSpec) : _root_.Go.OpenSpec := { _root_.Go.OpenSpec.ofChange s with cond := some uptoSmall }

/-- 'laws.FnSum', WHERE WHAT IT READS IS OF BULK AT MOST 1048576: true; the input reads as it did. -/
def fnSumUptoRow : OpenClaim := { program := "ytoljdgfbkebgcaa", sum := "f20149c361c8a3772ee5fee4052e2ef0dfd7aa3972041cb59a46eca87a6dace5", func := "loop.example/pub-g03270/laws.FnSum", spec := "fnSum", unfollowed := true, recurses := true, apart := false, narrowed := true }
def FnSumUptoSaid : Prop := fnSumUptoRow.holds Try.pinned (OpenSpec.upto fnSumSpec)

/-- 'laws.FnHeader', WHERE WHAT IT READS IS OF BULK AT MOST 1048576: true; the input reads as it did. -/
def fnHeaderUptoRow : OpenClaim := { program := "ytoljdgfbkebgcaa", sum := "f20149c361c8a3772ee5fee4052e2ef0dfd7aa3972041cb59a46eca87a6dace5", func := "loop.example/pub-g03270/laws.FnHeader", spec := "fnHeader", unfollowed := true, recurses := true, named := ["encoding/binary.BigEndian"], apart := false, narrowed := true }
def FnHeaderUptoSaid : Prop := fnHeaderUptoRow.holds Try.pinned (OpenSpec.upto fnHeaderSpec)

/-- 'laws.FnAgainSack', WHERE WHAT IT READS IS OF BULK AT MOST 1048576: true; the input reads as it did. -/
def fnAgainSackUptoRow : OpenClaim := { program := "ytoljdgfbkebgcaa", sum := "f20149c361c8a3772ee5fee4052e2ef0dfd7aa3972041cb59a46eca87a6dace5", func := "loop.example/pub-g03270/laws.FnAgainSack", spec := "fnAgainSack", unfollowed := true, recurses := true, named := ["encoding/binary.BigEndian"], apart := false, narrowed := true }
def FnAgainSackUptoSaid : Prop := fnAgainSackUptoRow.holds Try.pinned (OpenSpec.upto fnAgainSackSpec)

/-- 'laws.FnPacket', WHERE WHAT IT READS IS OF BULK AT MOST 1048576: true; the input reads as it did. -/
def fnPacketUptoRow : OpenClaim := { program := "ytoljdgfbkebgcaa", sum := "f20149c361c8a3772ee5fee4052e2ef0dfd7aa3972041cb59a46eca87a6dace5", func := "loop.example/pub-g03270/laws.FnPacket", spec := "fnPacket", unfollowed := true, recurses := true, named := ["encoding/binary.BigEndian"], apart := false, narrowed := true }
def FnPacketUptoSaid : Prop := fnPacketUptoRow.holds Try.pinned (OpenSpec.upto fnPacketSpec)

/-- 'laws.FnReadCookie', WHERE WHAT IT READS IS OF BULK AT MOST 1048576: true; the input reads as it did. -/
def fnReadCookieUptoRow : OpenClaim := { program := "ytoljdgfbkebgcaa", sum := "f20149c361c8a3772ee5fee4052e2ef0dfd7aa3972041cb59a46eca87a6dace5", func := "loop.example/pub-g03270/laws.FnReadCookie", spec := "fnReadCookie", unfollowed := true, recurses := true, named := ["encoding/binary.BigEndian"], apart := false, narrowed := true }
def FnReadCookieUptoSaid : Prop := fnReadCookieUptoRow.holds Try.pinned (OpenSpec.upto fnReadCookieSpec)

/-- 'laws.FnAgainShutdown', WHERE WHAT IT READS IS OF BULK AT MOST 1048576: true; the input reads as it did. -/
def fnAgainShutdownUptoRow : OpenClaim := { program := "ytoljdgfbkebgcaa", sum := "f20149c361c8a3772ee5fee4052e2ef0dfd7aa3972041cb59a46eca87a6dace5", func := "loop.example/pub-g03270/laws.FnAgainShutdown", spec := "fnAgainShutdown", unfollowed := true, recurses := true, named := ["encoding/binary.BigEndian"], apart := false, narrowed := true }
def FnAgainShutdownUptoSaid : Prop := fnAgainShutdownUptoRow.holds Try.pinned (OpenSpec.upto fnAgainShutdownSpec)

/-- 'laws.FnReadData', WHERE WHAT IT READS IS OF BULK AT MOST 1048576: true; the input reads as it did. -/
def fnReadDataUptoRow : OpenClaim := { program := "ytoljdgfbkebgcaa", sum := "f20149c361c8a3772ee5fee4052e2ef0dfd7aa3972041cb59a46eca87a6dace5", func := "loop.example/pub-g03270/laws.FnReadData", spec := "fnReadData", unfollowed := true, recurses := true, named := ["encoding/binary.BigEndian"], apart := false, narrowed := true }
def FnReadDataUptoSaid : Prop := fnReadDataUptoRow.holds Try.pinned (OpenSpec.upto fnReadDataSpec)

/-- 'laws.FnReadEmpty', WHERE WHAT IT READS IS OF BULK AT MOST 1048576: true; the input reads as it did. -/
def fnReadEmptyUptoRow : OpenClaim := { program := "ytoljdgfbkebgcaa", sum := "f20149c361c8a3772ee5fee4052e2ef0dfd7aa3972041cb59a46eca87a6dace5", func := "loop.example/pub-g03270/laws.FnReadEmpty", spec := "fnReadEmpty", unfollowed := true, recurses := true, named := ["encoding/binary.BigEndian"], apart := false, narrowed := true }
def FnReadEmptyUptoSaid : Prop := fnReadEmptyUptoRow.holds Try.pinned (OpenSpec.upto fnReadEmptySpec)

/-- 'laws.FnAgainShutdownAck', WHERE WHAT IT READS IS OF BULK AT MOST 1048576: true; the input reads as it did. -/
def fnAgainShutdownAckUptoRow : OpenClaim := { program := "ytoljdgfbkebgcaa", sum := "f20149c361c8a3772ee5fee4052e2ef0dfd7aa3972041cb59a46eca87a6dace5", func := "loop.example/pub-g03270/laws.FnAgainShutdownAck", spec := "fnAgainShutdownAck", unfollowed := true, recurses := true, named := ["encoding/binary.BigEndian"], apart := false, narrowed := true }
def FnAgainShutdownAckUptoSaid : Prop := fnAgainShutdownAckUptoRow.holds Try.pinned (OpenSpec.upto fnAgainShutdownAckSpec)

/-- 'laws.FnReadError', WHERE WHAT IT READS IS OF BULK AT MOST 1048576: true; the input reads as it did. -/
def fnReadErrorUptoRow : OpenClaim := { program := "ytoljdgfbkebgcaa", sum := "f20149c361c8a3772ee5fee4052e2ef0dfd7aa3972041cb59a46eca87a6dace5", func := "loop.example/pub-g03270/laws.FnReadError", spec := "fnReadError", unfollowed := true, recurses := true, named := ["encoding/binary.BigEndian"], apart := false, narrowed := true }
def FnReadErrorUptoSaid : Prop := fnReadErrorUptoRow.holds Try.pinned (OpenSpec.upto fnReadErrorSpec)

/-- 'laws.FnReadHeartbeat', WHERE WHAT IT READS IS OF BULK AT MOST 1048576: true; the input reads as it did. -/
def fnReadHeartbeatUptoRow : OpenClaim := { program := "ytoljdgfbkebgcaa", sum := "f20149c361c8a3772ee5fee4052e2ef0dfd7aa3972041cb59a46eca87a6dace5", func := "loop.example/pub-g03270/laws.FnReadHeartbeat", spec := "fnReadHeartbeat", unfollowed := true, recurses := true, named := ["encoding/binary.BigEndian"], apart := false, narrowed := true }
def FnReadHeartbeatUptoSaid : Prop := fnReadHeartbeatUptoRow.holds Try.pinned (OpenSpec.upto fnReadHeartbeatSpec)

/-- 'laws.FnReadInit', WHERE WHAT IT READS IS OF BULK AT MOST 1048576: true; the input reads as it did. -/
def fnReadInitUptoRow : OpenClaim := { program := "ytoljdgfbkebgcaa", sum := "f20149c361c8a3772ee5fee4052e2ef0dfd7aa3972041cb59a46eca87a6dace5", func := "loop.example/pub-g03270/laws.FnReadInit", spec := "fnReadInit", unfollowed := true, recurses := true, named := ["encoding/binary.BigEndian"], apart := false, narrowed := true }
def FnReadInitUptoSaid : Prop := fnReadInitUptoRow.holds Try.pinned (OpenSpec.upto fnReadInitSpec)

/-- 'laws.FnReadSack', WHERE WHAT IT READS IS OF BULK AT MOST 1048576: true; the input reads as it did. -/
def fnReadSackUptoRow : OpenClaim := { program := "ytoljdgfbkebgcaa", sum := "f20149c361c8a3772ee5fee4052e2ef0dfd7aa3972041cb59a46eca87a6dace5", func := "loop.example/pub-g03270/laws.FnReadSack", spec := "fnReadSack", unfollowed := true, recurses := true, named := ["encoding/binary.BigEndian"], apart := false, narrowed := true }
def FnReadSackUptoSaid : Prop := fnReadSackUptoRow.holds Try.pinned (OpenSpec.upto fnReadSackSpec)

/-- 'laws.FnReadShutdown', WHERE WHAT IT READS IS OF BULK AT MOST 1048576: true; the input reads as it did. -/
def fnReadShutdownUptoRow : OpenClaim := { program := "ytoljdgfbkebgcaa", sum := "f20149c361c8a3772ee5fee4052e2ef0dfd7aa3972041cb59a46eca87a6dace5", func := "loop.example/pub-g03270/laws.FnReadShutdown", spec := "fnReadShutdown", unfollowed := true, recurses := true, named := ["encoding/binary.BigEndian"], apart := false, narrowed := true }
def FnReadShutdownUptoSaid : Prop := fnReadShutdownUptoRow.holds Try.pinned (OpenSpec.upto fnReadShutdownSpec)

/-- 'laws.FnReadShutdownAck', WHERE WHAT IT READS IS OF BULK AT MOST 1048576: true; the input reads as it did. -/
def fnReadShutdownAckUptoRow : OpenClaim := { program := "ytoljdgfbkebgcaa", sum := "f20149c361c8a3772ee5fee4052e2ef0dfd7aa3972041cb59a46eca87a6dace5", func := "loop.example/pub-g03270/laws.FnReadShutdownAck", spec := "fnReadShutdownAck", unfollowed := true, recurses := true, named := ["encoding/binary.BigEndian"], apart := false, narrowed := true }
def FnReadShutdownAckUptoSaid : Prop := fnReadShutdownAckUptoRow.holds Try.pinned (OpenSpec.upto fnReadShutdownAckSpec)

/-- 'laws.FnReadUnknown', WHERE WHAT IT READS IS OF BULK AT MOST 1048576: true; the input reads as it did. -/
def fnReadUnknownUptoRow : OpenClaim := { program := "ytoljdgfbkebgcaa", sum := "f20149c361c8a3772ee5fee4052e2ef0dfd7aa3972041cb59a46eca87a6dace5", func := "loop.example/pub-g03270/laws.FnReadUnknown", spec := "fnReadUnknown", unfollowed := true, recurses := true, named := ["encoding/binary.BigEndian"], apart := false, narrowed := true }
def FnReadUnknownUptoSaid : Prop := fnReadUnknownUptoRow.holds Try.pinned (OpenSpec.upto fnReadUnknownSpec)

/-- 'laws.FnChunks', WHERE WHAT IT READS IS OF BULK AT MOST 1048576: true; the input reads as it did. -/
def fnChunksUptoRow : OpenClaim := { program := "ytoljdgfbkebgcaa", sum := "f20149c361c8a3772ee5fee4052e2ef0dfd7aa3972041cb59a46eca87a6dace5", func := "loop.example/pub-g03270/laws.FnChunks", spec := "fnChunks", unfollowed := true, recurses := true, named := ["encoding/binary.BigEndian"], apart := false, narrowed := true }
def FnChunksUptoSaid : Prop := fnChunksUptoRow.holds Try.pinned (OpenSpec.upto fnChunksSpec)

/-- 'laws.FnAgainCookie', WHERE WHAT IT READS IS OF BULK AT MOST 1048576: true; the input reads as it did. -/
def fnAgainCookieUptoRow : OpenClaim := { program := "ytoljdgfbkebgcaa", sum := "f20149c361c8a3772ee5fee4052e2ef0dfd7aa3972041cb59a46eca87a6dace5", func := "loop.example/pub-g03270/laws.FnAgainCookie", spec := "fnAgainCookie", unfollowed := true, recurses := true, named := ["encoding/binary.BigEndian"], apart := false, narrowed := true }
def FnAgainCookieUptoSaid : Prop := fnAgainCookieUptoRow.holds Try.pinned (OpenSpec.upto fnAgainCookieSpec)

/-- 'laws.FnAgainData', WHERE WHAT IT READS IS OF BULK AT MOST 1048576: true; the input reads as it did. -/
def fnAgainDataUptoRow : OpenClaim := { program := "ytoljdgfbkebgcaa", sum := "f20149c361c8a3772ee5fee4052e2ef0dfd7aa3972041cb59a46eca87a6dace5", func := "loop.example/pub-g03270/laws.FnAgainData", spec := "fnAgainData", unfollowed := true, recurses := true, named := ["encoding/binary.BigEndian"], apart := false, narrowed := true }
def FnAgainDataUptoSaid : Prop := fnAgainDataUptoRow.holds Try.pinned (OpenSpec.upto fnAgainDataSpec)

/-- 'laws.FnAgainEmpty', WHERE WHAT IT READS IS OF BULK AT MOST 1048576: true; the input reads as it did. -/
def fnAgainEmptyUptoRow : OpenClaim := { program := "ytoljdgfbkebgcaa", sum := "f20149c361c8a3772ee5fee4052e2ef0dfd7aa3972041cb59a46eca87a6dace5", func := "loop.example/pub-g03270/laws.FnAgainEmpty", spec := "fnAgainEmpty", unfollowed := true, recurses := true, named := ["encoding/binary.BigEndian"], apart := false, narrowed := true }
def FnAgainEmptyUptoSaid : Prop := fnAgainEmptyUptoRow.holds Try.pinned (OpenSpec.upto fnAgainEmptySpec)

/-- 'laws.FnAgainError', WHERE WHAT IT READS IS OF BULK AT MOST 1048576: true; the input reads as it did. -/
def fnAgainErrorUptoRow : OpenClaim := { program := "ytoljdgfbkebgcaa", sum := "f20149c361c8a3772ee5fee4052e2ef0dfd7aa3972041cb59a46eca87a6dace5", func := "loop.example/pub-g03270/laws.FnAgainError", spec := "fnAgainError", unfollowed := true, recurses := true, named := ["encoding/binary.BigEndian"], apart := false, narrowed := true }
def FnAgainErrorUptoSaid : Prop := fnAgainErrorUptoRow.holds Try.pinned (OpenSpec.upto fnAgainErrorSpec)

/-- 'laws.FnAgainHeartbeat', WHERE WHAT IT READS IS OF BULK AT MOST 1048576: true; the input reads as it did. -/
def fnAgainHeartbeatUptoRow : OpenClaim := { program := "ytoljdgfbkebgcaa", sum := "f20149c361c8a3772ee5fee4052e2ef0dfd7aa3972041cb59a46eca87a6dace5", func := "loop.example/pub-g03270/laws.FnAgainHeartbeat", spec := "fnAgainHeartbeat", unfollowed := true, recurses := true, named := ["encoding/binary.BigEndian"], apart := false, narrowed := true }
def FnAgainHeartbeatUptoSaid : Prop := fnAgainHeartbeatUptoRow.holds Try.pinned (OpenSpec.upto fnAgainHeartbeatSpec)

/-- 'laws.FnAgainInit', WHERE WHAT IT READS IS OF BULK AT MOST 1048576: true; the input reads as it did. -/
def fnAgainInitUptoRow : OpenClaim := { program := "ytoljdgfbkebgcaa", sum := "f20149c361c8a3772ee5fee4052e2ef0dfd7aa3972041cb59a46eca87a6dace5", func := "loop.example/pub-g03270/laws.FnAgainInit", spec := "fnAgainInit", unfollowed := true, recurses := true, named := ["encoding/binary.BigEndian"], apart := false, narrowed := true }
def FnAgainInitUptoSaid : Prop := fnAgainInitUptoRow.holds Try.pinned (OpenSpec.upto fnAgainInitSpec)

end Rows
end Go.Proofs.Ytoljdgfbkebgcaa
