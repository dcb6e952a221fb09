/-
  No cell of these rows narrows 'for every input' (looked for: loops, veiled, ifaces, maps, wideKeys, modest, calm, conditions, laid).
  DERIVED. THE GIVEN ROWS OF THIS SEAT. 6 by the template 'for every input the law returns true; each argument reads behind the call as it read before'; 0 by the template 'total and deterministic' (their statements: Qxb6000626aTotals.lean).
  GIVEN WITH THE SEED: the statements are not yours to turn. If you find one false, say at which input.
  Laid BY PROGRAM, IN A SANDBOX (cutbox-rows.mjs): the forced cells as the released guide's own fill.sh prints them over the translation 1299686c66fac33e… (all of the seat's roots in one cut). By AI agents, Wed Nov 11 2026. No macro, syntax, notation, axiom, sorry.
-/
import Derived.Test.Qxb6000626aChecked
import GoSem.Claim
import GoSem.ClaimJoined
import GoSem.ClaimMapViews
import Derived.JoinedTies
import Derived.KernelRfl
namespace Go.Proofs.Qxb6000626a
/- THE CELL 'sum', in the pinned program and in every row, IS THE sha256 OF THE DUMP (.gsa) THAT Qxb6000626aProg.lean LOADS. Nothing in Lean hashes anything: it is a label: what it is worth is what the hold of that sum in a sandbox is worth. -/
noncomputable def Try.pinned : Pinned := { name := "qxb6000626a", sum := "1299686c66fac33ea030abcd4be32a394eb9968405d4774c662c67ccb0ff1d38", checked := Try.checked }
namespace Rows
def none {H : Type} : Left H := { results := [], args := [] }

/-- 'zzlaws_root_b1.FnRecordReaderByteReadsInputInOrder': WHATEVER THE INPUT: true; the input reads as it did. -/
def fnRecordReaderByteReadsInputInOrderSpec : ChangeSpec := { name := "fnRecordReaderByteReadsInputInOrder", fn := fun _ => fun
  | [d1, d2, d3] => { results := [.lit (.bool true)], args := [d1, d2, d3] }
  | _ => none }
def fnRecordReaderByteReadsInputInOrderRow : OpenClaim := { program := "qxb6000626a", sum := "1299686c66fac33ea030abcd4be32a394eb9968405d4774c662c67ccb0ff1d38", func := "example.com/sightline/sightline/zzlaws_root_b1.FnRecordReaderByteReadsInputInOrder", spec := "fnRecordReaderByteReadsInputInOrder", apart := false }
def FnRecordReaderByteReadsInputInOrderSaid : Prop := fnRecordReaderByteReadsInputInOrderRow.holds Try.pinned (OpenSpec.ofChange fnRecordReaderByteReadsInputInOrderSpec)

/-- ITS FALSE NEIGHBOUR: 'it returns false'. Refute it at one input. -/
def fnRecordReaderByteReadsInputInOrderWrong : ChangeSpec := { name := "fnRecordReaderByteReadsInputInOrder", fn := fun _ => fun
  | [d1, d2, d3] => { results := [.lit (.bool false)], args := [d1, d2, d3] }
  | _ => none }
def FnRecordReaderByteReadsInputInOrderWrongFalsely : Prop := fnRecordReaderByteReadsInputInOrderRow.holds Try.pinned (OpenSpec.ofChange fnRecordReaderByteReadsInputInOrderWrong)

/-- 'zzlaws_root_b1.FnRecordReaderByteRefusesPastEnd': WHATEVER THE INPUT: true; the input reads as it did. -/
def fnRecordReaderByteRefusesPastEndSpec : ChangeSpec := { name := "fnRecordReaderByteRefusesPastEnd", fn := fun _ => fun
  | [d1, d2] => { results := [.lit (.bool true)], args := [d1, d2] }
  | _ => none }
def fnRecordReaderByteRefusesPastEndRow : OpenClaim := { program := "qxb6000626a", sum := "1299686c66fac33ea030abcd4be32a394eb9968405d4774c662c67ccb0ff1d38", func := "example.com/sightline/sightline/zzlaws_root_b1.FnRecordReaderByteRefusesPastEnd", spec := "fnRecordReaderByteRefusesPastEnd", apart := false }
def FnRecordReaderByteRefusesPastEndSaid : Prop := fnRecordReaderByteRefusesPastEndRow.holds Try.pinned (OpenSpec.ofChange fnRecordReaderByteRefusesPastEndSpec)

/-- ITS FALSE NEIGHBOUR: 'it returns false'. Refute it at one input. -/
def fnRecordReaderByteRefusesPastEndWrong : ChangeSpec := { name := "fnRecordReaderByteRefusesPastEnd", fn := fun _ => fun
  | [d1, d2] => { results := [.lit (.bool false)], args := [d1, d2] }
  | _ => none }
def FnRecordReaderByteRefusesPastEndWrongFalsely : Prop := fnRecordReaderByteRefusesPastEndRow.holds Try.pinned (OpenSpec.ofChange fnRecordReaderByteRefusesPastEndWrong)

/-- 'zzlaws_root_b1.FnCopyRowRoundTrip': WHATEVER THE INPUT: true; the input reads as it did. -/
def fnCopyRowRoundTripSpec : ChangeSpec := { name := "fnCopyRowRoundTrip", fn := fun _ => fun
  | [d1, d2] => { results := [.lit (.bool true)], args := [d1, d2] }
  | _ => none }
def fnCopyRowRoundTripRow : OpenClaim := { program := "qxb6000626a", sum := "1299686c66fac33ea030abcd4be32a394eb9968405d4774c662c67ccb0ff1d38", func := "example.com/sightline/sightline/zzlaws_root_b1.FnCopyRowRoundTrip", spec := "fnCopyRowRoundTrip", apart := false }
def FnCopyRowRoundTripSaid : Prop := fnCopyRowRoundTripRow.holds Try.pinned (OpenSpec.ofChange fnCopyRowRoundTripSpec)

/-- ITS FALSE NEIGHBOUR: 'it returns false'. Refute it at one input. -/
def fnCopyRowRoundTripWrong : ChangeSpec := { name := "fnCopyRowRoundTrip", fn := fun _ => fun
  | [d1, d2] => { results := [.lit (.bool false)], args := [d1, d2] }
  | _ => none }
def FnCopyRowRoundTripWrongFalsely : Prop := fnCopyRowRoundTripRow.holds Try.pinned (OpenSpec.ofChange fnCopyRowRoundTripWrong)

/-- 'zzlaws_root_b1.FnCopyRowOwnsItsMemory': WHATEVER THE INPUT: true; the input reads as it did. -/
def fnCopyRowOwnsItsMemorySpec : ChangeSpec := { name := "fnCopyRowOwnsItsMemory", fn := fun _ => fun
  | [d1, d2] => { results := [.lit (.bool true)], args := [d1, d2] }
  | _ => none }
def fnCopyRowOwnsItsMemoryRow : OpenClaim := { program := "qxb6000626a", sum := "1299686c66fac33ea030abcd4be32a394eb9968405d4774c662c67ccb0ff1d38", func := "example.com/sightline/sightline/zzlaws_root_b1.FnCopyRowOwnsItsMemory", spec := "fnCopyRowOwnsItsMemory", apart := false }
def FnCopyRowOwnsItsMemorySaid : Prop := fnCopyRowOwnsItsMemoryRow.holds Try.pinned (OpenSpec.ofChange fnCopyRowOwnsItsMemorySpec)

/-- ITS FALSE NEIGHBOUR: 'it returns false'. Refute it at one input. -/
def fnCopyRowOwnsItsMemoryWrong : ChangeSpec := { name := "fnCopyRowOwnsItsMemory", fn := fun _ => fun
  | [d1, d2] => { results := [.lit (.bool false)], args := [d1, d2] }
  | _ => none }
def FnCopyRowOwnsItsMemoryWrongFalsely : Prop := fnCopyRowOwnsItsMemoryRow.holds Try.pinned (OpenSpec.ofChange fnCopyRowOwnsItsMemoryWrong)

/-- 'zzlaws_root_b1.FnCopierCopiesEachSlice': WHATEVER THE INPUT: true; the input reads as it did. -/
def fnCopierCopiesEachSliceSpec : ChangeSpec := { name := "fnCopierCopiesEachSlice", fn := fun _ => fun
  | [d] => { results := [.lit (.bool true)], args := [d] }
  | _ => none }
def fnCopierCopiesEachSliceRow : OpenClaim := { program := "qxb6000626a", sum := "1299686c66fac33ea030abcd4be32a394eb9968405d4774c662c67ccb0ff1d38", func := "example.com/sightline/sightline/zzlaws_root_b1.FnCopierCopiesEachSlice", spec := "fnCopierCopiesEachSlice", apart := false }
def FnCopierCopiesEachSliceSaid : Prop := fnCopierCopiesEachSliceRow.holds Try.pinned (OpenSpec.ofChange fnCopierCopiesEachSliceSpec)

/-- ITS FALSE NEIGHBOUR: 'it returns false'. Refute it at one input. -/
def fnCopierCopiesEachSliceWrong : ChangeSpec := { name := "fnCopierCopiesEachSlice", fn := fun _ => fun
  | [d] => { results := [.lit (.bool false)], args := [d] }
  | _ => none }
def FnCopierCopiesEachSliceWrongFalsely : Prop := fnCopierCopiesEachSliceRow.holds Try.pinned (OpenSpec.ofChange fnCopierCopiesEachSliceWrong)

/-- 'zzlaws_root_b1.FnCopierCopiesAreDisjoint': WHATEVER THE INPUT: true; the input reads as it did. -/
def fnCopierCopiesAreDisjointSpec : ChangeSpec := { name := "fnCopierCopiesAreDisjoint", fn := fun _ => fun
  | [d] => { results := [.lit (.bool true)], args := [d] }
  | _ => none }
def fnCopierCopiesAreDisjointRow : OpenClaim := { program := "qxb6000626a", sum := "1299686c66fac33ea030abcd4be32a394eb9968405d4774c662c67ccb0ff1d38", func := "example.com/sightline/sightline/zzlaws_root_b1.FnCopierCopiesAreDisjoint", spec := "fnCopierCopiesAreDisjoint", apart := false }
def FnCopierCopiesAreDisjointSaid : Prop := fnCopierCopiesAreDisjointRow.holds Try.pinned (OpenSpec.ofChange fnCopierCopiesAreDisjointSpec)

/-- ITS FALSE NEIGHBOUR: 'it returns false'. Refute it at one input. -/
def fnCopierCopiesAreDisjointWrong : ChangeSpec := { name := "fnCopierCopiesAreDisjoint", fn := fun _ => fun
  | [d] => { results := [.lit (.bool false)], args := [d] }
  | _ => none }
def FnCopierCopiesAreDisjointWrongFalsely : Prop := fnCopierCopiesAreDisjointRow.holds Try.pinned (OpenSpec.ofChange fnCopierCopiesAreDisjointWrong)

end Rows
end Go.Proofs.Qxb6000626a
