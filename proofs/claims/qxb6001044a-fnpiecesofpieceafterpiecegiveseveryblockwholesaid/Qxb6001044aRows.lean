/-
  No cell of these rows narrows 'for every input' (looked for: loops, veiled, ifaces, maps, wideKeys, modest, calm, conditions, laid).
  DERIVED. THE GIVEN ROWS OF THIS SEAT. 5 by the template 'for every input the law returns true; each argument reads behind the call as it read before'; 0 by the template 'total and deterministic' (their statements: Qxb6001044aTotals.lean).
  GIVEN WITH THE SEED: the statements are not yours to turn. If you find one false, say at which input.
  Laid BY PROGRAM, IN A SANDBOX (cutbox-rows.mjs): the forced cells as the released guide's own fill.sh prints them over the translation c238624490deea5c… (all of the seat's roots in one cut). By AI agents, Wed Nov 11 2026. No macro, syntax, notation, axiom, sorry.
-/
import Derived.Test.Qxb6001044aChecked
import GoSem.Claim
import GoSem.ClaimJoined
import GoSem.ClaimMapViews
import Derived.JoinedTies
import Derived.KernelRfl
namespace Go.Proofs.Qxb6001044a
/- THE CELL 'sum', in the pinned program and in every row, IS THE sha256 OF THE DUMP (.gsa) THAT Qxb6001044aProg.lean LOADS. Nothing in Lean hashes anything: it is a label: what it is worth is what the hold of that sum in a sandbox is worth. -/
noncomputable def Try.pinned : Pinned := { name := "qxb6001044a", sum := "c238624490deea5cc7a5b5a1a53e05faeaffb445323c8803ef317782dd03fb8a", checked := Try.checked }
namespace Rows
def none {H : Type} : Left H := { results := [], args := [] }

/-- 'zzlaws_internal_node_b1.FnPiecesOfPieceAfterPieceGivesEveryBlockWhole': WHATEVER THE INPUT: true; the input reads as it did. -/
def fnPiecesOfPieceAfterPieceGivesEveryBlockWholeSpec : ChangeSpec := { name := "fnPiecesOfPieceAfterPieceGivesEveryBlockWhole", fn := fun _ => fun
  | [d1, d2, d3, d4, d5] => { results := [.lit (.bool true)], args := [d1, d2, d3, d4, d5] }
  | _ => none }
def fnPiecesOfPieceAfterPieceGivesEveryBlockWholeRow : OpenClaim := { program := "qxb6001044a", sum := "c238624490deea5cc7a5b5a1a53e05faeaffb445323c8803ef317782dd03fb8a", func := "example.com/quorumweave/quorumweave/zzlaws_internal_node_b1.FnPiecesOfPieceAfterPieceGivesEveryBlockWhole", spec := "fnPiecesOfPieceAfterPieceGivesEveryBlockWhole", plainKeys := false, apart := false }
def FnPiecesOfPieceAfterPieceGivesEveryBlockWholeSaid : Prop := fnPiecesOfPieceAfterPieceGivesEveryBlockWholeRow.holds Try.pinned (OpenSpec.ofChange fnPiecesOfPieceAfterPieceGivesEveryBlockWholeSpec)

/-- ITS FALSE NEIGHBOUR: 'it returns false'. Refute it at one input. -/
def fnPiecesOfPieceAfterPieceGivesEveryBlockWholeWrong : ChangeSpec := { name := "fnPiecesOfPieceAfterPieceGivesEveryBlockWhole", fn := fun _ => fun
  | [d1, d2, d3, d4, d5] => { results := [.lit (.bool false)], args := [d1, d2, d3, d4, d5] }
  | _ => none }
def FnPiecesOfPieceAfterPieceGivesEveryBlockWholeWrongFalsely : Prop := fnPiecesOfPieceAfterPieceGivesEveryBlockWholeRow.holds Try.pinned (OpenSpec.ofChange fnPiecesOfPieceAfterPieceGivesEveryBlockWholeWrong)

/-- 'zzlaws_internal_node_b1.FnPiecesOfStopsAtSyncPartAndNotBefore': WHATEVER THE INPUT: true; the input reads as it did. -/
def fnPiecesOfStopsAtSyncPartAndNotBeforeSpec : ChangeSpec := { name := "fnPiecesOfStopsAtSyncPartAndNotBefore", fn := fun _ => fun
  | [d1, d2, d3, d4, d5] => { results := [.lit (.bool true)], args := [d1, d2, d3, d4, d5] }
  | _ => none }
def fnPiecesOfStopsAtSyncPartAndNotBeforeRow : OpenClaim := { program := "qxb6001044a", sum := "c238624490deea5cc7a5b5a1a53e05faeaffb445323c8803ef317782dd03fb8a", func := "example.com/quorumweave/quorumweave/zzlaws_internal_node_b1.FnPiecesOfStopsAtSyncPartAndNotBefore", spec := "fnPiecesOfStopsAtSyncPartAndNotBefore", plainKeys := false, apart := false }
def FnPiecesOfStopsAtSyncPartAndNotBeforeSaid : Prop := fnPiecesOfStopsAtSyncPartAndNotBeforeRow.holds Try.pinned (OpenSpec.ofChange fnPiecesOfStopsAtSyncPartAndNotBeforeSpec)

/-- ITS FALSE NEIGHBOUR: 'it returns false'. Refute it at one input. -/
def fnPiecesOfStopsAtSyncPartAndNotBeforeWrong : ChangeSpec := { name := "fnPiecesOfStopsAtSyncPartAndNotBefore", fn := fun _ => fun
  | [d1, d2, d3, d4, d5] => { results := [.lit (.bool false)], args := [d1, d2, d3, d4, d5] }
  | _ => none }
def FnPiecesOfStopsAtSyncPartAndNotBeforeWrongFalsely : Prop := fnPiecesOfStopsAtSyncPartAndNotBeforeRow.holds Try.pinned (OpenSpec.ofChange fnPiecesOfStopsAtSyncPartAndNotBeforeWrong)

/-- 'zzlaws_internal_node_b1.FnLogEntryValidHangsOnWhichFieldsAreSetAlone': WHATEVER THE INPUT: true; the input reads as it did. -/
def fnLogEntryValidHangsOnWhichFieldsAreSetAloneSpec : ChangeSpec := { name := "fnLogEntryValidHangsOnWhichFieldsAreSetAlone", fn := fun _ => fun
  | [d1, d2, d3, d4, d5, d6, d7, d8, d9, d10, d11] => { results := [.lit (.bool true)], args := [d1, d2, d3, d4, d5, d6, d7, d8, d9, d10, d11] }
  | _ => none }
def fnLogEntryValidHangsOnWhichFieldsAreSetAloneRow : OpenClaim := { program := "qxb6001044a", sum := "c238624490deea5cc7a5b5a1a53e05faeaffb445323c8803ef317782dd03fb8a", func := "example.com/quorumweave/quorumweave/zzlaws_internal_node_b1.FnLogEntryValidHangsOnWhichFieldsAreSetAlone", spec := "fnLogEntryValidHangsOnWhichFieldsAreSetAlone", plainKeys := false, apart := false }
def FnLogEntryValidHangsOnWhichFieldsAreSetAloneSaid : Prop := fnLogEntryValidHangsOnWhichFieldsAreSetAloneRow.holds Try.pinned (OpenSpec.ofChange fnLogEntryValidHangsOnWhichFieldsAreSetAloneSpec)

/-- ITS FALSE NEIGHBOUR: 'it returns false'. Refute it at one input. -/
def fnLogEntryValidHangsOnWhichFieldsAreSetAloneWrong : ChangeSpec := { name := "fnLogEntryValidHangsOnWhichFieldsAreSetAlone", fn := fun _ => fun
  | [d1, d2, d3, d4, d5, d6, d7, d8, d9, d10, d11] => { results := [.lit (.bool false)], args := [d1, d2, d3, d4, d5, d6, d7, d8, d9, d10, d11] }
  | _ => none }
def FnLogEntryValidHangsOnWhichFieldsAreSetAloneWrongFalsely : Prop := fnLogEntryValidHangsOnWhichFieldsAreSetAloneRow.holds Try.pinned (OpenSpec.ofChange fnLogEntryValidHangsOnWhichFieldsAreSetAloneWrong)

/-- 'zzlaws_internal_node_b1.FnLogEntryRoundOfAValidEntryIsTheRoundItRecords': WHATEVER THE INPUT: true; the input reads as it did. -/
def fnLogEntryRoundOfAValidEntryIsTheRoundItRecordsSpec : ChangeSpec := { name := "fnLogEntryRoundOfAValidEntryIsTheRoundItRecords", fn := fun _ => fun
  | [d1, d2, d3, d4, d5, d6, d7] => { results := [.lit (.bool true)], args := [d1, d2, d3, d4, d5, d6, d7] }
  | _ => none }
def fnLogEntryRoundOfAValidEntryIsTheRoundItRecordsRow : OpenClaim := { program := "qxb6001044a", sum := "c238624490deea5cc7a5b5a1a53e05faeaffb445323c8803ef317782dd03fb8a", func := "example.com/quorumweave/quorumweave/zzlaws_internal_node_b1.FnLogEntryRoundOfAValidEntryIsTheRoundItRecords", spec := "fnLogEntryRoundOfAValidEntryIsTheRoundItRecords", plainKeys := false, apart := false }
def FnLogEntryRoundOfAValidEntryIsTheRoundItRecordsSaid : Prop := fnLogEntryRoundOfAValidEntryIsTheRoundItRecordsRow.holds Try.pinned (OpenSpec.ofChange fnLogEntryRoundOfAValidEntryIsTheRoundItRecordsSpec)

/-- ITS FALSE NEIGHBOUR: 'it returns false'. Refute it at one input. -/
def fnLogEntryRoundOfAValidEntryIsTheRoundItRecordsWrong : ChangeSpec := { name := "fnLogEntryRoundOfAValidEntryIsTheRoundItRecords", fn := fun _ => fun
  | [d1, d2, d3, d4, d5, d6, d7] => { results := [.lit (.bool false)], args := [d1, d2, d3, d4, d5, d6, d7] }
  | _ => none }
def FnLogEntryRoundOfAValidEntryIsTheRoundItRecordsWrongFalsely : Prop := fnLogEntryRoundOfAValidEntryIsTheRoundItRecordsRow.holds Try.pinned (OpenSpec.ofChange fnLogEntryRoundOfAValidEntryIsTheRoundItRecordsWrong)

/-- 'zzlaws_internal_node_b1.FnLogEntryRoundIgnoresTheFloorAndNamesASetField': WHATEVER THE INPUT: true; the input reads as it did. -/
def fnLogEntryRoundIgnoresTheFloorAndNamesASetFieldSpec : ChangeSpec := { name := "fnLogEntryRoundIgnoresTheFloorAndNamesASetField", fn := fun _ => fun
  | [d1, d2, d3, d4, d5, d6, d7] => { results := [.lit (.bool true)], args := [d1, d2, d3, d4, d5, d6, d7] }
  | _ => none }
def fnLogEntryRoundIgnoresTheFloorAndNamesASetFieldRow : OpenClaim := { program := "qxb6001044a", sum := "c238624490deea5cc7a5b5a1a53e05faeaffb445323c8803ef317782dd03fb8a", func := "example.com/quorumweave/quorumweave/zzlaws_internal_node_b1.FnLogEntryRoundIgnoresTheFloorAndNamesASetField", spec := "fnLogEntryRoundIgnoresTheFloorAndNamesASetField", plainKeys := false, apart := false }
def FnLogEntryRoundIgnoresTheFloorAndNamesASetFieldSaid : Prop := fnLogEntryRoundIgnoresTheFloorAndNamesASetFieldRow.holds Try.pinned (OpenSpec.ofChange fnLogEntryRoundIgnoresTheFloorAndNamesASetFieldSpec)

/-- ITS FALSE NEIGHBOUR: 'it returns false'. Refute it at one input. -/
def fnLogEntryRoundIgnoresTheFloorAndNamesASetFieldWrong : ChangeSpec := { name := "fnLogEntryRoundIgnoresTheFloorAndNamesASetField", fn := fun _ => fun
  | [d1, d2, d3, d4, d5, d6, d7] => { results := [.lit (.bool false)], args := [d1, d2, d3, d4, d5, d6, d7] }
  | _ => none }
def FnLogEntryRoundIgnoresTheFloorAndNamesASetFieldWrongFalsely : Prop := fnLogEntryRoundIgnoresTheFloorAndNamesASetFieldRow.holds Try.pinned (OpenSpec.ofChange fnLogEntryRoundIgnoresTheFloorAndNamesASetFieldWrong)

end Rows
end Go.Proofs.Qxb6001044a
