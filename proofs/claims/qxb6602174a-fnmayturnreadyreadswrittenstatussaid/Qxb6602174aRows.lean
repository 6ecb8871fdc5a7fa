/-
  No cell of these rows narrows 'for every input' (looked for: loops, veiled, ifaces, maps, wideKeys, modest, calm, conditions, laid).
  DERIVED. THE GIVEN ROWS OF THIS SEAT. 4 by the template 'for every input the law returns true; each argument reads behind the call as it read before'; 0 by the template 'total and deterministic' (their statements: Qxb6602174aTotals.lean).
  GIVEN WITH THE SEED: the statements are not yours to turn. If you find one false, say at which input.
  Laid BY PROGRAM, IN A SANDBOX (cutbox-rows.mjs): the forced cells as the released guide's own fill.sh prints them over the translation 13b1ab5071be27f5… (all of the seat's roots in one cut). By AI agents, Wed Nov 11 2026. No macro, syntax, notation, axiom, sorry.
-/
import Derived.Test.Qxb6602174aChecked
import GoSem.Claim
import GoSem.ClaimJoined
import GoSem.ClaimMapViews
import Derived.JoinedTies
import Derived.KernelRfl
namespace Go.Proofs.Qxb6602174a
/- THE CELL 'sum', in the pinned program and in every row, IS THE sha256 OF THE DUMP (.gsa) THAT Qxb6602174aProg.lean LOADS. Nothing in Lean hashes anything: it is a label: what it is worth is what the hold of that sum in a sandbox is worth. -/
noncomputable def Try.pinned : Pinned := { name := "qxb6602174a", sum := "13b1ab5071be27f5572304fb36509c86480833e7b9b5e41a46fa02ad366036d5", checked := Try.checked }
namespace Rows
def none {H : Type} : Left H := { results := [], args := [] }

/-- 'zzlaws_state_b1.FnReadObjectKeyMatchesQuoteSegments': WHATEVER THE INPUT: true; the input reads as it did. -/
def fnReadObjectKeyMatchesQuoteSegmentsSpec : ChangeSpec := { name := "fnReadObjectKeyMatchesQuoteSegments", fn := fun _ => fun
  | [d1, d2] => { results := [.lit (.bool true)], args := [d1, d2] }
  | _ => none }
def fnReadObjectKeyMatchesQuoteSegmentsRow : OpenClaim := { program := "qxb6602174a", sum := "13b1ab5071be27f5572304fb36509c86480833e7b9b5e41a46fa02ad366036d5", func := "example.com/rollcall/rollcall/zzlaws_state_b1.FnReadObjectKeyMatchesQuoteSegments", spec := "fnReadObjectKeyMatchesQuoteSegments", inPlace := ["internal/bytealg.IndexByte"], apart := false }
def FnReadObjectKeyMatchesQuoteSegmentsSaid : Prop := fnReadObjectKeyMatchesQuoteSegmentsRow.holds Try.pinned (OpenSpec.ofChange fnReadObjectKeyMatchesQuoteSegmentsSpec)

/-- ITS FALSE NEIGHBOUR: 'it returns false'. Refute it at one input. -/
def fnReadObjectKeyMatchesQuoteSegmentsWrong : ChangeSpec := { name := "fnReadObjectKeyMatchesQuoteSegments", fn := fun _ => fun
  | [d1, d2] => { results := [.lit (.bool false)], args := [d1, d2] }
  | _ => none }
def FnReadObjectKeyMatchesQuoteSegmentsWrongFalsely : Prop := fnReadObjectKeyMatchesQuoteSegmentsRow.holds Try.pinned (OpenSpec.ofChange fnReadObjectKeyMatchesQuoteSegmentsWrong)

/-- 'zzlaws_state_b1.FnReadObjectKeyReadsBackWhatAppendWrites': WHATEVER THE INPUT: true; the input reads as it did. -/
def fnReadObjectKeyReadsBackWhatAppendWritesSpec : ChangeSpec := { name := "fnReadObjectKeyReadsBackWhatAppendWrites", fn := fun _ => fun
  | [d1, d2, d3, d4, d5] => { results := [.lit (.bool true)], args := [d1, d2, d3, d4, d5] }
  | _ => none }
def fnReadObjectKeyReadsBackWhatAppendWritesRow : OpenClaim := { program := "qxb6602174a", sum := "13b1ab5071be27f5572304fb36509c86480833e7b9b5e41a46fa02ad366036d5", func := "example.com/rollcall/rollcall/zzlaws_state_b1.FnReadObjectKeyReadsBackWhatAppendWrites", spec := "fnReadObjectKeyReadsBackWhatAppendWrites", inPlace := ["internal/bytealg.IndexByte"], apart := false }
def FnReadObjectKeyReadsBackWhatAppendWritesSaid : Prop := fnReadObjectKeyReadsBackWhatAppendWritesRow.holds Try.pinned (OpenSpec.ofChange fnReadObjectKeyReadsBackWhatAppendWritesSpec)

/-- ITS FALSE NEIGHBOUR: 'it returns false'. Refute it at one input. -/
def fnReadObjectKeyReadsBackWhatAppendWritesWrong : ChangeSpec := { name := "fnReadObjectKeyReadsBackWhatAppendWrites", fn := fun _ => fun
  | [d1, d2, d3, d4, d5] => { results := [.lit (.bool false)], args := [d1, d2, d3, d4, d5] }
  | _ => none }
def FnReadObjectKeyReadsBackWhatAppendWritesWrongFalsely : Prop := fnReadObjectKeyReadsBackWhatAppendWritesRow.holds Try.pinned (OpenSpec.ofChange fnReadObjectKeyReadsBackWhatAppendWritesWrong)

/-- 'zzlaws_state_b1.FnMayTurnReadyTwoReadinesses': WHATEVER THE INPUT: true; the input reads as it did. -/
def fnMayTurnReadyTwoReadinessesSpec : ChangeSpec := { name := "fnMayTurnReadyTwoReadinesses", fn := fun _ => fun
  | [d] => { results := [.lit (.bool true)], args := [d] }
  | _ => none }
def fnMayTurnReadyTwoReadinessesRow : OpenClaim := { program := "qxb6602174a", sum := "13b1ab5071be27f5572304fb36509c86480833e7b9b5e41a46fa02ad366036d5", func := "example.com/rollcall/rollcall/zzlaws_state_b1.FnMayTurnReadyTwoReadinesses", spec := "fnMayTurnReadyTwoReadinesses", inPlace := ["internal/bytealg.IndexByte", "internal/bytealg.Index"], named := ["internal/bytealg.MaxLen"], apart := false }
def FnMayTurnReadyTwoReadinessesSaid : Prop := fnMayTurnReadyTwoReadinessesRow.holds Try.pinned (OpenSpec.ofChange fnMayTurnReadyTwoReadinessesSpec)

/-- ITS FALSE NEIGHBOUR: 'it returns false'. Refute it at one input. -/
def fnMayTurnReadyTwoReadinessesWrong : ChangeSpec := { name := "fnMayTurnReadyTwoReadinesses", fn := fun _ => fun
  | [d] => { results := [.lit (.bool false)], args := [d] }
  | _ => none }
def FnMayTurnReadyTwoReadinessesWrongFalsely : Prop := fnMayTurnReadyTwoReadinessesRow.holds Try.pinned (OpenSpec.ofChange fnMayTurnReadyTwoReadinessesWrong)

/-- 'zzlaws_state_b1.FnMayTurnReadyReadsWrittenStatus': WHATEVER THE INPUT: true; the input reads as it did. -/
def fnMayTurnReadyReadsWrittenStatusSpec : ChangeSpec := { name := "fnMayTurnReadyReadsWrittenStatus", fn := fun _ => fun
  | [d1, d2, d3, d4] => { results := [.lit (.bool true)], args := [d1, d2, d3, d4] }
  | _ => none }
def fnMayTurnReadyReadsWrittenStatusRow : OpenClaim := { program := "qxb6602174a", sum := "13b1ab5071be27f5572304fb36509c86480833e7b9b5e41a46fa02ad366036d5", func := "example.com/rollcall/rollcall/zzlaws_state_b1.FnMayTurnReadyReadsWrittenStatus", spec := "fnMayTurnReadyReadsWrittenStatus", inPlace := ["internal/bytealg.IndexByte", "internal/bytealg.Index"], named := ["internal/bytealg.MaxLen"], apart := false }
def FnMayTurnReadyReadsWrittenStatusSaid : Prop := fnMayTurnReadyReadsWrittenStatusRow.holds Try.pinned (OpenSpec.ofChange fnMayTurnReadyReadsWrittenStatusSpec)

/-- ITS FALSE NEIGHBOUR: 'it returns false'. Refute it at one input. -/
def fnMayTurnReadyReadsWrittenStatusWrong : ChangeSpec := { name := "fnMayTurnReadyReadsWrittenStatus", fn := fun _ => fun
  | [d1, d2, d3, d4] => { results := [.lit (.bool false)], args := [d1, d2, d3, d4] }
  | _ => none }
def FnMayTurnReadyReadsWrittenStatusWrongFalsely : Prop := fnMayTurnReadyReadsWrittenStatusRow.holds Try.pinned (OpenSpec.ofChange fnMayTurnReadyReadsWrittenStatusWrong)

end Rows
end Go.Proofs.Qxb6602174a
