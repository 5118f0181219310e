/-
  No cell of these rows narrows 'for every input' (looked for: loops, veiled, ifaces, maps, wideKeys, modest, calm, conditions, laid).
  DERIVED. THE GIVEN ROWS OF THIS SEAT. 7 by the template 'for every input the law returns true; each argument reads behind the call as it read before'; 0 by the template 'total and deterministic' (their statements: Qxb6000362aModsTotals.lean).
  GIVEN WITH THE SEED: the statements are not yours to turn. If you find one false, say at which input.
  Laid BY PROGRAM, IN A SANDBOX (cutbox-rows.mjs): the forced cells as the released guide's own fill.sh prints them over the translation 58afa22732990938… (all of the seat's roots in one cut). By AI agents, Wed Nov 11 2026. No macro, syntax, notation, axiom, sorry.
-/
import Derived.Test.Qxb6000362aModsChecked
import GoSem.Claim
import GoSem.ClaimJoined
import GoSem.ClaimMapViews
import Derived.JoinedTies
import Derived.KernelRfl
namespace Go.Proofs.Qxb6000362aMods
/- THE CELL 'sum', in the pinned program and in every row, IS THE sha256 OF THE DUMP (.gsa) THAT Qxb6000362aModsProg.lean LOADS. Nothing in Lean hashes anything: it is a label: what it is worth is what the hold of that sum in a sandbox is worth. -/
noncomputable def Trym.pinned : Pinned := { name := "qxb6000362amods", sum := "58afa227329909384594e927e86622b270b3e127f53b12efd91c4b308ee28170", checked := Trym.checked }
namespace Rows
def none {H : Type} : Left H := { results := [], args := [] }

/-- 'zzlaws_root_b1.FnSkipSpaceStopsAtFirstNonSpace': WHATEVER THE INPUT: true; the input reads as it did. -/
def fnSkipSpaceStopsAtFirstNonSpaceSpec : ChangeSpec := { name := "fnSkipSpaceStopsAtFirstNonSpace", fn := fun _ => fun
  | [d1, d2] => { results := [.lit (.bool true)], args := [d1, d2] }
  | _ => none }
def fnSkipSpaceStopsAtFirstNonSpaceRow : OpenClaim := { program := "qxb6000362amods", sum := "58afa227329909384594e927e86622b270b3e127f53b12efd91c4b308ee28170", func := "example.com/symbolon/symbolon/zzlaws_root_b1.FnSkipSpaceStopsAtFirstNonSpace", spec := "fnSkipSpaceStopsAtFirstNonSpace", make := .lifted ["publicsums"], apart := false }
def FnSkipSpaceStopsAtFirstNonSpaceSaid : Prop := fnSkipSpaceStopsAtFirstNonSpaceRow.holds Trym.pinned (OpenSpec.ofChange fnSkipSpaceStopsAtFirstNonSpaceSpec)

/-- ITS FALSE NEIGHBOUR: 'it returns false'. Refute it at one input. -/
def fnSkipSpaceStopsAtFirstNonSpaceWrong : ChangeSpec := { name := "fnSkipSpaceStopsAtFirstNonSpace", fn := fun _ => fun
  | [d1, d2] => { results := [.lit (.bool false)], args := [d1, d2] }
  | _ => none }
def FnSkipSpaceStopsAtFirstNonSpaceWrongFalsely : Prop := fnSkipSpaceStopsAtFirstNonSpaceRow.holds Trym.pinned (OpenSpec.ofChange fnSkipSpaceStopsAtFirstNonSpaceWrong)

/-- 'zzlaws_root_b1.FnSkipSpaceIdempotentAndMonotone': WHATEVER THE INPUT: true; the input reads as it did. -/
def fnSkipSpaceIdempotentAndMonotoneSpec : ChangeSpec := { name := "fnSkipSpaceIdempotentAndMonotone", fn := fun _ => fun
  | [d1, d2, d3] => { results := [.lit (.bool true)], args := [d1, d2, d3] }
  | _ => none }
def fnSkipSpaceIdempotentAndMonotoneRow : OpenClaim := { program := "qxb6000362amods", sum := "58afa227329909384594e927e86622b270b3e127f53b12efd91c4b308ee28170", func := "example.com/symbolon/symbolon/zzlaws_root_b1.FnSkipSpaceIdempotentAndMonotone", spec := "fnSkipSpaceIdempotentAndMonotone", make := .lifted ["publicsums"], apart := false }
def FnSkipSpaceIdempotentAndMonotoneSaid : Prop := fnSkipSpaceIdempotentAndMonotoneRow.holds Trym.pinned (OpenSpec.ofChange fnSkipSpaceIdempotentAndMonotoneSpec)

/-- ITS FALSE NEIGHBOUR: 'it returns false'. Refute it at one input. -/
def fnSkipSpaceIdempotentAndMonotoneWrong : ChangeSpec := { name := "fnSkipSpaceIdempotentAndMonotone", fn := fun _ => fun
  | [d1, d2, d3] => { results := [.lit (.bool false)], args := [d1, d2, d3] }
  | _ => none }
def FnSkipSpaceIdempotentAndMonotoneWrongFalsely : Prop := fnSkipSpaceIdempotentAndMonotoneRow.holds Trym.pinned (OpenSpec.ofChange fnSkipSpaceIdempotentAndMonotoneWrong)

/-- 'zzlaws_root_b1.FnSkipSpaceOnPrefix': WHATEVER THE INPUT: true; the input reads as it did. -/
def fnSkipSpaceOnPrefixSpec : ChangeSpec := { name := "fnSkipSpaceOnPrefix", fn := fun _ => fun
  | [d1, d2, d3] => { results := [.lit (.bool true)], args := [d1, d2, d3] }
  | _ => none }
def fnSkipSpaceOnPrefixRow : OpenClaim := { program := "qxb6000362amods", sum := "58afa227329909384594e927e86622b270b3e127f53b12efd91c4b308ee28170", func := "example.com/symbolon/symbolon/zzlaws_root_b1.FnSkipSpaceOnPrefix", spec := "fnSkipSpaceOnPrefix", make := .lifted ["publicsums"], apart := false }
def FnSkipSpaceOnPrefixSaid : Prop := fnSkipSpaceOnPrefixRow.holds Trym.pinned (OpenSpec.ofChange fnSkipSpaceOnPrefixSpec)

/-- ITS FALSE NEIGHBOUR: 'it returns false'. Refute it at one input. -/
def fnSkipSpaceOnPrefixWrong : ChangeSpec := { name := "fnSkipSpaceOnPrefix", fn := fun _ => fun
  | [d1, d2, d3] => { results := [.lit (.bool false)], args := [d1, d2, d3] }
  | _ => none }
def FnSkipSpaceOnPrefixWrongFalsely : Prop := fnSkipSpaceOnPrefixRow.holds Trym.pinned (OpenSpec.ofChange fnSkipSpaceOnPrefixWrong)

/-- 'zzlaws_root_b1.FnHex4ReadsWhatIsWritten': WHATEVER THE INPUT: true; the input reads as it did. -/
def fnHex4ReadsWhatIsWrittenSpec : ChangeSpec := { name := "fnHex4ReadsWhatIsWritten", fn := fun _ => fun
  | [d1, d2, d3, d4] => { results := [.lit (.bool true)], args := [d1, d2, d3, d4] }
  | _ => none }
def fnHex4ReadsWhatIsWrittenRow : OpenClaim := { program := "qxb6000362amods", sum := "58afa227329909384594e927e86622b270b3e127f53b12efd91c4b308ee28170", func := "example.com/symbolon/symbolon/zzlaws_root_b1.FnHex4ReadsWhatIsWritten", spec := "fnHex4ReadsWhatIsWritten", make := .lifted ["publicsums"], apart := false }
def FnHex4ReadsWhatIsWrittenSaid : Prop := fnHex4ReadsWhatIsWrittenRow.holds Trym.pinned (OpenSpec.ofChange fnHex4ReadsWhatIsWrittenSpec)

/-- ITS FALSE NEIGHBOUR: 'it returns false'. Refute it at one input. -/
def fnHex4ReadsWhatIsWrittenWrong : ChangeSpec := { name := "fnHex4ReadsWhatIsWritten", fn := fun _ => fun
  | [d1, d2, d3, d4] => { results := [.lit (.bool false)], args := [d1, d2, d3, d4] }
  | _ => none }
def FnHex4ReadsWhatIsWrittenWrongFalsely : Prop := fnHex4ReadsWhatIsWrittenRow.holds Trym.pinned (OpenSpec.ofChange fnHex4ReadsWhatIsWrittenWrong)

/-- 'zzlaws_root_b1.FnHex4ExactVerdict': WHATEVER THE INPUT: true; the input reads as it did. -/
def fnHex4ExactVerdictSpec : ChangeSpec := { name := "fnHex4ExactVerdict", fn := fun _ => fun
  | [d1, d2] => { results := [.lit (.bool true)], args := [d1, d2] }
  | _ => none }
def fnHex4ExactVerdictRow : OpenClaim := { program := "qxb6000362amods", sum := "58afa227329909384594e927e86622b270b3e127f53b12efd91c4b308ee28170", func := "example.com/symbolon/symbolon/zzlaws_root_b1.FnHex4ExactVerdict", spec := "fnHex4ExactVerdict", make := .lifted ["publicsums"], apart := false }
def FnHex4ExactVerdictSaid : Prop := fnHex4ExactVerdictRow.holds Trym.pinned (OpenSpec.ofChange fnHex4ExactVerdictSpec)

/-- ITS FALSE NEIGHBOUR: 'it returns false'. Refute it at one input. -/
def fnHex4ExactVerdictWrong : ChangeSpec := { name := "fnHex4ExactVerdict", fn := fun _ => fun
  | [d1, d2] => { results := [.lit (.bool false)], args := [d1, d2] }
  | _ => none }
def FnHex4ExactVerdictWrongFalsely : Prop := fnHex4ExactVerdictRow.holds Trym.pinned (OpenSpec.ofChange fnHex4ExactVerdictWrong)

/-- 'zzlaws_root_b1.FnNumberAgreesWithAutomaton': WHATEVER THE INPUT: true; the input reads as it did. -/
def fnNumberAgreesWithAutomatonSpec : ChangeSpec := { name := "fnNumberAgreesWithAutomaton", fn := fun _ => fun
  | [d1, d2] => { results := [.lit (.bool true)], args := [d1, d2] }
  | _ => none }
def fnNumberAgreesWithAutomatonRow : OpenClaim := { program := "qxb6000362amods", sum := "58afa227329909384594e927e86622b270b3e127f53b12efd91c4b308ee28170", func := "example.com/symbolon/symbolon/zzlaws_root_b1.FnNumberAgreesWithAutomaton", spec := "fnNumberAgreesWithAutomaton", make := .lifted ["publicsums"], apart := false }
def FnNumberAgreesWithAutomatonSaid : Prop := fnNumberAgreesWithAutomatonRow.holds Trym.pinned (OpenSpec.ofChange fnNumberAgreesWithAutomatonSpec)

/-- ITS FALSE NEIGHBOUR: 'it returns false'. Refute it at one input. -/
def fnNumberAgreesWithAutomatonWrong : ChangeSpec := { name := "fnNumberAgreesWithAutomaton", fn := fun _ => fun
  | [d1, d2] => { results := [.lit (.bool false)], args := [d1, d2] }
  | _ => none }
def FnNumberAgreesWithAutomatonWrongFalsely : Prop := fnNumberAgreesWithAutomatonRow.holds Trym.pinned (OpenSpec.ofChange fnNumberAgreesWithAutomatonWrong)

/-- 'zzlaws_root_b1.FnNumberReadsWhatIsWritten': WHATEVER THE INPUT: true; the input reads as it did. -/
def fnNumberReadsWhatIsWrittenSpec : ChangeSpec := { name := "fnNumberReadsWhatIsWritten", fn := fun _ => fun
  | [d1, d2, d3, d4, d5, d6, d7, d8, d9, d10] => { results := [.lit (.bool true)], args := [d1, d2, d3, d4, d5, d6, d7, d8, d9, d10] }
  | _ => none }
def fnNumberReadsWhatIsWrittenRow : OpenClaim := { program := "qxb6000362amods", sum := "58afa227329909384594e927e86622b270b3e127f53b12efd91c4b308ee28170", func := "example.com/symbolon/symbolon/zzlaws_root_b1.FnNumberReadsWhatIsWritten", spec := "fnNumberReadsWhatIsWritten", make := .lifted ["publicsums"], apart := false }
def FnNumberReadsWhatIsWrittenSaid : Prop := fnNumberReadsWhatIsWrittenRow.holds Trym.pinned (OpenSpec.ofChange fnNumberReadsWhatIsWrittenSpec)

/-- ITS FALSE NEIGHBOUR: 'it returns false'. Refute it at one input. -/
def fnNumberReadsWhatIsWrittenWrong : ChangeSpec := { name := "fnNumberReadsWhatIsWritten", fn := fun _ => fun
  | [d1, d2, d3, d4, d5, d6, d7, d8, d9, d10] => { results := [.lit (.bool false)], args := [d1, d2, d3, d4, d5, d6, d7, d8, d9, d10] }
  | _ => none }
def FnNumberReadsWhatIsWrittenWrongFalsely : Prop := fnNumberReadsWhatIsWrittenRow.holds Trym.pinned (OpenSpec.ofChange fnNumberReadsWhatIsWrittenWrong)

end Rows
end Go.Proofs.Qxb6000362aMods
