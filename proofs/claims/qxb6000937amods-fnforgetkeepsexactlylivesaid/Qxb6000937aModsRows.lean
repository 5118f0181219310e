/-
  No cell of these rows narrows 'for every input' (looked for: loops, veiled, ifaces, maps, wideKeys, modest, calm, conditions, laid).
  DERIVED. THE GIVEN ROWS OF THIS SEAT. 6 by the template 'for every input the law returns true; each argument reads behind the call as it read before'; 0 by the template 'total and deterministic' (their statements: Qxb6000937aModsTotals.lean).
  GIVEN WITH THE SEED: the statements are not yours to turn. If you find one false, say at which input.
  Laid BY PROGRAM, IN A SANDBOX (cutbox-rows.mjs): the forced cells as the released guide's own fill.sh prints them over the translation 56591ac272a200c6… (all of the seat's roots in one cut). By AI agents, Wed Nov 11 2026. No macro, syntax, notation, axiom, sorry.
-/
import Derived.Test.Qxb6000937aModsChecked
import GoSem.Claim
import GoSem.ClaimJoined
import GoSem.ClaimMapViews
import Derived.JoinedTies
import Derived.KernelRfl
namespace Go.Proofs.Qxb6000937aMods
/- THE CELL 'sum', in the pinned program and in every row, IS THE sha256 OF THE DUMP (.gsa) THAT Qxb6000937aModsProg.lean LOADS. Nothing in Lean hashes anything: it is a label: what it is worth is what the hold of that sum in a sandbox is worth. -/
noncomputable def Trym.pinned : Pinned := { name := "qxb6000937amods", sum := "56591ac272a200c60432cce41c80ff0801b7e2e8b1f85a0db63945d472aaa06b", checked := Trym.checked }
namespace Rows
def none {H : Type} : Left H := { results := [], args := [] }

/-- 'zzlaws_root_b1.FnPackedArgRoundTrip': WHATEVER THE INPUT: true; the input reads as it did. -/
def fnPackedArgRoundTripSpec : ChangeSpec := { name := "fnPackedArgRoundTrip", fn := fun _ => fun
  | [d] => { results := [.lit (.bool true)], args := [d] }
  | _ => none }
def fnPackedArgRoundTripRow : OpenClaim := { program := "qxb6000937amods", sum := "56591ac272a200c60432cce41c80ff0801b7e2e8b1f85a0db63945d472aaa06b", func := "example.com/steady-throttle/steady-throttle/zzlaws_root_b1.FnPackedArgRoundTrip", spec := "fnPackedArgRoundTrip", make := .lifted ["publicsums"], apart := false }
def FnPackedArgRoundTripSaid : Prop := fnPackedArgRoundTripRow.holds Trym.pinned (OpenSpec.ofChange fnPackedArgRoundTripSpec)

/-- ITS FALSE NEIGHBOUR: 'it returns false'. Refute it at one input. -/
def fnPackedArgRoundTripWrong : ChangeSpec := { name := "fnPackedArgRoundTrip", fn := fun _ => fun
  | [d] => { results := [.lit (.bool false)], args := [d] }
  | _ => none }
def FnPackedArgRoundTripWrongFalsely : Prop := fnPackedArgRoundTripRow.holds Trym.pinned (OpenSpec.ofChange fnPackedArgRoundTripWrong)

/-- 'zzlaws_root_b1.FnPackedArgZeroPadded': WHATEVER THE INPUT: true; the input reads as it did. -/
def fnPackedArgZeroPaddedSpec : ChangeSpec := { name := "fnPackedArgZeroPadded", fn := fun _ => fun
  | [d] => { results := [.lit (.bool true)], args := [d] }
  | _ => none }
def fnPackedArgZeroPaddedRow : OpenClaim := { program := "qxb6000937amods", sum := "56591ac272a200c60432cce41c80ff0801b7e2e8b1f85a0db63945d472aaa06b", func := "example.com/steady-throttle/steady-throttle/zzlaws_root_b1.FnPackedArgZeroPadded", spec := "fnPackedArgZeroPadded", make := .lifted ["publicsums"], apart := false }
def FnPackedArgZeroPaddedSaid : Prop := fnPackedArgZeroPaddedRow.holds Trym.pinned (OpenSpec.ofChange fnPackedArgZeroPaddedSpec)

/-- ITS FALSE NEIGHBOUR: 'it returns false'. Refute it at one input. -/
def fnPackedArgZeroPaddedWrong : ChangeSpec := { name := "fnPackedArgZeroPadded", fn := fun _ => fun
  | [d] => { results := [.lit (.bool false)], args := [d] }
  | _ => none }
def FnPackedArgZeroPaddedWrongFalsely : Prop := fnPackedArgZeroPaddedRow.holds Trym.pinned (OpenSpec.ofChange fnPackedArgZeroPaddedWrong)

/-- 'zzlaws_root_b1.FnPackedArgInjective': WHATEVER THE INPUT: true; the input reads as it did. -/
def fnPackedArgInjectiveSpec : ChangeSpec := { name := "fnPackedArgInjective", fn := fun _ => fun
  | [d1, d2] => { results := [.lit (.bool true)], args := [d1, d2] }
  | _ => none }
def fnPackedArgInjectiveRow : OpenClaim := { program := "qxb6000937amods", sum := "56591ac272a200c60432cce41c80ff0801b7e2e8b1f85a0db63945d472aaa06b", func := "example.com/steady-throttle/steady-throttle/zzlaws_root_b1.FnPackedArgInjective", spec := "fnPackedArgInjective", make := .lifted ["publicsums"], apart := false }
def FnPackedArgInjectiveSaid : Prop := fnPackedArgInjectiveRow.holds Trym.pinned (OpenSpec.ofChange fnPackedArgInjectiveSpec)

/-- ITS FALSE NEIGHBOUR: 'it returns false'. Refute it at one input. -/
def fnPackedArgInjectiveWrong : ChangeSpec := { name := "fnPackedArgInjective", fn := fun _ => fun
  | [d1, d2] => { results := [.lit (.bool false)], args := [d1, d2] }
  | _ => none }
def FnPackedArgInjectiveWrongFalsely : Prop := fnPackedArgInjectiveRow.holds Trym.pinned (OpenSpec.ofChange fnPackedArgInjectiveWrong)

/-- 'zzlaws_root_b1.FnForgetKeepsExactlyLive': WHATEVER THE INPUT: true; the input reads as it did. -/
def fnForgetKeepsExactlyLiveSpec : ChangeSpec := { name := "fnForgetKeepsExactlyLive", fn := fun _ => fun
  | [d1, d2, d3, d4] => { results := [.lit (.bool true)], args := [d1, d2, d3, d4] }
  | _ => none }
def fnForgetKeepsExactlyLiveRow : OpenClaim := { program := "qxb6000937amods", sum := "56591ac272a200c60432cce41c80ff0801b7e2e8b1f85a0db63945d472aaa06b", func := "example.com/steady-throttle/steady-throttle/zzlaws_root_b1.FnForgetKeepsExactlyLive", spec := "fnForgetKeepsExactlyLive", make := .lifted ["publicsums"], apart := false }
def FnForgetKeepsExactlyLiveSaid : Prop := fnForgetKeepsExactlyLiveRow.holds Trym.pinned (OpenSpec.ofChange fnForgetKeepsExactlyLiveSpec)

/-- ITS FALSE NEIGHBOUR: 'it returns false'. Refute it at one input. -/
def fnForgetKeepsExactlyLiveWrong : ChangeSpec := { name := "fnForgetKeepsExactlyLive", fn := fun _ => fun
  | [d1, d2, d3, d4] => { results := [.lit (.bool false)], args := [d1, d2, d3, d4] }
  | _ => none }
def FnForgetKeepsExactlyLiveWrongFalsely : Prop := fnForgetKeepsExactlyLiveRow.holds Trym.pinned (OpenSpec.ofChange fnForgetKeepsExactlyLiveWrong)

/-- 'zzlaws_root_b1.FnForgetIdempotent': WHATEVER THE INPUT: true; the input reads as it did. -/
def fnForgetIdempotentSpec : ChangeSpec := { name := "fnForgetIdempotent", fn := fun _ => fun
  | [d1, d2, d3, d4] => { results := [.lit (.bool true)], args := [d1, d2, d3, d4] }
  | _ => none }
def fnForgetIdempotentRow : OpenClaim := { program := "qxb6000937amods", sum := "56591ac272a200c60432cce41c80ff0801b7e2e8b1f85a0db63945d472aaa06b", func := "example.com/steady-throttle/steady-throttle/zzlaws_root_b1.FnForgetIdempotent", spec := "fnForgetIdempotent", make := .lifted ["publicsums"], apart := false }
def FnForgetIdempotentSaid : Prop := fnForgetIdempotentRow.holds Trym.pinned (OpenSpec.ofChange fnForgetIdempotentSpec)

/-- ITS FALSE NEIGHBOUR: 'it returns false'. Refute it at one input. -/
def fnForgetIdempotentWrong : ChangeSpec := { name := "fnForgetIdempotent", fn := fun _ => fun
  | [d1, d2, d3, d4] => { results := [.lit (.bool false)], args := [d1, d2, d3, d4] }
  | _ => none }
def FnForgetIdempotentWrongFalsely : Prop := fnForgetIdempotentRow.holds Trym.pinned (OpenSpec.ofChange fnForgetIdempotentWrong)

/-- 'zzlaws_root_b1.FnForgetLaterSubsumesEarlier': WHATEVER THE INPUT: true; the input reads as it did. -/
def fnForgetLaterSubsumesEarlierSpec : ChangeSpec := { name := "fnForgetLaterSubsumesEarlier", fn := fun _ => fun
  | [d1, d2, d3, d4, d5] => { results := [.lit (.bool true)], args := [d1, d2, d3, d4, d5] }
  | _ => none }
def fnForgetLaterSubsumesEarlierRow : OpenClaim := { program := "qxb6000937amods", sum := "56591ac272a200c60432cce41c80ff0801b7e2e8b1f85a0db63945d472aaa06b", func := "example.com/steady-throttle/steady-throttle/zzlaws_root_b1.FnForgetLaterSubsumesEarlier", spec := "fnForgetLaterSubsumesEarlier", make := .lifted ["publicsums"], apart := false }
def FnForgetLaterSubsumesEarlierSaid : Prop := fnForgetLaterSubsumesEarlierRow.holds Trym.pinned (OpenSpec.ofChange fnForgetLaterSubsumesEarlierSpec)

/-- ITS FALSE NEIGHBOUR: 'it returns false'. Refute it at one input. -/
def fnForgetLaterSubsumesEarlierWrong : ChangeSpec := { name := "fnForgetLaterSubsumesEarlier", fn := fun _ => fun
  | [d1, d2, d3, d4, d5] => { results := [.lit (.bool false)], args := [d1, d2, d3, d4, d5] }
  | _ => none }
def FnForgetLaterSubsumesEarlierWrongFalsely : Prop := fnForgetLaterSubsumesEarlierRow.holds Trym.pinned (OpenSpec.ofChange fnForgetLaterSubsumesEarlierWrong)

end Rows
end Go.Proofs.Qxb6000937aMods
