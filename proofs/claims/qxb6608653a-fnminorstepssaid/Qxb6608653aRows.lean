/-
  No cell of these rows narrows 'for every input' (looked for: loops, veiled, ifaces, maps, wideKeys, modest, calm, conditions, laid).
  DERIVED. THE GIVEN ROWS OF THIS SEAT. 4 by the template 'for every input the law returns true; each argument reads behind the call as it read before'; 0 by the template 'total and deterministic' (their statements: Qxb6608653aTotals.lean).
  GIVEN WITH THE SEED: the statements are not yours to turn. If you find one false, say at which input.
  Laid BY PROGRAM, IN A SANDBOX (cutbox-rows.mjs): the forced cells as the released guide's own fill.sh prints them over the translation 8f5ecd771be07f15… (all of the seat's roots in one cut). By AI agents, Wed Nov 11 2026. No macro, syntax, notation, axiom, sorry.
-/
import Derived.Test.Qxb6608653aChecked
import GoSem.Claim
import GoSem.ClaimJoined
import GoSem.ClaimMapViews
import Derived.JoinedTies
import Derived.KernelRfl
namespace Go.Proofs.Qxb6608653a
/- THE CELL 'sum', in the pinned program and in every row, IS THE sha256 OF THE DUMP (.gsa) THAT Qxb6608653aProg.lean LOADS. Nothing in Lean hashes anything: it is a label: what it is worth is what the hold of that sum in a sandbox is worth. -/
noncomputable def Try.pinned : Pinned := { name := "qxb6608653a", sum := "8f5ecd771be07f15585001143cb32f1b50e84113facfcbe75f14ee4b41defea8", checked := Try.checked }
namespace Rows
def none {H : Type} : Left H := { results := [], args := [] }

/-- 'zzlaws_tacacs_b1.FnCutArgWholeAndSuffix': WHATEVER THE INPUT: true; the input reads as it did. -/
def fnCutArgWholeAndSuffixSpec : ChangeSpec := { name := "fnCutArgWholeAndSuffix", fn := fun _ => fun
  | [d1, d2] => { results := [.lit (.bool true)], args := [d1, d2] }
  | _ => none }
def fnCutArgWholeAndSuffixRow : OpenClaim := { program := "qxb6608653a", sum := "8f5ecd771be07f15585001143cb32f1b50e84113facfcbe75f14ee4b41defea8", func := "example.com/gatehouse/gatehouse/zzlaws_tacacs_b1.FnCutArgWholeAndSuffix", spec := "fnCutArgWholeAndSuffix", inPlace := ["internal/bytealg.IndexByteString", "internal/bytealg.IndexString"], named := ["internal/bytealg.MaxLen"], apart := false }
def FnCutArgWholeAndSuffixSaid : Prop := fnCutArgWholeAndSuffixRow.holds Try.pinned (OpenSpec.ofChange fnCutArgWholeAndSuffixSpec)

/-- ITS FALSE NEIGHBOUR: 'it returns false'. Refute it at one input. -/
def fnCutArgWholeAndSuffixWrong : ChangeSpec := { name := "fnCutArgWholeAndSuffix", fn := fun _ => fun
  | [d1, d2] => { results := [.lit (.bool false)], args := [d1, d2] }
  | _ => none }
def FnCutArgWholeAndSuffixWrongFalsely : Prop := fnCutArgWholeAndSuffixRow.holds Try.pinned (OpenSpec.ofChange fnCutArgWholeAndSuffixWrong)

/-- 'zzlaws_tacacs_b1.FnCutArgJoinRoundTrip': WHATEVER THE INPUT: true; the input reads as it did. -/
def fnCutArgJoinRoundTripSpec : ChangeSpec := { name := "fnCutArgJoinRoundTrip", fn := fun _ => fun
  | [d1, d2, d3] => { results := [.lit (.bool true)], args := [d1, d2, d3] }
  | _ => none }
def fnCutArgJoinRoundTripRow : OpenClaim := { program := "qxb6608653a", sum := "8f5ecd771be07f15585001143cb32f1b50e84113facfcbe75f14ee4b41defea8", func := "example.com/gatehouse/gatehouse/zzlaws_tacacs_b1.FnCutArgJoinRoundTrip", spec := "fnCutArgJoinRoundTrip", inPlace := ["internal/bytealg.IndexByteString", "internal/bytealg.IndexString"], named := ["internal/bytealg.MaxLen"], apart := false }
def FnCutArgJoinRoundTripSaid : Prop := fnCutArgJoinRoundTripRow.holds Try.pinned (OpenSpec.ofChange fnCutArgJoinRoundTripSpec)

/-- ITS FALSE NEIGHBOUR: 'it returns false'. Refute it at one input. -/
def fnCutArgJoinRoundTripWrong : ChangeSpec := { name := "fnCutArgJoinRoundTrip", fn := fun _ => fun
  | [d1, d2, d3] => { results := [.lit (.bool false)], args := [d1, d2, d3] }
  | _ => none }
def FnCutArgJoinRoundTripWrongFalsely : Prop := fnCutArgJoinRoundTripRow.holds Try.pinned (OpenSpec.ofChange fnCutArgJoinRoundTripWrong)

/-- 'zzlaws_tacacs_b1.FnMinorIsLowNibble': WHATEVER THE INPUT: true; the input reads as it did. -/
def fnMinorIsLowNibbleSpec : ChangeSpec := { name := "fnMinorIsLowNibble", fn := fun _ => fun
  | [d1, d2, d3, d4, d5, d6] => { results := [.lit (.bool true)], args := [d1, d2, d3, d4, d5, d6] }
  | _ => none }
def fnMinorIsLowNibbleRow : OpenClaim := { program := "qxb6608653a", sum := "8f5ecd771be07f15585001143cb32f1b50e84113facfcbe75f14ee4b41defea8", func := "example.com/gatehouse/gatehouse/zzlaws_tacacs_b1.FnMinorIsLowNibble", spec := "fnMinorIsLowNibble", apart := false }
def FnMinorIsLowNibbleSaid : Prop := fnMinorIsLowNibbleRow.holds Try.pinned (OpenSpec.ofChange fnMinorIsLowNibbleSpec)

/-- ITS FALSE NEIGHBOUR: 'it returns false'. Refute it at one input. -/
def fnMinorIsLowNibbleWrong : ChangeSpec := { name := "fnMinorIsLowNibble", fn := fun _ => fun
  | [d1, d2, d3, d4, d5, d6] => { results := [.lit (.bool false)], args := [d1, d2, d3, d4, d5, d6] }
  | _ => none }
def FnMinorIsLowNibbleWrongFalsely : Prop := fnMinorIsLowNibbleRow.holds Try.pinned (OpenSpec.ofChange fnMinorIsLowNibbleWrong)

/-- 'zzlaws_tacacs_b1.FnMinorSteps': WHATEVER THE INPUT: true; the input reads as it did. -/
def fnMinorStepsSpec : ChangeSpec := { name := "fnMinorSteps", fn := fun _ => fun
  | [d1, d2, d3, d4, d5, d6, d7] => { results := [.lit (.bool true)], args := [d1, d2, d3, d4, d5, d6, d7] }
  | _ => none }
def fnMinorStepsRow : OpenClaim := { program := "qxb6608653a", sum := "8f5ecd771be07f15585001143cb32f1b50e84113facfcbe75f14ee4b41defea8", func := "example.com/gatehouse/gatehouse/zzlaws_tacacs_b1.FnMinorSteps", spec := "fnMinorSteps", apart := false }
def FnMinorStepsSaid : Prop := fnMinorStepsRow.holds Try.pinned (OpenSpec.ofChange fnMinorStepsSpec)

/-- ITS FALSE NEIGHBOUR: 'it returns false'. Refute it at one input. -/
def fnMinorStepsWrong : ChangeSpec := { name := "fnMinorSteps", fn := fun _ => fun
  | [d1, d2, d3, d4, d5, d6, d7] => { results := [.lit (.bool false)], args := [d1, d2, d3, d4, d5, d6, d7] }
  | _ => none }
def FnMinorStepsWrongFalsely : Prop := fnMinorStepsRow.holds Try.pinned (OpenSpec.ofChange fnMinorStepsWrong)

end Rows
end Go.Proofs.Qxb6608653a
