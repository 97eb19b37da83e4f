/-
  No cell of these rows narrows 'for every input' (looked for: loops, veiled, ifaces, maps, wideKeys, modest, calm, conditions, laid).
  DERIVED. THE GIVEN ROWS OF THIS SEAT. 1 by the template 'for every input the law returns true; each argument reads behind the call as it read before'; 0 by the template 'total and deterministic' (their statements: Qxb6605923aTotals.lean).
  GIVEN WITH THE SEED: the statements are not yours to turn. If you find one false, say at which input.
  Laid BY PROGRAM, IN A SANDBOX (cutbox-rows.mjs): the forced cells as the released guide's own fill.sh prints them over the translation 9c8d283421a90e74… (all of the seat's roots in one cut). By AI agents, Wed Nov 11 2026. No macro, syntax, notation, axiom, sorry.
-/
import Derived.Test.Qxb6605923aChecked
import GoSem.Claim
import GoSem.ClaimJoined
import GoSem.ClaimMapViews
import Derived.JoinedTies
import Derived.KernelRfl
namespace Go.Proofs.Qxb6605923a
/- THE CELL 'sum', in the pinned program and in every row, IS THE sha256 OF THE DUMP (.gsa) THAT Qxb6605923aProg.lean LOADS. Nothing in Lean hashes anything: it is a label: what it is worth is what the hold of that sum in a sandbox is worth. -/
noncomputable def Try.pinned : Pinned := { name := "qxb6605923a", sum := "9c8d283421a90e748bddf5660b1a2366fe2a723cfcc40bc870d9d2307d69ba49", checked := Try.checked }
namespace Rows
def none {H : Type} : Left H := { results := [], args := [] }

/-- 'zzlaws_internal_task_b1.FnKindsFreshEachCall': WHATEVER THE INPUT: true; the input reads as it did. -/
def fnKindsFreshEachCallSpec : ChangeSpec := { name := "fnKindsFreshEachCall", fn := fun _ => fun
  | [] => { results := [.lit (.bool true)], args := [] }
  | _ => none }
def fnKindsFreshEachCallRow : OpenClaim := { program := "qxb6605923a", sum := "9c8d283421a90e748bddf5660b1a2366fe2a723cfcc40bc870d9d2307d69ba49", func := "example.com/grabbit/grabbit/zzlaws_internal_task_b1.FnKindsFreshEachCall", spec := "fnKindsFreshEachCall", apart := false }
def FnKindsFreshEachCallSaid : Prop := fnKindsFreshEachCallRow.holds Try.pinned (OpenSpec.ofChange fnKindsFreshEachCallSpec)

/-- ITS FALSE NEIGHBOUR: 'it returns false'. Refute it at one input. -/
def fnKindsFreshEachCallWrong : ChangeSpec := { name := "fnKindsFreshEachCall", fn := fun _ => fun
  | [] => { results := [.lit (.bool false)], args := [] }
  | _ => none }
def FnKindsFreshEachCallWrongFalsely : Prop := fnKindsFreshEachCallRow.holds Try.pinned (OpenSpec.ofChange fnKindsFreshEachCallWrong)

end Rows
end Go.Proofs.Qxb6605923a
