/-
  No cell of these rows narrows 'for every input' (looked for: loops, veiled, ifaces, maps, wideKeys, modest, calm, conditions, laid).
  DERIVED. THE GIVEN ROWS OF THIS SEAT. 2 by the template 'for every input the law returns true; each argument reads behind the call as it read before'; 0 by the template 'total and deterministic' (their statements: Qxb6618320aTotals.lean).
  GIVEN WITH THE SEED: the statements are not yours to turn. If you find one false, say at which input.
  Laid BY PROGRAM, IN A SANDBOX (cutbox-rows.mjs): the forced cells as the released guide's own fill.sh prints them over the translation 5255716bc8110f43… (all of the seat's roots in one cut). By AI agents, Wed Nov 11 2026. No macro, syntax, notation, axiom, sorry.
-/
import Derived.Test.Qxb6618320aChecked
import GoSem.Claim
import GoSem.ClaimJoined
import GoSem.ClaimMapViews
import Derived.JoinedTies
import Derived.KernelRfl
namespace Go.Proofs.Qxb6618320a
/- THE CELL 'sum', in the pinned program and in every row, IS THE sha256 OF THE DUMP (.gsa) THAT Qxb6618320aProg.lean LOADS. Nothing in Lean hashes anything: it is a label: what it is worth is what the hold of that sum in a sandbox is worth. -/
noncomputable def Try.pinned : Pinned := { name := "qxb6618320a", sum := "5255716bc8110f433380b2ea206b4071b435db1000ebec758f16118f6eb4e85d", checked := Try.checked }
namespace Rows
def none {H : Type} : Left H := { results := [], args := [] }

/-- 'zzlaws_internal_jsonobject_b1.FnStringEndCutAtAnyPlace': WHATEVER THE INPUT: true; the input reads as it did. -/
def fnStringEndCutAtAnyPlaceSpec : ChangeSpec := { name := "fnStringEndCutAtAnyPlace", fn := fun _ => fun
  | [d1, d2, d3] => { results := [.lit (.bool true)], args := [d1, d2, d3] }
  | _ => none }
def fnStringEndCutAtAnyPlaceRow : OpenClaim := { program := "qxb6618320a", sum := "5255716bc8110f433380b2ea206b4071b435db1000ebec758f16118f6eb4e85d", func := "example.com/acacia/acacia/zzlaws_internal_jsonobject_b1.FnStringEndCutAtAnyPlace", spec := "fnStringEndCutAtAnyPlace", apart := false }
def FnStringEndCutAtAnyPlaceSaid : Prop := fnStringEndCutAtAnyPlaceRow.holds Try.pinned (OpenSpec.ofChange fnStringEndCutAtAnyPlaceSpec)

/-- ITS FALSE NEIGHBOUR: 'it returns false'. Refute it at one input. -/
def fnStringEndCutAtAnyPlaceWrong : ChangeSpec := { name := "fnStringEndCutAtAnyPlace", fn := fun _ => fun
  | [d1, d2, d3] => { results := [.lit (.bool false)], args := [d1, d2, d3] }
  | _ => none }
def FnStringEndCutAtAnyPlaceWrongFalsely : Prop := fnStringEndCutAtAnyPlaceRow.holds Try.pinned (OpenSpec.ofChange fnStringEndCutAtAnyPlaceWrong)

/-- 'zzlaws_internal_jsonobject_b1.FnStringEndIgnoresWhatGoesBefore': WHATEVER THE INPUT: true; the input reads as it did. -/
def fnStringEndIgnoresWhatGoesBeforeSpec : ChangeSpec := { name := "fnStringEndIgnoresWhatGoesBefore", fn := fun _ => fun
  | [d1, d2, d3] => { results := [.lit (.bool true)], args := [d1, d2, d3] }
  | _ => none }
def fnStringEndIgnoresWhatGoesBeforeRow : OpenClaim := { program := "qxb6618320a", sum := "5255716bc8110f433380b2ea206b4071b435db1000ebec758f16118f6eb4e85d", func := "example.com/acacia/acacia/zzlaws_internal_jsonobject_b1.FnStringEndIgnoresWhatGoesBefore", spec := "fnStringEndIgnoresWhatGoesBefore", apart := false }
def FnStringEndIgnoresWhatGoesBeforeSaid : Prop := fnStringEndIgnoresWhatGoesBeforeRow.holds Try.pinned (OpenSpec.ofChange fnStringEndIgnoresWhatGoesBeforeSpec)

/-- ITS FALSE NEIGHBOUR: 'it returns false'. Refute it at one input. -/
def fnStringEndIgnoresWhatGoesBeforeWrong : ChangeSpec := { name := "fnStringEndIgnoresWhatGoesBefore", fn := fun _ => fun
  | [d1, d2, d3] => { results := [.lit (.bool false)], args := [d1, d2, d3] }
  | _ => none }
def FnStringEndIgnoresWhatGoesBeforeWrongFalsely : Prop := fnStringEndIgnoresWhatGoesBeforeRow.holds Try.pinned (OpenSpec.ofChange fnStringEndIgnoresWhatGoesBeforeWrong)

end Rows
end Go.Proofs.Qxb6618320a
