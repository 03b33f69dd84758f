/-
  No cell of these rows narrows 'for every input' (looked for: loops, veiled, ifaces, maps, wideKeys, modest, calm, conditions, laid).
  DERIVED. THE GIVEN ROWS OF THIS SEAT. 5 by the template 'for every input the law returns true; each argument reads behind the call as it read before'; 0 by the template 'total and deterministic' (their statements: Qxb6618085aTotals.lean).
  GIVEN WITH THE SEED: the statements are not yours to turn. If you find one false, say at which input.
  Laid BY PROGRAM, IN A SANDBOX (cutbox-rows.mjs): the forced cells as the released guide's own fill.sh prints them over the translation 38a48a5677afb741… (all of the seat's roots in one cut). By AI agents, Wed Nov 11 2026. No macro, syntax, notation, axiom, sorry.
-/
import Derived.Test.Qxb6618085aChecked
import GoSem.Claim
import GoSem.ClaimJoined
import GoSem.ClaimMapViews
import Derived.JoinedTies
import Derived.KernelRfl
namespace Go.Proofs.Qxb6618085a
/- THE CELL 'sum', in the pinned program and in every row, IS THE sha256 OF THE DUMP (.gsa) THAT Qxb6618085aProg.lean LOADS. Nothing in Lean hashes anything: it is a label: what it is worth is what the hold of that sum in a sandbox is worth. -/
noncomputable def Try.pinned : Pinned := { name := "qxb6618085a", sum := "38a48a5677afb74171b46bf612030e3229c897b63498d11afbf91d7f7e90bfec", checked := Try.checked }
namespace Rows
def none {H : Type} : Left H := { results := [], args := [] }

/-- 'zzlaws_internal_ecmaregexp_b1.FnNoteRefKeepsFirstsAndHighest': WHATEVER THE INPUT: true; the input reads as it did. -/
def fnNoteRefKeepsFirstsAndHighestSpec : ChangeSpec := { name := "fnNoteRefKeepsFirstsAndHighest", fn := fun _ => fun
  | [d] => { results := [.lit (.bool true)], args := [d] }
  | _ => none }
def fnNoteRefKeepsFirstsAndHighestRow : OpenClaim := { program := "qxb6618085a", sum := "38a48a5677afb74171b46bf612030e3229c897b63498d11afbf91d7f7e90bfec", func := "example.com/tandem-intake/tandem-intake/zzlaws_internal_ecmaregexp_b1.FnNoteRefKeepsFirstsAndHighest", spec := "fnNoteRefKeepsFirstsAndHighest", apart := false }
def FnNoteRefKeepsFirstsAndHighestSaid : Prop := fnNoteRefKeepsFirstsAndHighestRow.holds Try.pinned (OpenSpec.ofChange fnNoteRefKeepsFirstsAndHighestSpec)

/-- ITS FALSE NEIGHBOUR: 'it returns false'. Refute it at one input. -/
def fnNoteRefKeepsFirstsAndHighestWrong : ChangeSpec := { name := "fnNoteRefKeepsFirstsAndHighest", fn := fun _ => fun
  | [d] => { results := [.lit (.bool false)], args := [d] }
  | _ => none }
def FnNoteRefKeepsFirstsAndHighestWrongFalsely : Prop := fnNoteRefKeepsFirstsAndHighestRow.holds Try.pinned (OpenSpec.ofChange fnNoteRefKeepsFirstsAndHighestWrong)

/-- 'zzlaws_internal_ecmaregexp_b1.FnNoteRefScriptSplitsAtAnyCut': WHATEVER THE INPUT: true; the input reads as it did. -/
def fnNoteRefScriptSplitsAtAnyCutSpec : ChangeSpec := { name := "fnNoteRefScriptSplitsAtAnyCut", fn := fun _ => fun
  | [d1, d2] => { results := [.lit (.bool true)], args := [d1, d2] }
  | _ => none }
def fnNoteRefScriptSplitsAtAnyCutRow : OpenClaim := { program := "qxb6618085a", sum := "38a48a5677afb74171b46bf612030e3229c897b63498d11afbf91d7f7e90bfec", func := "example.com/tandem-intake/tandem-intake/zzlaws_internal_ecmaregexp_b1.FnNoteRefScriptSplitsAtAnyCut", spec := "fnNoteRefScriptSplitsAtAnyCut", apart := false }
def FnNoteRefScriptSplitsAtAnyCutSaid : Prop := fnNoteRefScriptSplitsAtAnyCutRow.holds Try.pinned (OpenSpec.ofChange fnNoteRefScriptSplitsAtAnyCutSpec)

/-- ITS FALSE NEIGHBOUR: 'it returns false'. Refute it at one input. -/
def fnNoteRefScriptSplitsAtAnyCutWrong : ChangeSpec := { name := "fnNoteRefScriptSplitsAtAnyCut", fn := fun _ => fun
  | [d1, d2] => { results := [.lit (.bool false)], args := [d1, d2] }
  | _ => none }
def FnNoteRefScriptSplitsAtAnyCutWrongFalsely : Prop := fnNoteRefScriptSplitsAtAnyCutRow.holds Try.pinned (OpenSpec.ofChange fnNoteRefScriptSplitsAtAnyCutWrong)

/-- 'zzlaws_internal_ecmaregexp_b1.FnHexReadsExactlyNDigits': WHATEVER THE INPUT: true; the input reads as it did. -/
def fnHexReadsExactlyNDigitsSpec : ChangeSpec := { name := "fnHexReadsExactlyNDigits", fn := fun _ => fun
  | [d1, d2, d3] => { results := [.lit (.bool true)], args := [d1, d2, d3] }
  | _ => none }
def fnHexReadsExactlyNDigitsRow : OpenClaim := { program := "qxb6618085a", sum := "38a48a5677afb74171b46bf612030e3229c897b63498d11afbf91d7f7e90bfec", func := "example.com/tandem-intake/tandem-intake/zzlaws_internal_ecmaregexp_b1.FnHexReadsExactlyNDigits", spec := "fnHexReadsExactlyNDigits", apart := false }
def FnHexReadsExactlyNDigitsSaid : Prop := fnHexReadsExactlyNDigitsRow.holds Try.pinned (OpenSpec.ofChange fnHexReadsExactlyNDigitsSpec)

/-- ITS FALSE NEIGHBOUR: 'it returns false'. Refute it at one input. -/
def fnHexReadsExactlyNDigitsWrong : ChangeSpec := { name := "fnHexReadsExactlyNDigits", fn := fun _ => fun
  | [d1, d2, d3] => { results := [.lit (.bool false)], args := [d1, d2, d3] }
  | _ => none }
def FnHexReadsExactlyNDigitsWrongFalsely : Prop := fnHexReadsExactlyNDigitsRow.holds Try.pinned (OpenSpec.ofChange fnHexReadsExactlyNDigitsWrong)

/-- 'zzlaws_internal_ecmaregexp_b1.FnHexReadInTwoPiecesReadsAsOne': WHATEVER THE INPUT: true; the input reads as it did. -/
def fnHexReadInTwoPiecesReadsAsOneSpec : ChangeSpec := { name := "fnHexReadInTwoPiecesReadsAsOne", fn := fun _ => fun
  | [d1, d2, d3, d4] => { results := [.lit (.bool true)], args := [d1, d2, d3, d4] }
  | _ => none }
def fnHexReadInTwoPiecesReadsAsOneRow : OpenClaim := { program := "qxb6618085a", sum := "38a48a5677afb74171b46bf612030e3229c897b63498d11afbf91d7f7e90bfec", func := "example.com/tandem-intake/tandem-intake/zzlaws_internal_ecmaregexp_b1.FnHexReadInTwoPiecesReadsAsOne", spec := "fnHexReadInTwoPiecesReadsAsOne", apart := false }
def FnHexReadInTwoPiecesReadsAsOneSaid : Prop := fnHexReadInTwoPiecesReadsAsOneRow.holds Try.pinned (OpenSpec.ofChange fnHexReadInTwoPiecesReadsAsOneSpec)

/-- ITS FALSE NEIGHBOUR: 'it returns false'. Refute it at one input. -/
def fnHexReadInTwoPiecesReadsAsOneWrong : ChangeSpec := { name := "fnHexReadInTwoPiecesReadsAsOne", fn := fun _ => fun
  | [d1, d2, d3, d4] => { results := [.lit (.bool false)], args := [d1, d2, d3, d4] }
  | _ => none }
def FnHexReadInTwoPiecesReadsAsOneWrongFalsely : Prop := fnHexReadInTwoPiecesReadsAsOneRow.holds Try.pinned (OpenSpec.ofChange fnHexReadInTwoPiecesReadsAsOneWrong)

/-- 'zzlaws_internal_ecmaregexp_b1.FnBoundsReadsBraceQuantifier': WHATEVER THE INPUT: true; the input reads as it did. -/
def fnBoundsReadsBraceQuantifierSpec : ChangeSpec := { name := "fnBoundsReadsBraceQuantifier", fn := fun _ => fun
  | [d1, d2] => { results := [.lit (.bool true)], args := [d1, d2] }
  | _ => none }
def fnBoundsReadsBraceQuantifierRow : OpenClaim := { program := "qxb6618085a", sum := "38a48a5677afb74171b46bf612030e3229c897b63498d11afbf91d7f7e90bfec", func := "example.com/tandem-intake/tandem-intake/zzlaws_internal_ecmaregexp_b1.FnBoundsReadsBraceQuantifier", spec := "fnBoundsReadsBraceQuantifier", apart := false }
def FnBoundsReadsBraceQuantifierSaid : Prop := fnBoundsReadsBraceQuantifierRow.holds Try.pinned (OpenSpec.ofChange fnBoundsReadsBraceQuantifierSpec)

/-- ITS FALSE NEIGHBOUR: 'it returns false'. Refute it at one input. -/
def fnBoundsReadsBraceQuantifierWrong : ChangeSpec := { name := "fnBoundsReadsBraceQuantifier", fn := fun _ => fun
  | [d1, d2] => { results := [.lit (.bool false)], args := [d1, d2] }
  | _ => none }
def FnBoundsReadsBraceQuantifierWrongFalsely : Prop := fnBoundsReadsBraceQuantifierRow.holds Try.pinned (OpenSpec.ofChange fnBoundsReadsBraceQuantifierWrong)

end Rows
end Go.Proofs.Qxb6618085a
