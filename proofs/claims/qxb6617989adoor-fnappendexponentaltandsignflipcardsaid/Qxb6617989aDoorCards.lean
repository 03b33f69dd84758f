/-
  DERIVED. GIVEN WITH THE SEED: THE CARDS: each row of Qxb6617989aDoorRows.lean that lists a variable, with what it lists TIED to the program's text (the seventh form; the later family's looks); each row that meets fmt, with fmt's text TOLD by the authors' own Lean function (tested against real Go, not proved from fmt's source: count such statements apart). THE CARD IS WHAT COUNTS. Prove the row's statement (the work); the ties are given (Qxb6617989aDoorTie.lean); close each card by the builder's one call (the guide's Derived/Test/ToyasCard.lean, 'card_holds'). Laid BY PROGRAM, IN A SANDBOX (cutbox-door.mjs). By AI agents, Wed Nov 11 2026. No macro, syntax, notation, axiom, sorry.
-/
import Derived.Test.Qxb6617989aDoorRows
import GoSem.ClaimSeven
namespace Go.Proofs.Qxb6617989aDoor
namespace Rows

/-- THE TIED CARD OF 'zzlaws_root_b1.FnAppendExponentReadsBackAndIgnoresHeldZeros'. -/
def fnAppendExponentReadsBackAndIgnoresHeldZerosCard : Claim7 := { stood := { row := fnAppendExponentReadsBackAndIgnoresHeldZerosRow, standIns := [], harness := (true, "d0ec99b52530f62c164293b68c2a2d82e295a33885a0eaf87a0c6770711e9380"), looks := false }, kinds := [], alts := [], laidByText := true, laidKinds := [.data, .data, .data], laidTests := true, laidLooks := .later }
def FnAppendExponentReadsBackAndIgnoresHeldZerosCardSaid : Prop := Claim7.holds Tryd.pinned (.plain (OpenSpec.ofChange fnAppendExponentReadsBackAndIgnoresHeldZerosSpec)) fnAppendExponentReadsBackAndIgnoresHeldZerosCard

/-- THE TIED CARD OF 'zzlaws_root_b1.FnAppendExponentAltAndSignFlip'. -/
def fnAppendExponentAltAndSignFlipCard : Claim7 := { stood := { row := fnAppendExponentAltAndSignFlipRow, standIns := [], harness := (true, "d0ec99b52530f62c164293b68c2a2d82e295a33885a0eaf87a0c6770711e9380"), looks := false }, kinds := [], alts := [], laidByText := true, laidKinds := [.data, .data, .data], laidTests := true, laidLooks := .later }
def FnAppendExponentAltAndSignFlipCardSaid : Prop := Claim7.holds Tryd.pinned (.plain (OpenSpec.ofChange fnAppendExponentAltAndSignFlipSpec)) fnAppendExponentAltAndSignFlipCard
end Rows
end Go.Proofs.Qxb6617989aDoor
