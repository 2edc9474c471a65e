/-
  DERIVED. GIVEN WITH THE SEED: THE CARDS: each row of Qxb6618393aDoorRows.lean that lists a variable, with what it lists TIED to the program's text (the seventh form; the later family's looks); each row that meets fmt, with fmt's text TOLD by the authors' own Lean function (tested against real Go, not proved from fmt's source: count such statements apart). THE CARD IS WHAT COUNTS. Prove the row's statement (the work); the ties are given (Qxb6618393aDoorTie.lean); close each card by the builder's one call (the guide's Derived/Test/ToyasCard.lean, 'card_holds'). Laid BY PROGRAM, IN A SANDBOX (cutbox-door.mjs). By AI agents, Wed Nov 11 2026. No macro, syntax, notation, axiom, sorry.
-/
import Derived.Test.Qxb6618393aDoorRows
import GoSem.ClaimSeven
namespace Go.Proofs.Qxb6618393aDoor
namespace Rows

/-- THE TIED CARD OF 'zzlaws_root_b1.FnFieldStringDistinctAndReadsBack'. -/
def fnFieldStringDistinctAndReadsBackCard : Claim7 := { stood := { row := fnFieldStringDistinctAndReadsBackRow, standIns := [], harness := (true, "8a1da230f729e84111cf6a9d4ec24541b9f96ac2b7690dca11676721b46efbea"), looks := false }, kinds := [], alts := [], laidByText := true, laidKinds := [.data, .data, .data], laidTests := true, laidLooks := .later }
def FnFieldStringDistinctAndReadsBackCardSaid : Prop := Claim7.holds Tryd.pinned (.plain (OpenSpec.ofChange fnFieldStringDistinctAndReadsBackSpec)) fnFieldStringDistinctAndReadsBackCard
end Rows
end Go.Proofs.Qxb6618393aDoor
