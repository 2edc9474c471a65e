/-
  DERIVED. GIVEN WITH THE SEED: THE CARDS: each row of Qxb6618769aFmtRows.lean that lists a variable, with what it lists TIED to the program's text (the seventh form; the later family's looks); each row that meets fmt, with fmt's text TOLD by the authors' own Lean function (tested against real Go, not proved from fmt's source: count such statements apart). THE CARD IS WHAT COUNTS. Prove the row's statement (the work); the ties are given (Qxb6618769aFmtTie.lean); close each card by the builder's one call (the guide's Derived/Test/ToyasCard.lean, 'card_holds'). Laid BY PROGRAM, IN A SANDBOX (cutbox-door.mjs). By AI agents, Wed Nov 11 2026. No macro, syntax, notation, axiom, sorry.
-/
import Derived.Test.Qxb6618769aFmtRows
import GoSem.ClaimSeven
namespace Go.Proofs.Qxb6618769aFmt
namespace Rows

/-- THE TOLD AND TIED CARD OF 'zzlaws_root_b1.FnReadFramesScriptYieldsEveryWholeMessage'. -/
def fnReadFramesScriptYieldsEveryWholeMessageCard : Claim7 := { stood := { row := fnReadFramesScriptYieldsEveryWholeMessageRow, standIns := [], harness := (true, "ef899beba64de0ea07c9bff6ab044680b7f00e4de6bdcd862fd980e93fa7349f"), looks := true }, told := true, laidByText := true, laidKinds := [.sentinel, .sentinel, .sentinel, .sentinel, .sentinel, .sentinel, .sentinel], laidTests := true, laidLooks := .later, goes := false }
def FnReadFramesScriptYieldsEveryWholeMessageToldSaid : Prop := Claim7.holds Tryf.pinned (.plain (OpenSpec.ofChange fnReadFramesScriptYieldsEveryWholeMessageSpec)) fnReadFramesScriptYieldsEveryWholeMessageCard
/-- ITS FALSE NEIGHBOUR. Refute it at one input. -/
def FnReadFramesScriptYieldsEveryWholeMessageToldWrongFalsely : Prop := Claim7.holds Tryf.pinned (.plain (OpenSpec.ofChange fnReadFramesScriptYieldsEveryWholeMessageWrong)) fnReadFramesScriptYieldsEveryWholeMessageCard

/-- THE TOLD AND TIED CARD OF 'zzlaws_root_b1.FnReadFramesTakesAllThatCameInOneRead'. -/
def fnReadFramesTakesAllThatCameInOneReadCard : Claim7 := { stood := { row := fnReadFramesTakesAllThatCameInOneReadRow, standIns := [], harness := (true, "ef899beba64de0ea07c9bff6ab044680b7f00e4de6bdcd862fd980e93fa7349f"), looks := true }, told := true, laidByText := true, laidKinds := [.sentinel, .sentinel, .sentinel, .sentinel, .sentinel, .sentinel, .sentinel], laidTests := true, laidLooks := .later, goes := false }
def FnReadFramesTakesAllThatCameInOneReadToldSaid : Prop := Claim7.holds Tryf.pinned (.plain (OpenSpec.ofChange fnReadFramesTakesAllThatCameInOneReadSpec)) fnReadFramesTakesAllThatCameInOneReadCard
/-- ITS FALSE NEIGHBOUR. Refute it at one input. -/
def FnReadFramesTakesAllThatCameInOneReadToldWrongFalsely : Prop := Claim7.holds Tryf.pinned (.plain (OpenSpec.ofChange fnReadFramesTakesAllThatCameInOneReadWrong)) fnReadFramesTakesAllThatCameInOneReadCard
end Rows
end Go.Proofs.Qxb6618769aFmt
