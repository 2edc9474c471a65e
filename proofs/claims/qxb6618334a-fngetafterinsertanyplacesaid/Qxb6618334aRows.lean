/-
  No cell of these rows narrows 'for every input' (looked for: loops, veiled, ifaces, maps, wideKeys, modest, calm, conditions, laid).
  DERIVED. THE GIVEN ROWS OF THIS SEAT. 1 by the template 'for every input the law returns true; each argument reads behind the call as it read before'; 0 by the template 'total and deterministic' (their statements: Qxb6618334aTotals.lean).
  GIVEN WITH THE SEED: the statements are not yours to turn. If you find one false, say at which input.
  Laid BY PROGRAM, IN A SANDBOX (cutbox-rows.mjs): the forced cells as the released guide's own fill.sh prints them over the translation ef74dc492a5ceeff… (all of the seat's roots in one cut). By AI agents, Wed Nov 11 2026. No macro, syntax, notation, axiom, sorry.
-/
import Derived.Test.Qxb6618334aChecked
import GoSem.Claim
import GoSem.ClaimJoined
import GoSem.ClaimMapViews
import Derived.JoinedTies
import Derived.KernelRfl
namespace Go.Proofs.Qxb6618334a
/- THE CELL 'sum', in the pinned program and in every row, IS THE sha256 OF THE DUMP (.gsa) THAT Qxb6618334aProg.lean LOADS. Nothing in Lean hashes anything: it is a label: what it is worth is what the hold of that sum in a sandbox is worth. -/
noncomputable def Try.pinned : Pinned := { name := "qxb6618334a", sum := "ef74dc492a5ceeff432103c1cfd8f56386b6b545a41617baa12156615ee06f60", checked := Try.checked }
namespace Rows
def none {H : Type} : Left H := { results := [], args := [] }

/-- 'zzlaws_internal_stun_b1.FnGetAfterInsertAnyPlace': WHATEVER THE INPUT: true; the input reads as it did. -/
def fnGetAfterInsertAnyPlaceSpec : ChangeSpec := { name := "fnGetAfterInsertAnyPlace", fn := fun _ => fun
  | [d1, d2, d3, d4, d5, d6, d7, d8, d9] => { results := [.lit (.bool true)], args := [d1, d2, d3, d4, d5, d6, d7, d8, d9] }
  | _ => none }
def fnGetAfterInsertAnyPlaceRow : OpenClaim := { program := "qxb6618334a", sum := "ef74dc492a5ceeff432103c1cfd8f56386b6b545a41617baa12156615ee06f60", func := "example.com/ravelcall/ravelcall/zzlaws_internal_stun_b1.FnGetAfterInsertAnyPlace", spec := "fnGetAfterInsertAnyPlace", apart := false }
def FnGetAfterInsertAnyPlaceSaid : Prop := fnGetAfterInsertAnyPlaceRow.holds Try.pinned (OpenSpec.ofChange fnGetAfterInsertAnyPlaceSpec)

/-- ITS FALSE NEIGHBOUR: 'it returns false'. Refute it at one input. -/
def fnGetAfterInsertAnyPlaceWrong : ChangeSpec := { name := "fnGetAfterInsertAnyPlace", fn := fun _ => fun
  | [d1, d2, d3, d4, d5, d6, d7, d8, d9] => { results := [.lit (.bool false)], args := [d1, d2, d3, d4, d5, d6, d7, d8, d9] }
  | _ => none }
def FnGetAfterInsertAnyPlaceWrongFalsely : Prop := fnGetAfterInsertAnyPlaceRow.holds Try.pinned (OpenSpec.ofChange fnGetAfterInsertAnyPlaceWrong)

end Rows
end Go.Proofs.Qxb6618334a
