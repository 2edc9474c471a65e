import Derived.Test.Qxb6618769aFmtRows
import Derived.Stop.CallBack
import Derived.Stop.IfaceNil
import Derived.WalkKit
import Derived.WalkLawsBesides
import Derived.WalkSpells
import Derived.BigCall
import GoSem.ClaimData
namespace Go.Proofs.Qxb6618769aFmt
open Go.Extern.Stop Go.Stop Go.Extern Go.RowKit
set_option linter.unusedVariables false

/-! The closed facts for a walk over fmt's stopped front (after the guide's worked Trailer family, turned to this program). -/
theorem call28 (args : Array Value) (w : World) : (callFunc 28 args).run Tryf.prog w = ((FmtStop.errorf #[9, 63] #[37] args).run Tryf.prog w).andThen fun v w' => .ok (.value v) w' :=
  run_callFunc_extern Tryf.func28 (by kernel_rfl) (by kernel_rfl) (by kernel_rfl) (by kernel_rfl) args w
theorem fguard (name : String) (w : World) : (FmtStop.guard name).run Tryf.prog w = .ok () w := by kernel_rfl
theorem fmt0 : FmtStop.printed? ⟨#[114, 101, 97, 100, 105, 110, 103, 32, 71, 65, 78, 32, 108, 101, 110, 103, 116, 104, 32, 105, 110, 100, 105, 99, 97, 116, 111, 114, 58, 32, 37, 119]⟩ 1 = some [(0, 119, false)] := by kernel_rfl
theorem fmt0r (w : World) : (FmtDoors.printed ⟨#[114, 101, 97, 100, 105, 110, 103, 32, 71, 65, 78, 32, 108, 101, 110, 103, 116, 104, 32, 105, 110, 100, 105, 99, 97, 116, 111, 114, 58, 32, 37, 119]⟩ 1).run Tryf.prog w = .ok [(0, 119, false)] w := by kernel_rfl
theorem fmt1 : FmtStop.printed? ⟨#[114, 101, 97, 100, 105, 110, 103, 32, 71, 65, 78, 32, 109, 101, 115, 115, 97, 103, 101, 32, 111, 102, 32, 37, 100, 32, 111, 99, 116, 101, 116, 115, 58, 32, 37, 119]⟩ 2 = some [(0, 100, false), (1, 119, false)] := by kernel_rfl
theorem fmt1r (w : World) : (FmtDoors.printed ⟨#[114, 101, 97, 100, 105, 110, 103, 32, 71, 65, 78, 32, 109, 101, 115, 115, 97, 103, 101, 32, 111, 102, 32, 37, 100, 32, 111, 99, 116, 101, 116, 115, 58, 32, 37, 119]⟩ 2).run Tryf.prog w = .ok [(0, 100, false), (1, 119, false)] w := by kernel_rfl
theorem name3 : Tryf.prog.typeName? 3 3 = some "int" := by kernel_rfl
def shape3 : List UInt8 := [5, 3, 0, 0, 0, 0, 0, 0, 0, 105, 110, 116]
theorem op3_100w (name : String) (x : Int) (w : World) : (FmtStop.operand name true 100 false (.iface 3 (.int .i64 x))).run Tryf.prog w = .ok (shape3, Go.Extern.Stop.digits 8 (x % 2 ^ 64).toNat) w := by kernel_rfl
theorem ptr68 (w : World) : (FmtStop.ptrTo "errors.errorString").run Tryf.prog w = .ok 68 w := by kernel_rfl
theorem elem68 (w : World) : (elemOf 68).run Tryf.prog w = .ok 70 w := by kernel_rfl
theorem isError68' (w : World) : (FmtDoors.textMethod 68 "Error").run Tryf.prog w = .ok true w := by kernel_rfl
theorem ptr65 (w : World) : (FmtStop.ptrTo "fmt.wrapError").run Tryf.prog w = .ok 65 w := by kernel_rfl
theorem elem65 (w : World) : (elemOf 65).run Tryf.prog w = .ok 88 w := by kernel_rfl
theorem isError65' (w : World) : (FmtDoors.textMethod 65 "Error").run Tryf.prog w = .ok true w := by kernel_rfl
/-- The name of errors.New's type, as the row names it. -/
def errName : String := match (Rows.laid_io_EOF (H := Unit)) with | .iface n _ => n | _ => ""
/-- An error of errors.New's make as an operand: it reads as something, out of memory, and nothing turns. -/
theorem opPlain68_119w (name : String) (a : Addr) (s : ByteArray) (w : World) (hc : w.cell? a = some (.string s)) :
    ∃ sh, (FmtStop.operand name true 119 false (.iface 68 (.pointer (some a)))).run Tryf.prog w = .ok (sh, s.data.toList) w := by
  have h1 : (typeStr 68).run Tryf.prog w = .ok errName w := by kernel_rfl
  have d2 : Tryf.t68.desc = .pointer 70 := rfl
  have d3 : Tryf.t70.desc = .named "errors.errorString" 69 := rfl
  simp [FmtStop.operand, h1, d2, d3, run_load, hc]

attribute [local go_sem] call28 fguard fmt0 fmt0r fmt1 fmt1r op3_100w ptr68 elem68 isError68' ptr65 elem65 isError65'

set_option maxHeartbeats 1600000 in
/-- fmt.Errorf at the length indicator's format: a new error of fmt's own type. -/
theorem errorf1 (F : Interp) (a : Addr) (s : ByteArray) (c : Nat) (w : World) (hF : F.answers w.tape) (b : Nat)
    (hv : w.cell? ⟨b, 0, none⟩ = some (.iface 68 (.pointer (some a)))) (hs : w.cell? a = some (.string s)) :
    Calls Tryf.prog 23 #[.string ⟨#[114, 101, 97, 100, 105, 110, 103, 32, 71, 65, 78, 32, 108, 101, 110, 103, 116, 104, 32, 105, 110, 100, 105, 99, 97, 116, 111, 114, 58, 32, 37, 119]⟩, .slice (some ⟨b, 0, none⟩) 1 1] w fun e w' => Below w.heap.size w w' ∧ ∃ N, e = .returned (.iface 65 (.pointer (some ⟨N, 0, none⟩))) := by
  have hF' := answers_open hF
  obtain ⟨sh, hop⟩ := opPlain68_119w "fmt.errorf" a s w hs
  go_enter Tryf.func23, Tryf.ntmps23
  go_wp2
  go_ret
  exact ⟨((Below.refl _ w).alloc (Nat.le_refl _) _).drew, _, rfl⟩

set_option maxHeartbeats 1600000 in
/-- fmt.Errorf at the message's format: a new error of fmt's own type. -/
theorem errorf2 (F : Interp) (a : Addr) (s : ByteArray) (n : Int) (w : World) (hF : F.answers w.tape) (b : Nat)
    (hn : w.cell? ⟨b, 0, none⟩ = some (.iface 3 (.int .i64 n))) (hv : w.cell? ⟨b, 1, none⟩ = some (.iface 68 (.pointer (some a)))) (hs : w.cell? a = some (.string s)) :
    Calls Tryf.prog 23 #[.string ⟨#[114, 101, 97, 100, 105, 110, 103, 32, 71, 65, 78, 32, 109, 101, 115, 115, 97, 103, 101, 32, 111, 102, 32, 37, 100, 32, 111, 99, 116, 101, 116, 115, 58, 32, 37, 119]⟩, .slice (some ⟨b, 0, none⟩) 2 2] w fun e w' => Below w.heap.size w w' ∧ ∃ N, e = .returned (.iface 65 (.pointer (some ⟨N, 0, none⟩))) := by
  have hF' := answers_open hF
  obtain ⟨sh, hop⟩ := opPlain68_119w "fmt.errorf" a s w hs
  go_enter Tryf.func23, Tryf.ntmps23
  go_wp2
  go_ret
  exact ⟨((Below.refl _ w).alloc (Nat.le_refl _) _).drew, _, rfl⟩

end Go.Proofs.Qxb6618769aFmt
