/-
  NARROWER THAN 'FOR EVERY INPUT', by the rows' own cells (each row's printed sentence says how): FnReadFramesScriptYieldsEveryWholeMessage: laid · FnReadFramesTakesAllThatCameInOneRead: laid.
  DERIVED. THE GIVEN ROWS OF THIS SEAT. 2 by the template 'for every input the law returns true; each argument reads behind the call as it read before'; 0 by the template 'total and deterministic' (their statements: Qxb6618769aFmtTotals.lean).
  GIVEN WITH THE SEED: the statements are not yours to turn. If you find one false, say at which input.
  Laid BY PROGRAM, IN A SANDBOX (cutbox-rows.mjs): the forced cells as the released guide's own fill.sh prints them over the translation 8854908e079d1b9f… (all of the seat's roots in one cut). By AI agents, Wed Nov 11 2026. No macro, syntax, notation, axiom, sorry.
-/
import Derived.Test.Qxb6618769aFmtChecked
import GoSem.Claim
import GoSem.ClaimJoined
import GoSem.ClaimMapViews
import Derived.JoinedTies
import Derived.KernelRfl
namespace Go.Proofs.Qxb6618769aFmt
/- THE CELL 'sum', in the pinned program and in every row, IS THE sha256 OF THE DUMP (.gsa) THAT Qxb6618769aFmtProg.lean LOADS. Nothing in Lean hashes anything: it is a label: what it is worth is what the hold of that sum in a sandbox is worth. -/
noncomputable def Tryf.pinned : Pinned := { name := "qxb6618769afmt", sum := "8854908e079d1b9ffcafb8b3b267b894d6e79224d4f2ac8d2b641fd801b76bb2", checked := Tryf.checked }
namespace Rows
def none {H : Type} : Left H := { results := [], args := [] }

/- WHAT THE LISTED PACKAGE-LEVEL VARIABLES READ AS WHEN THE CALL BEGINS. Each datum BY PROGRAM (the guide's laid-datum.mjs) off the statement by which the dump's own 'gosem.cut.vars' lays the variable. In a bare row this is a premise. The card (Qxb6618769aFmtCards.lean) ties it to the program's text. -/
def laid_io_ErrShortBuffer {H : Type} : DataW H := .iface "*errors.errorString" (.ptr (.agg [.lit (.string [115, 104, 111, 114, 116, 32, 98, 117, 102, 102, 101, 114])]))
def laid_io_EOF {H : Type} : DataW H := .iface "*errors.errorString" (.ptr (.agg [.lit (.string [69, 79, 70])]))
def laid_io_ErrUnexpectedEOF {H : Type} : DataW H := .iface "*errors.errorString" (.ptr (.agg [.lit (.string [117, 110, 101, 120, 112, 101, 99, 116, 101, 100, 32, 69, 79, 70])]))
def laid_io_ErrNoProgress {H : Type} : DataW H := .iface "*errors.errorString" (.ptr (.agg [.lit (.string [109, 117, 108, 116, 105, 112, 108, 101, 32, 82, 101, 97, 100, 32, 99, 97, 108, 108, 115, 32, 114, 101, 116, 117, 114, 110, 32, 110, 111, 32, 100, 97, 116, 97, 32, 111, 114, 32, 101, 114, 114, 111, 114])]))
def laid_bufio_ErrBufferFull {H : Type} : DataW H := .iface "*errors.errorString" (.ptr (.agg [.lit (.string [98, 117, 102, 105, 111, 58, 32, 98, 117, 102, 102, 101, 114, 32, 102, 117, 108, 108])]))
def laid_bufio_ErrNegativeCount {H : Type} : DataW H := .iface "*errors.errorString" (.ptr (.agg [.lit (.string [98, 117, 102, 105, 111, 58, 32, 110, 101, 103, 97, 116, 105, 118, 101, 32, 99, 111, 117, 110, 116])]))
def laid_bufio_errNegativeRead {H : Type} : DataW H := .iface "*errors.errorString" (.ptr (.agg [.lit (.string [98, 117, 102, 105, 111, 58, 32, 114, 101, 97, 100, 101, 114, 32, 114, 101, 116, 117, 114, 110, 101, 100, 32, 110, 101, 103, 97, 116, 105, 118, 101, 32, 99, 111, 117, 110, 116, 32, 102, 114, 111, 109, 32, 82, 101, 97, 100])]))

/-- 'zzlaws_root_b1.FnReadFramesScriptYieldsEveryWholeMessage': WHATEVER THE INPUT: true; the input reads as it did. -/
def fnReadFramesScriptYieldsEveryWholeMessageSpec : ChangeSpec := { name := "fnReadFramesScriptYieldsEveryWholeMessage", fn := fun _ => fun
  | [d1, d2] => { results := [.lit (.bool true)], args := [d1, d2] }
  | _ => none }
def fnReadFramesScriptYieldsEveryWholeMessageRow : OpenClaim := { program := "qxb6618769afmt", sum := "8854908e079d1b9ffcafb8b3b267b894d6e79224d4f2ac8d2b641fd801b76bb2", func := "example.com/gannet/gannet/zzlaws_root_b1.FnReadFramesScriptYieldsEveryWholeMessage", spec := "fnReadFramesScriptYieldsEveryWholeMessage", stops := ["fmt.errorf"], inPlace := ["fmt.errorf"], unfollowed := true, recurses := true, named := ["io.EOF", "encoding/binary.BigEndian", "io.ErrUnexpectedEOF", "io.ErrShortBuffer", "bufio.ErrNegativeCount", "bufio.ErrBufferFull", "bufio.errNegativeRead", "io.ErrNoProgress"], apart := false, laid := [("io.ErrShortBuffer", laid_io_ErrShortBuffer), ("io.EOF", laid_io_EOF), ("io.ErrUnexpectedEOF", laid_io_ErrUnexpectedEOF), ("io.ErrNoProgress", laid_io_ErrNoProgress), ("bufio.ErrBufferFull", laid_bufio_ErrBufferFull), ("bufio.ErrNegativeCount", laid_bufio_ErrNegativeCount), ("bufio.errNegativeRead", laid_bufio_errNegativeRead)] }
/-- NO THEOREM (fmt's text is open here; it may be false): for the released tool's asking of the row's closed facts alone. THE STATEMENT IS 'FnReadFramesScriptYieldsEveryWholeMessageToldSaid' (Qxb6618769aFmtCards.lean). -/
def FnReadFramesScriptYieldsEveryWholeMessageFormAsk : Prop := fnReadFramesScriptYieldsEveryWholeMessageRow.holds Tryf.pinned (OpenSpec.ofChange fnReadFramesScriptYieldsEveryWholeMessageSpec)

/-- ITS FALSE NEIGHBOUR: 'it returns false'. Refute it at one input. -/
def fnReadFramesScriptYieldsEveryWholeMessageWrong : ChangeSpec := { name := "fnReadFramesScriptYieldsEveryWholeMessage", fn := fun _ => fun
  | [d1, d2] => { results := [.lit (.bool false)], args := [d1, d2] }
  | _ => none }
def FnReadFramesScriptYieldsEveryWholeMessageWrongFormAsk : Prop := fnReadFramesScriptYieldsEveryWholeMessageRow.holds Tryf.pinned (OpenSpec.ofChange fnReadFramesScriptYieldsEveryWholeMessageWrong)

/-- 'zzlaws_root_b1.FnReadFramesTakesAllThatCameInOneRead': WHATEVER THE INPUT: true; the input reads as it did. -/
def fnReadFramesTakesAllThatCameInOneReadSpec : ChangeSpec := { name := "fnReadFramesTakesAllThatCameInOneRead", fn := fun _ => fun
  | [d1, d2] => { results := [.lit (.bool true)], args := [d1, d2] }
  | _ => none }
def fnReadFramesTakesAllThatCameInOneReadRow : OpenClaim := { program := "qxb6618769afmt", sum := "8854908e079d1b9ffcafb8b3b267b894d6e79224d4f2ac8d2b641fd801b76bb2", func := "example.com/gannet/gannet/zzlaws_root_b1.FnReadFramesTakesAllThatCameInOneRead", spec := "fnReadFramesTakesAllThatCameInOneRead", stops := ["fmt.errorf"], inPlace := ["fmt.errorf"], unfollowed := true, recurses := true, named := ["io.EOF", "encoding/binary.BigEndian", "io.ErrUnexpectedEOF", "io.ErrShortBuffer", "bufio.ErrNegativeCount", "bufio.ErrBufferFull", "bufio.errNegativeRead", "io.ErrNoProgress"], apart := false, laid := [("io.ErrShortBuffer", laid_io_ErrShortBuffer), ("io.EOF", laid_io_EOF), ("io.ErrUnexpectedEOF", laid_io_ErrUnexpectedEOF), ("io.ErrNoProgress", laid_io_ErrNoProgress), ("bufio.ErrBufferFull", laid_bufio_ErrBufferFull), ("bufio.ErrNegativeCount", laid_bufio_ErrNegativeCount), ("bufio.errNegativeRead", laid_bufio_errNegativeRead)] }
/-- NO THEOREM (fmt's text is open here; it may be false): for the released tool's asking of the row's closed facts alone. THE STATEMENT IS 'FnReadFramesTakesAllThatCameInOneReadToldSaid' (Qxb6618769aFmtCards.lean). -/
def FnReadFramesTakesAllThatCameInOneReadFormAsk : Prop := fnReadFramesTakesAllThatCameInOneReadRow.holds Tryf.pinned (OpenSpec.ofChange fnReadFramesTakesAllThatCameInOneReadSpec)

/-- ITS FALSE NEIGHBOUR: 'it returns false'. Refute it at one input. -/
def fnReadFramesTakesAllThatCameInOneReadWrong : ChangeSpec := { name := "fnReadFramesTakesAllThatCameInOneRead", fn := fun _ => fun
  | [d1, d2] => { results := [.lit (.bool false)], args := [d1, d2] }
  | _ => none }
def FnReadFramesTakesAllThatCameInOneReadWrongFormAsk : Prop := fnReadFramesTakesAllThatCameInOneReadRow.holds Tryf.pinned (OpenSpec.ofChange fnReadFramesTakesAllThatCameInOneReadWrong)

end Rows
end Go.Proofs.Qxb6618769aFmt
