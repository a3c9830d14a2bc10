/-
  NARROWER THAN 'FOR EVERY INPUT', by the rows' own cells (each row's printed sentence says how): FnPermanentReplyAgreesAndSurvivesWrapping: laid · FnPermanentConversionWinsAnyJoin: laid · FnDotWriteAnyCutMatchesModel: laid · FnDotWriteChunksUnstuffBack: laid.
  DERIVED. THE GIVEN ROWS OF THIS SEAT. 4 by the template 'for every input the law returns true; each argument reads behind the call as it read before'; 0 by the template 'total and deterministic' (their statements: Qxb6614864aDoorTotals.lean).
  GIVEN WITH THE SEED: the statements are not yours to turn. If you find one false, say at which input.
  Laid BY PROGRAM, IN A SANDBOX (cutbox-rows.mjs): the forced cells as the released guide's own fill.sh prints them over the translation 60122fbe761c1275… (all of the seat's roots in one cut). By AI agents, Wed Nov 11 2026. No macro, syntax, notation, axiom, sorry.
-/
import Derived.Test.Qxb6614864aDoorChecked
import GoSem.Claim
import GoSem.ClaimJoined
import GoSem.ClaimMapViews
import Derived.JoinedTies
import Derived.KernelRfl
namespace Go.Proofs.Qxb6614864aDoor
/- THE CELL 'sum', in the pinned program and in every row, IS THE sha256 OF THE DUMP (.gsa) THAT Qxb6614864aDoorProg.lean LOADS. Nothing in Lean hashes anything: it is a label: what it is worth is what the hold of that sum in a sandbox is worth. -/
noncomputable def Tryd.pinned : Pinned := { name := "qxb6614864adoor", sum := "60122fbe761c12759828e7d3e6f5fd1c4a7cf7122ab962103a789fb36630a45a", checked := Tryd.checked }
namespace Rows
def none {H : Type} : Left H := { results := [], args := [] }

/- WHAT THE LISTED PACKAGE-LEVEL VARIABLES READ AS WHEN THE CALL BEGINS. Each datum BY PROGRAM (the guide's laid-datum.mjs) off the statement by which the dump's own 'gosem.cut.vars' lays the variable. In a bare row this is a premise. The card (Qxb6614864aDoorCards.lean) ties it to the program's text. -/
def laid_errors_errorType {H : Type} : DataW H := .iface "internal/reflectlite.rtype" (.agg [.ptr (.lit (.string [101, 114, 114, 111, 114]))])
def laid_io_ErrShortWrite {H : Type} : DataW H := .iface "*errors.errorString" (.ptr (.agg [.lit (.string [115, 104, 111, 114, 116, 32, 119, 114, 105, 116, 101])]))

/-- 'zzlaws_relay_b1.FnPermanentReplyAgreesAndSurvivesWrapping': WHATEVER THE INPUT: true; the input reads as it did. -/
def fnPermanentReplyAgreesAndSurvivesWrappingSpec : ChangeSpec := { name := "fnPermanentReplyAgreesAndSurvivesWrapping", fn := fun _ => fun
  | [d1, d2, d3, d4] => { results := [.lit (.bool true)], args := [d1, d2, d3, d4] }
  | _ => none }
def fnPermanentReplyAgreesAndSurvivesWrappingRow : OpenClaim := { program := "qxb6614864adoor", sum := "60122fbe761c12759828e7d3e6f5fd1c4a7cf7122ab962103a789fb36630a45a", func := "example.com/postern/postern/zzlaws_relay_b1.FnPermanentReplyAgreesAndSurvivesWrapping", spec := "fnPermanentReplyAgreesAndSurvivesWrapping", inPlace := ["internal/reflectlite.ValueOf", "(internal/reflectlite.Value).Type", "(internal/reflectlite.Value).IsNil", "internal/reflectlite.TypeOf", "(internal/reflectlite.Value).Elem", "(internal/reflectlite.Value).Set"], unfollowed := true, recurses := true, named := ["errors.errorType"], apart := false, laid := [("errors.errorType", laid_errors_errorType)] }
def FnPermanentReplyAgreesAndSurvivesWrappingSaid : Prop := fnPermanentReplyAgreesAndSurvivesWrappingRow.holds Tryd.pinned (OpenSpec.ofChange fnPermanentReplyAgreesAndSurvivesWrappingSpec)

/-- ITS FALSE NEIGHBOUR: 'it returns false'. Refute it at one input. -/
def fnPermanentReplyAgreesAndSurvivesWrappingWrong : ChangeSpec := { name := "fnPermanentReplyAgreesAndSurvivesWrapping", fn := fun _ => fun
  | [d1, d2, d3, d4] => { results := [.lit (.bool false)], args := [d1, d2, d3, d4] }
  | _ => none }
def FnPermanentReplyAgreesAndSurvivesWrappingWrongFalsely : Prop := fnPermanentReplyAgreesAndSurvivesWrappingRow.holds Tryd.pinned (OpenSpec.ofChange fnPermanentReplyAgreesAndSurvivesWrappingWrong)

/-- 'zzlaws_relay_b1.FnPermanentConversionWinsAnyJoin': WHATEVER THE INPUT: true; the input reads as it did. -/
def fnPermanentConversionWinsAnyJoinSpec : ChangeSpec := { name := "fnPermanentConversionWinsAnyJoin", fn := fun _ => fun
  | [d1, d2, d3, d4, d5, d6] => { results := [.lit (.bool true)], args := [d1, d2, d3, d4, d5, d6] }
  | _ => none }
def fnPermanentConversionWinsAnyJoinRow : OpenClaim := { program := "qxb6614864adoor", sum := "60122fbe761c12759828e7d3e6f5fd1c4a7cf7122ab962103a789fb36630a45a", func := "example.com/postern/postern/zzlaws_relay_b1.FnPermanentConversionWinsAnyJoin", spec := "fnPermanentConversionWinsAnyJoin", inPlace := ["internal/reflectlite.ValueOf", "(internal/reflectlite.Value).Type", "(internal/reflectlite.Value).IsNil", "internal/reflectlite.TypeOf", "(internal/reflectlite.Value).Elem", "(internal/reflectlite.Value).Set"], unfollowed := true, recurses := true, named := ["errors.errorType"], apart := false, laid := [("errors.errorType", laid_errors_errorType)] }
def FnPermanentConversionWinsAnyJoinSaid : Prop := fnPermanentConversionWinsAnyJoinRow.holds Tryd.pinned (OpenSpec.ofChange fnPermanentConversionWinsAnyJoinSpec)

/-- ITS FALSE NEIGHBOUR: 'it returns false'. Refute it at one input. -/
def fnPermanentConversionWinsAnyJoinWrong : ChangeSpec := { name := "fnPermanentConversionWinsAnyJoin", fn := fun _ => fun
  | [d1, d2, d3, d4, d5, d6] => { results := [.lit (.bool false)], args := [d1, d2, d3, d4, d5, d6] }
  | _ => none }
def FnPermanentConversionWinsAnyJoinWrongFalsely : Prop := fnPermanentConversionWinsAnyJoinRow.holds Tryd.pinned (OpenSpec.ofChange fnPermanentConversionWinsAnyJoinWrong)

/-- 'zzlaws_relay_b1.FnDotWriteAnyCutMatchesModel': WHATEVER THE INPUT: true; the input reads as it did. -/
def fnDotWriteAnyCutMatchesModelSpec : ChangeSpec := { name := "fnDotWriteAnyCutMatchesModel", fn := fun _ => fun
  | [d1, d2] => { results := [.lit (.bool true)], args := [d1, d2] }
  | _ => none }
def fnDotWriteAnyCutMatchesModelRow : OpenClaim := { program := "qxb6614864adoor", sum := "60122fbe761c12759828e7d3e6f5fd1c4a7cf7122ab962103a789fb36630a45a", func := "example.com/postern/postern/zzlaws_relay_b1.FnDotWriteAnyCutMatchesModel", spec := "fnDotWriteAnyCutMatchesModel", inPlace := ["internal/bytealg.IndexByte"], unfollowed := true, recurses := true, named := ["io.ErrShortWrite"], apart := false, laid := [("io.ErrShortWrite", laid_io_ErrShortWrite)] }
def FnDotWriteAnyCutMatchesModelSaid : Prop := fnDotWriteAnyCutMatchesModelRow.holds Tryd.pinned (OpenSpec.ofChange fnDotWriteAnyCutMatchesModelSpec)

/-- ITS FALSE NEIGHBOUR: 'it returns false'. Refute it at one input. -/
def fnDotWriteAnyCutMatchesModelWrong : ChangeSpec := { name := "fnDotWriteAnyCutMatchesModel", fn := fun _ => fun
  | [d1, d2] => { results := [.lit (.bool false)], args := [d1, d2] }
  | _ => none }
def FnDotWriteAnyCutMatchesModelWrongFalsely : Prop := fnDotWriteAnyCutMatchesModelRow.holds Tryd.pinned (OpenSpec.ofChange fnDotWriteAnyCutMatchesModelWrong)

/-- 'zzlaws_relay_b1.FnDotWriteChunksUnstuffBack': WHATEVER THE INPUT: true; the input reads as it did. -/
def fnDotWriteChunksUnstuffBackSpec : ChangeSpec := { name := "fnDotWriteChunksUnstuffBack", fn := fun _ => fun
  | [d] => { results := [.lit (.bool true)], args := [d] }
  | _ => none }
def fnDotWriteChunksUnstuffBackRow : OpenClaim := { program := "qxb6614864adoor", sum := "60122fbe761c12759828e7d3e6f5fd1c4a7cf7122ab962103a789fb36630a45a", func := "example.com/postern/postern/zzlaws_relay_b1.FnDotWriteChunksUnstuffBack", spec := "fnDotWriteChunksUnstuffBack", inPlace := ["internal/bytealg.IndexByte"], unfollowed := true, recurses := true, named := ["io.ErrShortWrite"], apart := false, laid := [("io.ErrShortWrite", laid_io_ErrShortWrite)] }
def FnDotWriteChunksUnstuffBackSaid : Prop := fnDotWriteChunksUnstuffBackRow.holds Tryd.pinned (OpenSpec.ofChange fnDotWriteChunksUnstuffBackSpec)

/-- ITS FALSE NEIGHBOUR: 'it returns false'. Refute it at one input. -/
def fnDotWriteChunksUnstuffBackWrong : ChangeSpec := { name := "fnDotWriteChunksUnstuffBack", fn := fun _ => fun
  | [d] => { results := [.lit (.bool false)], args := [d] }
  | _ => none }
def FnDotWriteChunksUnstuffBackWrongFalsely : Prop := fnDotWriteChunksUnstuffBackRow.holds Tryd.pinned (OpenSpec.ofChange fnDotWriteChunksUnstuffBackWrong)

end Rows
end Go.Proofs.Qxb6614864aDoor
