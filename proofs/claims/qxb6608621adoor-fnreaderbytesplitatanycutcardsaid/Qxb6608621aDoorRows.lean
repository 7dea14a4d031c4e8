/-
  NARROWER THAN 'FOR EVERY INPUT', by the rows' own cells (each row's printed sentence says how): FnReaderByteSplitAtAnyCut: laid.
  DERIVED. THE GIVEN ROWS OF THIS SEAT. 1 by the template 'for every input the law returns true; each argument reads behind the call as it read before'; 0 by the template 'total and deterministic' (their statements: Qxb6608621aDoorTotals.lean).
  GIVEN WITH THE SEED: the statements are not yours to turn. If you find one false, say at which input.
  Laid BY PROGRAM, IN A SANDBOX (cutbox-rows.mjs): the forced cells as the released guide's own fill.sh prints them over the translation bb7ed334fcf84f99… (all of the seat's roots in one cut). By AI agents, Wed Nov 11 2026. No macro, syntax, notation, axiom, sorry.
-/
import Derived.Test.Qxb6608621aDoorChecked
import GoSem.Claim
import GoSem.ClaimJoined
import GoSem.ClaimMapViews
import Derived.JoinedTies
import Derived.KernelRfl
namespace Go.Proofs.Qxb6608621aDoor
/- THE CELL 'sum', in the pinned program and in every row, IS THE sha256 OF THE DUMP (.gsa) THAT Qxb6608621aDoorProg.lean LOADS. Nothing in Lean hashes anything: it is a label: what it is worth is what the hold of that sum in a sandbox is worth. -/
noncomputable def Tryd.pinned : Pinned := { name := "qxb6608621adoor", sum := "bb7ed334fcf84f9954727fd88edbb649b540b052b182c7f900931bb5144ccce0", checked := Tryd.checked }
namespace Rows
def none {H : Type} : Left H := { results := [], args := [] }

/- WHAT THE LISTED PACKAGE-LEVEL VARIABLES READ AS WHEN THE CALL BEGINS. Each datum BY PROGRAM (the guide's laid-datum.mjs) off the statement by which the dump's own 'gosem.cut.vars' lays the variable. In a bare row this is a premise. The card (Qxb6608621aDoorCards.lean) ties it to the program's text. -/
def laid_io_EOF {H : Type} : DataW H := .iface "*errors.errorString" (.ptr (.agg [.lit (.string [69, 79, 70])]))
def laid_io_ErrUnexpectedEOF {H : Type} : DataW H := .iface "*errors.errorString" (.ptr (.agg [.lit (.string [117, 110, 101, 120, 112, 101, 99, 116, 101, 100, 32, 69, 79, 70])]))
def laid_io_ErrNoProgress {H : Type} : DataW H := .iface "*errors.errorString" (.ptr (.agg [.lit (.string [109, 117, 108, 116, 105, 112, 108, 101, 32, 82, 101, 97, 100, 32, 99, 97, 108, 108, 115, 32, 114, 101, 116, 117, 114, 110, 32, 110, 111, 32, 100, 97, 116, 97, 32, 111, 114, 32, 101, 114, 114, 111, 114])]))

/-- 'zzlaws_internal_strictjson_b1.FnReaderByteSplitAtAnyCut': WHATEVER THE INPUT: true; the input reads as it did. -/
def fnReaderByteSplitAtAnyCutSpec : ChangeSpec := { name := "fnReaderByteSplitAtAnyCut", fn := fun _ => fun
  | [d1, d2] => { results := [.lit (.bool true)], args := [d1, d2] }
  | _ => none }
def fnReaderByteSplitAtAnyCutRow : OpenClaim := { program := "qxb6608621adoor", sum := "bb7ed334fcf84f9954727fd88edbb649b540b052b182c7f900931bb5144ccce0", func := "example.com/attestary/attestary/zzlaws_internal_strictjson_b1.FnReaderByteSplitAtAnyCut", spec := "fnReaderByteSplitAtAnyCut", unfollowed := true, recurses := true, named := ["io.EOF", "io.ErrNoProgress", "io.ErrUnexpectedEOF"], apart := false, laid := [("io.EOF", laid_io_EOF), ("io.ErrUnexpectedEOF", laid_io_ErrUnexpectedEOF), ("io.ErrNoProgress", laid_io_ErrNoProgress)] }
def FnReaderByteSplitAtAnyCutSaid : Prop := fnReaderByteSplitAtAnyCutRow.holds Tryd.pinned (OpenSpec.ofChange fnReaderByteSplitAtAnyCutSpec)

/-- ITS FALSE NEIGHBOUR: 'it returns false'. Refute it at one input. -/
def fnReaderByteSplitAtAnyCutWrong : ChangeSpec := { name := "fnReaderByteSplitAtAnyCut", fn := fun _ => fun
  | [d1, d2] => { results := [.lit (.bool false)], args := [d1, d2] }
  | _ => none }
def FnReaderByteSplitAtAnyCutWrongFalsely : Prop := fnReaderByteSplitAtAnyCutRow.holds Tryd.pinned (OpenSpec.ofChange fnReaderByteSplitAtAnyCutWrong)

end Rows
end Go.Proofs.Qxb6608621aDoor
