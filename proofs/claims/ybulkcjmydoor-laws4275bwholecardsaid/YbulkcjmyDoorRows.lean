/-
  NARROWER THAN 'FOR EVERY INPUT', by the rows' own cells (each row's printed sentence says how): LawS4275BScripted: laid · LawS4275BWhole: laid.
  DERIVED. THE GIVEN ROWS OF THIS SEAT. 2 by the template 'for every input the law returns true; each argument reads behind the call as it read before'; 0 by the template 'total and deterministic' (their statements: YbulkcjmyDoorTotals.lean).
  GIVEN WITH THE SEED: the statements are not yours to turn. If you find one false, say at which input.
  Laid BY PROGRAM, IN A SANDBOX (cutbox-rows.mjs): the forced cells as the released guide's own fill.sh prints them over the translation f0c99c4065f467ec… (all of the seat's roots in one cut). By AI agents, Wed Nov 11 2026. No macro, syntax, notation, axiom, sorry.
-/
import Derived.Test.YbulkcjmyDoorChecked
import GoSem.Claim
import GoSem.ClaimJoined
import GoSem.ClaimMapViews
import Derived.JoinedTies
import Derived.KernelRfl
namespace Go.Proofs.YbulkcjmyDoor
/- THE CELL 'sum', in the pinned program and in every row, IS THE sha256 OF THE DUMP (.gsa) THAT YbulkcjmyDoorProg.lean LOADS. Nothing in Lean hashes anything: it is a label: what it is worth is what the hold of that sum in a sandbox is worth. -/
noncomputable def Ybad.pinned : Pinned := { name := "ybulkcjmydoor", sum := "f0c99c4065f467ecbe32a6aa247aaedcdfb5686b64572e1b27e6fa821012524b", checked := Ybad.checked }
namespace Rows
def none {H : Type} : Left H := { results := [], args := [] }

/- WHAT THE LISTED PACKAGE-LEVEL VARIABLES READ AS WHEN THE CALL BEGINS. Each datum BY PROGRAM (the guide's laid-datum.mjs) off the statement by which the dump's own 'gosem.cut.vars' lays the variable. In a bare row this is a premise. The card (YbulkcjmyDoorCards.lean) ties it to the program's text. -/
def laid_io_ErrNoProgress {H : Type} : DataW H := .iface "*errors.errorString" (.ptr (.agg [.lit (.string [109, 117, 108, 116, 105, 112, 108, 101, 32, 82, 101, 97, 100, 32, 99, 97, 108, 108, 115, 32, 114, 101, 116, 117, 114, 110, 32, 110, 111, 32, 100, 97, 116, 97, 32, 111, 114, 32, 101, 114, 114, 111, 114])]))
def laid_io_EOF {H : Type} : DataW H := .iface "*errors.errorString" (.ptr (.agg [.lit (.string [69, 79, 70])]))

/-- 'seriate.LawS4275BScripted': WHATEVER THE INPUT: true; the input reads as it did. -/
def lawS4275BScriptedSpec : ChangeSpec := { name := "lawS4275BScripted", fn := fun _ => fun
  | [d1, d2, d3, d4, d5] => { results := [.lit (.bool true)], args := [d1, d2, d3, d4, d5] }
  | _ => none }
def lawS4275BScriptedRow : OpenClaim := { program := "ybulkcjmydoor", sum := "f0c99c4065f467ecbe32a6aa247aaedcdfb5686b64572e1b27e6fa821012524b", func := "example.com/seriate/seriate.LawS4275BScripted", spec := "lawS4275BScripted", unfollowed := true, recurses := true, named := ["io.ErrNoProgress"], apart := false, laid := [("io.ErrNoProgress", laid_io_ErrNoProgress)] }
def LawS4275BScriptedSaid : Prop := lawS4275BScriptedRow.holds Ybad.pinned (OpenSpec.ofChange lawS4275BScriptedSpec)

/-- ITS FALSE NEIGHBOUR: 'it returns false'. Refute it at one input. -/
def lawS4275BScriptedWrong : ChangeSpec := { name := "lawS4275BScripted", fn := fun _ => fun
  | [d1, d2, d3, d4, d5] => { results := [.lit (.bool false)], args := [d1, d2, d3, d4, d5] }
  | _ => none }
def LawS4275BScriptedWrongFalsely : Prop := lawS4275BScriptedRow.holds Ybad.pinned (OpenSpec.ofChange lawS4275BScriptedWrong)

/-- 'seriate.LawS4275BWhole': WHATEVER THE INPUT: true; the input reads as it did. -/
def lawS4275BWholeSpec : ChangeSpec := { name := "lawS4275BWhole", fn := fun _ => fun
  | [d1, d2] => { results := [.lit (.bool true)], args := [d1, d2] }
  | _ => none }
def lawS4275BWholeRow : OpenClaim := { program := "ybulkcjmydoor", sum := "f0c99c4065f467ecbe32a6aa247aaedcdfb5686b64572e1b27e6fa821012524b", func := "example.com/seriate/seriate.LawS4275BWhole", spec := "lawS4275BWhole", unfollowed := true, recurses := true, named := ["io.EOF", "io.ErrNoProgress"], apart := false, laid := [("io.EOF", laid_io_EOF), ("io.ErrNoProgress", laid_io_ErrNoProgress)] }
def LawS4275BWholeSaid : Prop := lawS4275BWholeRow.holds Ybad.pinned (OpenSpec.ofChange lawS4275BWholeSpec)

/-- ITS FALSE NEIGHBOUR: 'it returns false'. Refute it at one input. -/
def lawS4275BWholeWrong : ChangeSpec := { name := "lawS4275BWhole", fn := fun _ => fun
  | [d1, d2] => { results := [.lit (.bool false)], args := [d1, d2] }
  | _ => none }
def LawS4275BWholeWrongFalsely : Prop := lawS4275BWholeRow.holds Ybad.pinned (OpenSpec.ofChange lawS4275BWholeWrong)

end Rows
end Go.Proofs.YbulkcjmyDoor
