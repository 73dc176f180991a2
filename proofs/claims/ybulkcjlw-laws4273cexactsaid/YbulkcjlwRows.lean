/-
  No cell of these rows narrows 'for every input' (looked for: loops, veiled, ifaces, maps, wideKeys, modest, calm, conditions, laid).
  DERIVED. THE GIVEN ROWS OF THIS SEAT. 3 by the template 'for every input the law returns true; each argument reads behind the call as it read before'; 0 by the template 'total and deterministic' (their statements: YbulkcjlwTotals.lean).
  GIVEN WITH THE SEED: the statements are not yours to turn. If you find one false, say at which input.
  Laid BY PROGRAM, IN A SANDBOX (cutbox-rows.mjs): the forced cells as the released guide's own fill.sh prints them over the translation cff8af1a73dd9d66… (all of the seat's roots in one cut). By AI agents, Wed Nov 11 2026. No macro, syntax, notation, axiom, sorry.
-/
import Derived.Test.YbulkcjlwChecked
import GoSem.Claim
import GoSem.ClaimJoined
import GoSem.ClaimMapViews
import Derived.JoinedTies
import Derived.KernelRfl
namespace Go.Proofs.Ybulkcjlw
/- THE CELL 'sum', in the pinned program and in every row, IS THE sha256 OF THE DUMP (.gsa) THAT YbulkcjlwProg.lean LOADS. Nothing in Lean hashes anything: it is a label: what it is worth is what the hold of that sum in a sandbox is worth. -/
noncomputable def Yba.pinned : Pinned := { name := "ybulkcjlw", sum := "cff8af1a73dd9d668e58edb9a14dfb42ac54a97dad8e0a7c1cac2670e4c7a2b0", checked := Yba.checked }
namespace Rows
def none {H : Type} : Left H := { results := [], args := [] }

/-- 'lock.LawS4273BExact': WHATEVER THE INPUT: true; the input reads as it did. -/
def lawS4273BExactSpec : ChangeSpec := { name := "lawS4273BExact", fn := fun _ => fun
  | [d1, d2, d3] => { results := [.lit (.bool true)], args := [d1, d2, d3] }
  | _ => none }
def lawS4273BExactRow : OpenClaim := { program := "ybulkcjlw", sum := "cff8af1a73dd9d668e58edb9a14dfb42ac54a97dad8e0a7c1cac2670e4c7a2b0", func := "example.com/fencepost/fencepost/lock.LawS4273BExact", spec := "lawS4273BExact", plainKeys := false, apart := false }
def LawS4273BExactSaid : Prop := lawS4273BExactRow.holds Yba.pinned (OpenSpec.ofChange lawS4273BExactSpec)

/-- ITS FALSE NEIGHBOUR: 'it returns false'. Refute it at one input. -/
def lawS4273BExactWrong : ChangeSpec := { name := "lawS4273BExact", fn := fun _ => fun
  | [d1, d2, d3] => { results := [.lit (.bool false)], args := [d1, d2, d3] }
  | _ => none }
def LawS4273BExactWrongFalsely : Prop := lawS4273BExactRow.holds Yba.pinned (OpenSpec.ofChange lawS4273BExactWrong)

/-- 'lock.LawS4273BFromIsOther': WHATEVER THE INPUT: true; the input reads as it did. -/
def lawS4273BFromIsOtherSpec : ChangeSpec := { name := "lawS4273BFromIsOther", fn := fun _ => fun
  | [d1, d2, d3] => { results := [.lit (.bool true)], args := [d1, d2, d3] }
  | _ => none }
def lawS4273BFromIsOtherRow : OpenClaim := { program := "ybulkcjlw", sum := "cff8af1a73dd9d668e58edb9a14dfb42ac54a97dad8e0a7c1cac2670e4c7a2b0", func := "example.com/fencepost/fencepost/lock.LawS4273BFromIsOther", spec := "lawS4273BFromIsOther", plainKeys := false, apart := false }
def LawS4273BFromIsOtherSaid : Prop := lawS4273BFromIsOtherRow.holds Yba.pinned (OpenSpec.ofChange lawS4273BFromIsOtherSpec)

/-- ITS FALSE NEIGHBOUR: 'it returns false'. Refute it at one input. -/
def lawS4273BFromIsOtherWrong : ChangeSpec := { name := "lawS4273BFromIsOther", fn := fun _ => fun
  | [d1, d2, d3] => { results := [.lit (.bool false)], args := [d1, d2, d3] }
  | _ => none }
def LawS4273BFromIsOtherWrongFalsely : Prop := lawS4273BFromIsOtherRow.holds Yba.pinned (OpenSpec.ofChange lawS4273BFromIsOtherWrong)

/-- 'lock.LawS4273CExact': WHATEVER THE INPUT: true; the input reads as it did. -/
def lawS4273CExactSpec : ChangeSpec := { name := "lawS4273CExact", fn := fun _ => fun
  | [d1, d2, d3] => { results := [.lit (.bool true)], args := [d1, d2, d3] }
  | _ => none }
def lawS4273CExactRow : OpenClaim := { program := "ybulkcjlw", sum := "cff8af1a73dd9d668e58edb9a14dfb42ac54a97dad8e0a7c1cac2670e4c7a2b0", func := "example.com/fencepost/fencepost/lock.LawS4273CExact", spec := "lawS4273CExact", plainKeys := false, apart := false }
def LawS4273CExactSaid : Prop := lawS4273CExactRow.holds Yba.pinned (OpenSpec.ofChange lawS4273CExactSpec)

/-- ITS FALSE NEIGHBOUR: 'it returns false'. Refute it at one input. -/
def lawS4273CExactWrong : ChangeSpec := { name := "lawS4273CExact", fn := fun _ => fun
  | [d1, d2, d3] => { results := [.lit (.bool false)], args := [d1, d2, d3] }
  | _ => none }
def LawS4273CExactWrongFalsely : Prop := lawS4273CExactRow.holds Yba.pinned (OpenSpec.ofChange lawS4273CExactWrong)

end Rows
end Go.Proofs.Ybulkcjlw
