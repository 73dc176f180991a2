/-
  No cell of these rows narrows 'for every input' (looked for: loops, veiled, ifaces, maps, wideKeys, modest, calm, conditions, laid).
  DERIVED. THE GIVEN ROWS OF THIS SEAT. 4 by the template 'for every input the law returns true; each argument reads behind the call as it read before'; 0 by the template 'total and deterministic' (their statements: YbulkcjmyTotals.lean).
  GIVEN WITH THE SEED: the statements are not yours to turn. If you find one false, say at which input.
  Laid BY PROGRAM, IN A SANDBOX (cutbox-rows.mjs): the forced cells as the released guide's own fill.sh prints them over the translation d5cd0ede39f01836… (all of the seat's roots in one cut). By AI agents, Wed Nov 11 2026. No macro, syntax, notation, axiom, sorry.
-/
import Derived.Test.YbulkcjmyChecked
import GoSem.Claim
import GoSem.ClaimJoined
import GoSem.ClaimMapViews
import Derived.JoinedTies
import Derived.KernelRfl
namespace Go.Proofs.Ybulkcjmy
/- THE CELL 'sum', in the pinned program and in every row, IS THE sha256 OF THE DUMP (.gsa) THAT YbulkcjmyProg.lean LOADS. Nothing in Lean hashes anything: it is a label: what it is worth is what the hold of that sum in a sandbox is worth. -/
noncomputable def Yba.pinned : Pinned := { name := "ybulkcjmy", sum := "d5cd0ede39f018363115a32c6af7dab3512b05144751e4cfbccd9002b763f88c", checked := Yba.checked }
namespace Rows
def none {H : Type} : Left H := { results := [], args := [] }

/-- 'seriate.LawS4275AScript': WHATEVER THE INPUT: true; the input reads as it did. -/
def lawS4275AScriptSpec : ChangeSpec := { name := "lawS4275AScript", fn := fun _ => fun
  | [d] => { results := [.lit (.bool true)], args := [d] }
  | _ => none }
def lawS4275AScriptRow : OpenClaim := { program := "ybulkcjmy", sum := "d5cd0ede39f018363115a32c6af7dab3512b05144751e4cfbccd9002b763f88c", func := "example.com/seriate/seriate.LawS4275AScript", spec := "lawS4275AScript", plainKeys := false, apart := false }
def LawS4275AScriptSaid : Prop := lawS4275AScriptRow.holds Yba.pinned (OpenSpec.ofChange lawS4275AScriptSpec)

/-- ITS FALSE NEIGHBOUR: 'it returns false'. Refute it at one input. -/
def lawS4275AScriptWrong : ChangeSpec := { name := "lawS4275AScript", fn := fun _ => fun
  | [d] => { results := [.lit (.bool false)], args := [d] }
  | _ => none }
def LawS4275AScriptWrongFalsely : Prop := lawS4275AScriptRow.holds Yba.pinned (OpenSpec.ofChange lawS4275AScriptWrong)

/-- 'seriate.LawS4275ABlocks': WHATEVER THE INPUT: true; the input reads as it did. -/
def lawS4275ABlocksSpec : ChangeSpec := { name := "lawS4275ABlocks", fn := fun _ => fun
  | [d1, d2] => { results := [.lit (.bool true)], args := [d1, d2] }
  | _ => none }
def lawS4275ABlocksRow : OpenClaim := { program := "ybulkcjmy", sum := "d5cd0ede39f018363115a32c6af7dab3512b05144751e4cfbccd9002b763f88c", func := "example.com/seriate/seriate.LawS4275ABlocks", spec := "lawS4275ABlocks", plainKeys := false, apart := false }
def LawS4275ABlocksSaid : Prop := lawS4275ABlocksRow.holds Yba.pinned (OpenSpec.ofChange lawS4275ABlocksSpec)

/-- ITS FALSE NEIGHBOUR: 'it returns false'. Refute it at one input. -/
def lawS4275ABlocksWrong : ChangeSpec := { name := "lawS4275ABlocks", fn := fun _ => fun
  | [d1, d2] => { results := [.lit (.bool false)], args := [d1, d2] }
  | _ => none }
def LawS4275ABlocksWrongFalsely : Prop := lawS4275ABlocksRow.holds Yba.pinned (OpenSpec.ofChange lawS4275ABlocksWrong)

/-- 'seriate.LawS4275CCount': WHATEVER THE INPUT: true; the input reads as it did. -/
def lawS4275CCountSpec : ChangeSpec := { name := "lawS4275CCount", fn := fun _ => fun
  | [d1, d2] => { results := [.lit (.bool true)], args := [d1, d2] }
  | _ => none }
def lawS4275CCountRow : OpenClaim := { program := "ybulkcjmy", sum := "d5cd0ede39f018363115a32c6af7dab3512b05144751e4cfbccd9002b763f88c", func := "example.com/seriate/seriate.LawS4275CCount", spec := "lawS4275CCount", recurses := true, plainKeys := false, apart := false }
def LawS4275CCountSaid : Prop := lawS4275CCountRow.holds Yba.pinned (OpenSpec.ofChange lawS4275CCountSpec)

/-- ITS FALSE NEIGHBOUR: 'it returns false'. Refute it at one input. -/
def lawS4275CCountWrong : ChangeSpec := { name := "lawS4275CCount", fn := fun _ => fun
  | [d1, d2] => { results := [.lit (.bool false)], args := [d1, d2] }
  | _ => none }
def LawS4275CCountWrongFalsely : Prop := lawS4275CCountRow.holds Yba.pinned (OpenSpec.ofChange lawS4275CCountWrong)

/-- 'seriate.LawS4275CUnion': WHATEVER THE INPUT: true; the input reads as it did. -/
def lawS4275CUnionSpec : ChangeSpec := { name := "lawS4275CUnion", fn := fun _ => fun
  | [d] => { results := [.lit (.bool true)], args := [d] }
  | _ => none }
def lawS4275CUnionRow : OpenClaim := { program := "ybulkcjmy", sum := "d5cd0ede39f018363115a32c6af7dab3512b05144751e4cfbccd9002b763f88c", func := "example.com/seriate/seriate.LawS4275CUnion", spec := "lawS4275CUnion", recurses := true, plainKeys := false, apart := false }
def LawS4275CUnionSaid : Prop := lawS4275CUnionRow.holds Yba.pinned (OpenSpec.ofChange lawS4275CUnionSpec)

/-- ITS FALSE NEIGHBOUR: 'it returns false'. Refute it at one input. -/
def lawS4275CUnionWrong : ChangeSpec := { name := "lawS4275CUnion", fn := fun _ => fun
  | [d] => { results := [.lit (.bool false)], args := [d] }
  | _ => none }
def LawS4275CUnionWrongFalsely : Prop := lawS4275CUnionRow.holds Yba.pinned (OpenSpec.ofChange lawS4275CUnionWrong)

end Rows
end Go.Proofs.Ybulkcjmy
