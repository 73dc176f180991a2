/-
  No cell of these rows narrows 'for every input' (looked for: loops, veiled, ifaces, maps, wideKeys, modest, calm, conditions, laid).
  DERIVED. THE GIVEN ROWS OF THIS SEAT. 1 by the template 'for every input the law returns true; each argument reads behind the call as it read before'; 0 by the template 'total and deterministic' (their statements: YbulkcjqeTotals.lean).
  GIVEN WITH THE SEED: the statements are not yours to turn. If you find one false, say at which input.
  Laid BY PROGRAM, IN A SANDBOX (cutbox-rows.mjs): the forced cells as the released guide's own fill.sh prints them over the translation 6392e7172e63bb7d… (all of the seat's roots in one cut). By AI agents, Wed Nov 11 2026. No macro, syntax, notation, axiom, sorry.
-/
import Derived.Test.YbulkcjqeChecked
import GoSem.Claim
import GoSem.ClaimJoined
import GoSem.ClaimMapViews
import Derived.JoinedTies
import Derived.KernelRfl
namespace Go.Proofs.Ybulkcjqe
/- THE CELL 'sum', in the pinned program and in every row, IS THE sha256 OF THE DUMP (.gsa) THAT YbulkcjqeProg.lean LOADS. Nothing in Lean hashes anything: it is a label: what it is worth is what the hold of that sum in a sandbox is worth. -/
noncomputable def Yba.pinned : Pinned := { name := "ybulkcjqe", sum := "6392e7172e63bb7de6a31ef6bc606cceb6850653d2644642fa14b38a7d00b571", checked := Yba.checked }
namespace Rows
def none {H : Type} : Left H := { results := [], args := [] }

/-- 'client.LawS4281CTurnOrder': WHATEVER THE INPUT: true; the input reads as it did. -/
def lawS4281CTurnOrderSpec : ChangeSpec := { name := "lawS4281CTurnOrder", fn := fun _ => fun
  | [d1, d2, d3, d4, d5, d6] => { results := [.lit (.bool true)], args := [d1, d2, d3, d4, d5, d6] }
  | _ => none }
def lawS4281CTurnOrderRow : OpenClaim := { program := "ybulkcjqe", sum := "6392e7172e63bb7de6a31ef6bc606cceb6850653d2644642fa14b38a7d00b571", func := "example.com/ballotline/ballotline/pkg/client.LawS4281CTurnOrder", spec := "lawS4281CTurnOrder", inPlace := ["sync/atomic.StoreInt32", "(*internal/sync.Mutex).Lock", "internal/race.Disable", "sync/atomic.CompareAndSwapInt32", "internal/race.Enable", "internal/race.Acquire", "(*internal/sync.Mutex).lockSlow", "internal/sync.runtime_canSpin", "internal/sync.runtime_doSpin", "internal/sync.throw", "internal/sync.runtime_nanotime", "internal/sync.runtime_SemacquireMutex", "sync/atomic.AddInt32", "(*internal/sync.Mutex).Unlock", "internal/race.ReleaseMerge", "(*internal/sync.Mutex).unlockSlow", "internal/sync.fatal", "internal/sync.runtime_Semrelease", "sync/atomic.LoadInt32"], apart := false }
def LawS4281CTurnOrderSaid : Prop := lawS4281CTurnOrderRow.holds Yba.pinned (OpenSpec.ofChange lawS4281CTurnOrderSpec)

/-- ITS FALSE NEIGHBOUR: 'it returns false'. Refute it at one input. -/
def lawS4281CTurnOrderWrong : ChangeSpec := { name := "lawS4281CTurnOrder", fn := fun _ => fun
  | [d1, d2, d3, d4, d5, d6] => { results := [.lit (.bool false)], args := [d1, d2, d3, d4, d5, d6] }
  | _ => none }
def LawS4281CTurnOrderWrongFalsely : Prop := lawS4281CTurnOrderRow.holds Yba.pinned (OpenSpec.ofChange lawS4281CTurnOrderWrong)

end Rows
end Go.Proofs.Ybulkcjqe
