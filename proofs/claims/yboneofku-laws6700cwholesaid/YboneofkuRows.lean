/-
  No cell of these rows narrows 'for every input' (looked for: loops, veiled, ifaces, maps, wideKeys, modest, calm, conditions, laid).
  DERIVED. THE GIVEN ROWS OF THIS SEAT. 1 by the template 'for every input the law returns true; each argument reads behind the call as it read before'; 0 by the template 'total and deterministic' (their statements: YboneofkuTotals.lean).
  GIVEN WITH THE SEED: the statements are not yours to turn. If you find one false, say at which input.
  Laid BY PROGRAM, IN A SANDBOX (cutbox-rows.mjs): the forced cells as the released guide's own fill.sh prints them over the translation baf3aa52e785e79b… (all of the seat's roots in one cut). By AI agents, Wed Nov 11 2026. No macro, syntax, notation, axiom, sorry.
-/
import Derived.Test.YboneofkuChecked
import GoSem.Claim
import GoSem.ClaimJoined
import GoSem.ClaimMapViews
import Derived.JoinedTies
import Derived.KernelRfl
namespace Go.Proofs.Yboneofku
/- THE CELL 'sum', in the pinned program and in every row, IS THE sha256 OF THE DUMP (.gsa) THAT YboneofkuProg.lean LOADS. Nothing in Lean hashes anything: it is a label: what it is worth is what the hold of that sum in a sandbox is worth. -/
noncomputable def Ybgu.pinned : Pinned := { name := "yboneofku", sum := "baf3aa52e785e79b7a16345a6a2969af27d95addc517a4e0abc3c871d0bee5f0", checked := Ybgu.checked }
namespace Rows
def none {H : Type} : Left H := { results := [], args := [] }

/-- 'sessionward.LawS6700CWhole': WHATEVER THE INPUT: true; the input reads as it did. -/
def lawS6700CWholeSpec : ChangeSpec := { name := "lawS6700CWhole", fn := fun _ => fun
  | [d1, d2, d3, d4, d5] => { results := [.lit (.bool true)], args := [d1, d2, d3, d4, d5] }
  | _ => none }
def lawS6700CWholeRow : OpenClaim := { program := "yboneofku", sum := "baf3aa52e785e79b7a16345a6a2969af27d95addc517a4e0abc3c871d0bee5f0", func := "example.com/sessionward/sessionward.LawS6700CWhole", spec := "lawS6700CWhole", inPlace := ["internal/bytealg.abigen_runtime_cmpstring"], apart := false }
def LawS6700CWholeSaid : Prop := lawS6700CWholeRow.holds Ybgu.pinned (OpenSpec.ofChange lawS6700CWholeSpec)

/-- ITS FALSE NEIGHBOUR: 'it returns false'. Refute it at one input. -/
def lawS6700CWholeWrong : ChangeSpec := { name := "lawS6700CWhole", fn := fun _ => fun
  | [d1, d2, d3, d4, d5] => { results := [.lit (.bool false)], args := [d1, d2, d3, d4, d5] }
  | _ => none }
def LawS6700CWholeWrongFalsely : Prop := lawS6700CWholeRow.holds Ybgu.pinned (OpenSpec.ofChange lawS6700CWholeWrong)

end Rows
end Go.Proofs.Yboneofku
