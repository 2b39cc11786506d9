/-
  No cell of these rows narrows 'for every input' (looked for: loops, veiled, ifaces, maps, wideKeys, modest, calm, conditions, laid).
  DERIVED. THE GIVEN ROWS OF THIS SEAT. 1 by the template 'for every input the law returns true; each argument reads behind the call as it read before'; 0 by the template 'total and deterministic' (their statements: YbulkehvyTotals.lean).
  GIVEN WITH THE SEED: the statements are not yours to turn. If you find one false, say at which input.
  Laid BY PROGRAM, IN A SANDBOX (cutbox-rows.mjs): the forced cells as the released guide's own fill.sh prints them over the translation d807407b9da017cd… (all of the seat's roots in one cut). By AI agents, Wed Nov 11 2026. No macro, syntax, notation, axiom, sorry.
-/
import Derived.Test.YbulkehvyChecked
import GoSem.Claim
import GoSem.ClaimJoined
import GoSem.ClaimMapViews
import Derived.JoinedTies
import Derived.KernelRfl
namespace Go.Proofs.Ybulkehvy
/- THE CELL 'sum', in the pinned program and in every row, IS THE sha256 OF THE DUMP (.gsa) THAT YbulkehvyProg.lean LOADS. Nothing in Lean hashes anything: it is a label: what it is worth is what the hold of that sum in a sandbox is worth. -/
noncomputable def Yba.pinned : Pinned := { name := "ybulkehvy", sum := "d807407b9da017cd3e9619cff8a1873add2424d66c0e9de3fc2f3853d99e2da8", checked := Yba.checked }
namespace Rows
def none {H : Type} : Left H := { results := [], args := [] }

/-- 'limit.LawS6706AWhole': WHATEVER THE INPUT: true; the input reads as it did. -/
def lawS6706AWholeSpec : ChangeSpec := { name := "lawS6706AWhole", fn := fun _ => fun
  | [d1, d2] => { results := [.lit (.bool true)], args := [d1, d2] }
  | _ => none }
def lawS6706AWholeRow : OpenClaim := { program := "ybulkehvy", sum := "d807407b9da017cd3e9619cff8a1873add2424d66c0e9de3fc2f3853d99e2da8", func := "example.com/tuoguan/tuoguan/pkg/limit.LawS6706AWhole", spec := "lawS6706AWhole", apart := false }
def LawS6706AWholeSaid : Prop := lawS6706AWholeRow.holds Yba.pinned (OpenSpec.ofChange lawS6706AWholeSpec)

/-- ITS FALSE NEIGHBOUR: 'it returns false'. Refute it at one input. -/
def lawS6706AWholeWrong : ChangeSpec := { name := "lawS6706AWhole", fn := fun _ => fun
  | [d1, d2] => { results := [.lit (.bool false)], args := [d1, d2] }
  | _ => none }
def LawS6706AWholeWrongFalsely : Prop := lawS6706AWholeRow.holds Yba.pinned (OpenSpec.ofChange lawS6706AWholeWrong)

end Rows
end Go.Proofs.Ybulkehvy
