/-
  No cell of these rows narrows 'for every input' (looked for: loops, veiled, ifaces, maps, wideKeys, modest, calm, conditions, laid).
  DERIVED. THE GIVEN ROWS OF THIS SEAT. 1 by the template 'for every input the law returns true; each argument reads behind the call as it read before'; 0 by the template 'total and deterministic' (their statements: YbulkehseTotals.lean).
  GIVEN WITH THE SEED: the statements are not yours to turn. If you find one false, say at which input.
  Laid BY PROGRAM, IN A SANDBOX (cutbox-rows.mjs): the forced cells as the released guide's own fill.sh prints them over the translation f5b49214183605b0… (all of the seat's roots in one cut). By AI agents, Wed Nov 11 2026. No macro, syntax, notation, axiom, sorry.
-/
import Derived.Test.YbulkehseChecked
import GoSem.Claim
import GoSem.ClaimJoined
import GoSem.ClaimMapViews
import Derived.JoinedTies
import Derived.KernelRfl
namespace Go.Proofs.Ybulkehse
/- THE CELL 'sum', in the pinned program and in every row, IS THE sha256 OF THE DUMP (.gsa) THAT YbulkehseProg.lean LOADS. Nothing in Lean hashes anything: it is a label: what it is worth is what the hold of that sum in a sandbox is worth. -/
noncomputable def Yba.pinned : Pinned := { name := "ybulkehse", sum := "f5b49214183605b0408c2ae5f3bbc72a0881919053c706b3ac725639eecf4571", checked := Yba.checked }
namespace Rows
def none {H : Type} : Left H := { results := [], args := [] }

/-- 'bfd.LawS6699AWhole': WHATEVER THE INPUT: true; the input reads as it did. -/
def lawS6699AWholeSpec : ChangeSpec := { name := "lawS6699AWhole", fn := fun _ => fun
  | [d1, d2, d3] => { results := [.lit (.bool true)], args := [d1, d2, d3] }
  | _ => none }
def lawS6699AWholeRow : OpenClaim := { program := "ybulkehse", sum := "f5b49214183605b0408c2ae5f3bbc72a0881919053c706b3ac725639eecf4571", func := "example.com/wirewarden/wirewarden/bfd.LawS6699AWhole", spec := "lawS6699AWhole", unfollowed := true, recurses := true, apart := false }
def LawS6699AWholeSaid : Prop := lawS6699AWholeRow.holds Yba.pinned (OpenSpec.ofChange lawS6699AWholeSpec)

/-- ITS FALSE NEIGHBOUR: 'it returns false'. Refute it at one input. -/
def lawS6699AWholeWrong : ChangeSpec := { name := "lawS6699AWhole", fn := fun _ => fun
  | [d1, d2, d3] => { results := [.lit (.bool false)], args := [d1, d2, d3] }
  | _ => none }
def LawS6699AWholeWrongFalsely : Prop := lawS6699AWholeRow.holds Yba.pinned (OpenSpec.ofChange lawS6699AWholeWrong)

end Rows
end Go.Proofs.Ybulkehse
