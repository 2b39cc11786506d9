/-
  No cell of these rows narrows 'for every input' (looked for: loops, veiled, ifaces, maps, wideKeys, modest, calm, conditions, laid).
  DERIVED. THE GIVEN ROWS OF THIS SEAT. 1 by the template 'for every input the law returns true; each argument reads behind the call as it read before'; 0 by the template 'total and deterministic' (their statements: YbulkehrqTotals.lean).
  GIVEN WITH THE SEED: the statements are not yours to turn. If you find one false, say at which input.
  Laid BY PROGRAM, IN A SANDBOX (cutbox-rows.mjs): the forced cells as the released guide's own fill.sh prints them over the translation 042bfff6f09333cd… (all of the seat's roots in one cut). By AI agents, Wed Nov 11 2026. No macro, syntax, notation, axiom, sorry.
-/
import Derived.Test.YbulkehrqChecked
import GoSem.Claim
import GoSem.ClaimJoined
import GoSem.ClaimMapViews
import Derived.JoinedTies
import Derived.KernelRfl
namespace Go.Proofs.Ybulkehrq
/- THE CELL 'sum', in the pinned program and in every row, IS THE sha256 OF THE DUMP (.gsa) THAT YbulkehrqProg.lean LOADS. Nothing in Lean hashes anything: it is a label: what it is worth is what the hold of that sum in a sandbox is worth. -/
noncomputable def Yba.pinned : Pinned := { name := "ybulkehrq", sum := "042bfff6f09333cddc57ff322b58865ecb3a8170269df03dc39b43fc37568bcf", checked := Yba.checked }
namespace Rows
def none {H : Type} : Left H := { results := [], args := [] }

/-- 'history.LawS6698CWhole': WHATEVER THE INPUT: true; the input reads as it did. -/
def lawS6698CWholeSpec : ChangeSpec := { name := "lawS6698CWhole", fn := fun _ => fun
  | [d1, d2] => { results := [.lit (.bool true)], args := [d1, d2] }
  | _ => none }
def lawS6698CWholeRow : OpenClaim := { program := "ybulkehrq", sum := "042bfff6f09333cddc57ff322b58865ecb3a8170269df03dc39b43fc37568bcf", func := "example.com/unbarred/unbarred/internal/history.LawS6698CWhole", spec := "lawS6698CWhole", unfollowed := true, recurses := true, apart := false }
def LawS6698CWholeSaid : Prop := lawS6698CWholeRow.holds Yba.pinned (OpenSpec.ofChange lawS6698CWholeSpec)

/-- ITS FALSE NEIGHBOUR: 'it returns false'. Refute it at one input. -/
def lawS6698CWholeWrong : ChangeSpec := { name := "lawS6698CWhole", fn := fun _ => fun
  | [d1, d2] => { results := [.lit (.bool false)], args := [d1, d2] }
  | _ => none }
def LawS6698CWholeWrongFalsely : Prop := lawS6698CWholeRow.holds Yba.pinned (OpenSpec.ofChange lawS6698CWholeWrong)

end Rows
end Go.Proofs.Ybulkehrq
