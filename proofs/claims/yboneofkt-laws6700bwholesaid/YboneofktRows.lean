/-
  No cell of these rows narrows 'for every input' (looked for: loops, veiled, ifaces, maps, wideKeys, modest, calm, conditions, laid).
  DERIVED. THE GIVEN ROWS OF THIS SEAT. 1 by the template 'for every input the law returns true; each argument reads behind the call as it read before'; 0 by the template 'total and deterministic' (their statements: YboneofktTotals.lean).
  GIVEN WITH THE SEED: the statements are not yours to turn. If you find one false, say at which input.
  Laid BY PROGRAM, IN A SANDBOX (cutbox-rows.mjs): the forced cells as the released guide's own fill.sh prints them over the translation 308b8b1ab36dd95f… (all of the seat's roots in one cut). By AI agents, Wed Nov 11 2026. No macro, syntax, notation, axiom, sorry.
-/
import Derived.Test.YboneofktChecked
import GoSem.Claim
import GoSem.ClaimJoined
import GoSem.ClaimMapViews
import Derived.JoinedTies
import Derived.KernelRfl
namespace Go.Proofs.Yboneofkt
/- THE CELL 'sum', in the pinned program and in every row, IS THE sha256 OF THE DUMP (.gsa) THAT YboneofktProg.lean LOADS. Nothing in Lean hashes anything: it is a label: what it is worth is what the hold of that sum in a sandbox is worth. -/
noncomputable def Ybgt.pinned : Pinned := { name := "yboneofkt", sum := "308b8b1ab36dd95f376766c91b9999a94997b78f7cb687b29b6ff767f85b16f9", checked := Ybgt.checked }
namespace Rows
def none {H : Type} : Left H := { results := [], args := [] }

/-- 'anomaly.LawS6700BWhole': WHATEVER THE INPUT: true; the input reads as it did. -/
def lawS6700BWholeSpec : ChangeSpec := { name := "lawS6700BWhole", fn := fun _ => fun
  | [d1, d2, d3, d4, d5, d6] => { results := [.lit (.bool true)], args := [d1, d2, d3, d4, d5, d6] }
  | _ => none }
def lawS6700BWholeRow : OpenClaim := { program := "yboneofkt", sum := "308b8b1ab36dd95f376766c91b9999a94997b78f7cb687b29b6ff767f85b16f9", func := "example.com/sessionward/sessionward/internal/anomaly.LawS6700BWhole", spec := "lawS6700BWhole", unfollowed := true, recurses := true, apart := false }
def LawS6700BWholeSaid : Prop := lawS6700BWholeRow.holds Ybgt.pinned (OpenSpec.ofChange lawS6700BWholeSpec)

/-- ITS FALSE NEIGHBOUR: 'it returns false'. Refute it at one input. -/
def lawS6700BWholeWrong : ChangeSpec := { name := "lawS6700BWhole", fn := fun _ => fun
  | [d1, d2, d3, d4, d5, d6] => { results := [.lit (.bool false)], args := [d1, d2, d3, d4, d5, d6] }
  | _ => none }
def LawS6700BWholeWrongFalsely : Prop := lawS6700BWholeRow.holds Ybgt.pinned (OpenSpec.ofChange lawS6700BWholeWrong)

end Rows
end Go.Proofs.Yboneofkt
