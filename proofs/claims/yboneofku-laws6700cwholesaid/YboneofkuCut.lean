/-
  The law's body from a given statement on.
-/
import Derived.Test.YboneofkuRows
namespace Go.Proofs.Yboneofku

def headIs (k : Nat) : Code → Bool
  | .region n _ _ => n == k
  | .seq a _ => headIs k a
  | .block _ c => headIs k c
  | .scope c => headIs k c
  | _ => false
/-- the code from the statement on whose first region is number k. -/
def fromR (k : Nat) : Code → Option Code
  | .seq a b => if headIs k a then some (.seq a b) else fromR k b
  | c => if headIs k c then some c else none

end Go.Proofs.Yboneofku
