/-
  What newContents is given; code from a given statement on.
-/
import Derived.Test.YboneofktPlain
import Derived.Test.YboneofktAny
import Derived.Test.YboneofktMk
namespace Go.Proofs.Yboneofkt
open Go.RowKit

def headIs (k : Nat) : Code → Bool
  | .region n _ _ => n == k
  | .seq a _ => headIs k a
  | .block _ c => headIs k c
  | .scope c => headIs k c
  | _ => false
/-- the code from the statement on whose first region is number k. -/
def fromR (k : Nat) : Code → Option Code
  | .seq a b => if headIs k a then some (.seq a b) else fromR k b
  | c => if headIs k c then some c else none

structure Ps where
  xb : Nat
  lb : Nat
  gb : Nat
  rb : Nat
  sb : Nat
  mb : Nat
  ob : Nat
  n : Nat
  m : Nat
  E : Nat
  S : Nat
  capo : Nat
  L : Int
  rs : Nat → Nat
  st : Nat → Nat
  en : Nat → Nat
  cn : Nat → Nat
  fi : Nat → Nat
  ro : Nat → Nat
  mks : Nat → Int
  rp : Nat → Option Addr
  F : Nat → Value
def Ps.ln (p : Ps) (g : Nat) : Nat := p.en g - p.st g
def Ps.sz (p : Ps) (g : Nat) : Nat := dcn p.rs (p.st g) (p.ln g)

/-- the numbers. -/
structure Ok (p : Ps) : Prop where
  n : p.n ≤ 65536
  m : p.m ≤ 4096
  E : p.E ≤ 16
  S : p.S ≤ 5
  capo : p.m ≤ p.capo
  rs : ∀ i, i < p.n → p.rs i < p.E
  st : ∀ g, g < p.m → p.st g ≤ p.en g
  en : ∀ g, g < p.m → p.en g ≤ p.n
  cn : ∀ s, p.cn s ≤ 4096
  fi : ∀ s, s < p.S → p.fi s + p.cn s ≤ p.m
  ro : ∀ i, i < p.m → p.ro i < p.m
  L1 : -2147483648 ≤ p.L
  L2 : p.L ≤ 2147483647
  mk1 : ∀ e, e < p.E → -2147483648 ≤ p.mks e
  mk2 : ∀ e, e < p.E → p.mks e ≤ p.L

/-- the memory. -/
structure NIn (p : Ps) (w : World) : Prop where
  xr : Rw w p.xb 49 34 p.F
  F0 : p.F 0 = .pointer (some ⟨p.lb, 0, none⟩)
  F1 : p.F 1 = .slice (some ⟨p.sb, 0, none⟩) p.S p.S
  F9 : p.F 9 = .slice (some ⟨p.ob, 0, none⟩) p.m p.capo
  F15 : p.F 15 = .slice (some ⟨p.mb, 0, none⟩) p.E p.E
  F16 : p.F 16 = .int .i64 p.L
  l4 : w.cell? ⟨p.lb, 4, none⟩ = some (.slice (some ⟨p.gb, 0, none⟩) p.m p.m)
  l5 : w.cell? ⟨p.lb, 5, none⟩ = some (.slice (some ⟨p.rb, 0, none⟩) p.n p.n)
  gst : ∀ g, g < p.m → w.cell? ⟨p.gb, g * 6 + 3, none⟩ = some (.int .i64 (p.st g : Int))
  gen : ∀ g, g < p.m → w.cell? ⟨p.gb, g * 6 + 4, none⟩ = some (.int .i64 (p.en g : Int))
  res : ∀ i, i < p.n → w.cell? ⟨p.rb, i, none⟩ = some (.int .i32 (p.rs i : Int))
  ses : ∀ s, s < p.S → w.cell? ⟨p.sb, s * 5 + 2, none⟩ = some (.slice (p.rp s) (p.cn s) (p.cn s))
  sfi : ∀ s, s < p.S → w.cell? ⟨p.sb, s * 5 + 3, none⟩ = some (.int .i32 (p.fi s : Int))
  ord : ∀ i, i < p.m → w.cell? ⟨p.ob, i, none⟩ = some (.int .i32 (p.ro i : Int))
  marks : Rw w p.mb 3 p.E (fun e => .int .i64 (p.mks e))
  lts : p.lb < w.heap.size ∧ p.gb < w.heap.size ∧ p.rb < w.heap.size ∧ p.sb < w.heap.size ∧ p.ob < w.heap.size
  nx : p.xb ≠ p.lb ∧ p.xb ≠ p.gb ∧ p.xb ≠ p.rb ∧ p.xb ≠ p.sb ∧ p.xb ≠ p.ob ∧ p.xb ≠ p.mb
  nm : p.mb ≠ p.lb ∧ p.mb ≠ p.gb ∧ p.mb ≠ p.rb ∧ p.mb ≠ p.sb ∧ p.mb ≠ p.ob
end Go.Proofs.Yboneofkt
