/-
  The map of what was listed above, as read; the frame of a call that turns some blocks; the plain fold.
-/
import Derived.Test.YboneofkuBuild
import Derived.Maps.OwnOps
import Derived.Maps.OwnSet
import Derived.Maps.Views
namespace Go.Proofs.Yboneofku
open Go.RowKit

/-- what a map's element says. -/
structure LA where
  l : Bool
  s : ByteArray
  n : Int
  t : Int
  u : Bool

def zla : LA := ⟨false, ⟨#[]⟩, 0, 0, false⟩
def lacs (a : LA) : Array Value := #[.bool a.l, .string a.s, .int .i64 a.n, .int .i64 a.t, .bool a.u]
def lav (a : LA) : Value := .agg (lacs a)

def laReadL : List Value → Option (DataW LA × List MemPlace)
  | [.bool l, .string s, .int .i64 n, .int .i64 t, .bool u] => some (.held ⟨l, s, n, t, u⟩, [])
  | _ => none
def laRead : Value → Option (DataW LA × List MemPlace)
  | .agg cs => laReadL cs.toList
  | _ => none

theorem laRead_mk (a : LA) : laRead (lav a) = some (.held a, []) := rfl
theorem laReadL_inv {v : List Value} {z : DataW LA × List MemPlace} (h : laReadL v = some z) : ∃ a, v = (lacs a).toList ∧ z = (.held a, []) := by
  unfold laReadL at h
  split at h
  · cases h
    exact ⟨_, rfl, rfl⟩
  · cases h
theorem laRead_inv {v : Value} {z : DataW LA × List MemPlace} (h : laRead v = some z) : ∃ a, v = lav a ∧ z = (.held a, []) := by
  cases v <;> simp [laRead] at h
  obtain ⟨a, h1, h2⟩ := laReadL_inv h
  exact ⟨a, by rw [lav]; congr 1; exact Array.toList_inj.1 h1, h2⟩

theorem zero39 (w : World) : (zeroValue 39).run Ybgu.prog w = .ok (lav zla) w := by kernel_rfl

theorem keyed2 : Maps.Keyed Ybgu.prog 2 := Maps.int_keyed Ybgu.underlying2

abbrev kl (x : Int) : Lit := .int .i64 x
/-- the element at a key. -/
def laAt (D : DataW LA) (x : Int) : LA := match D.atKey (kl x) (.held zla) with | .held a => a | _ => zla

abbrev OM (w : World) (b n : Nat) (D : DataW LA) : Prop := w.ownsMap Ybgu.prog 2 laRead b n D

def Wf (x : Int) : Prop := (Lit.int .i64 x).wf = true

theorem OM.look {w : World} {b n : Nat} {D : DataW LA} (h : OM w b n D) {x : Int} (hx : Wf x) : (Instr.lookup 28 (.map (some b)) (.int .i64 x) false).run Ybgu.prog w = .ok (lav (laAt D x)) w := by
  obtain ⟨v, ps, hrun, hv⟩ := h.lookup keyed2 Ybgu.underlying28 (zero39 w) (laRead_mk zla) (Maps.keyOf_int_mk Ybgu.underlying2 hx)
  obtain ⟨a, rfl, e⟩ := laRead_inv hv
  have e1 : D.atKey (kl x) (.held zla) = .held a := congrArg Prod.fst e
  rw [hrun, laAt, e1]

theorem OM.look_ok {w : World} {b n : Nat} {D : DataW LA} (h : OM w b n D) {x : Int} (hx : Wf x) : (Instr.lookup 28 (.map (some b)) (.int .i64 x) true).run Ybgu.prog w = .ok (.tuple #[lav (laAt D x), .bool (Maps.has D (kl x))]) w := by
  obtain ⟨v, ps, hrun, hv⟩ := World.ownsMap.look_ok h keyed2 Ybgu.underlying28 (zero39 w) (laRead_mk zla) (Maps.keyOf_int_mk Ybgu.underlying2 hx)
  obtain ⟨a, rfl, e⟩ := laRead_inv hv
  have e1 : D.atKey (kl x) (.held zla) = .held a := congrArg Prod.fst e
  rw [hrun, laAt, e1]

theorem OM.put {w : World} {b n : Nat} {D : DataW LA} (h : OM w b n D) (hn : n < maxLen) {x : Int} (hx : Wf x) (a : LA) : ∃ w', (Instr.mapUpdate 28 (.map (some b)) (.int .i64 x) (lav a)).run Ybgu.prog w = .ok () w' ∧ OM w' b (n + 1) (D.put (kl x) (.held a)) ∧ w.grownBy w' (some b) :=
  h.update keyed2 Ybgu.underlying28 hn (Maps.keyOf_int_mk Ybgu.underlying2 hx) (laRead_mk a)

theorem OM.of_block {w w' : World} {b n : Nat} {D : DataW LA} (h : OM w b n D) (hb : w'.heap[b]? = w.heap[b]?) : OM w' b n D := by
  obtain ⟨es, c, h1, h2⟩ := h
  exact ⟨es, c, hb.trans h1, h2⟩

theorem OM.ne {w : World} {b n : Nat} {D : DataW LA} (h : OM w b n D) {b' o : Nat} {v : Value} (hc : w.cell? ⟨b', o, none⟩ = some v) : b' ≠ b := by
  rintro rfl
  obtain ⟨es, c, h1, h2⟩ := h
  simp [World.cell?, h1] at hc

/-- the blocks that may turn: X and the new ones. -/
structure Kp (X : Nat → Prop) (w w' : World) : Prop where
  os : w'.os = w.os
  tape : w'.tape = w.tape
  output : w'.output = w.output
  size : w.heap.size ≤ w'.heap.size
  block : ∀ k, k < w.heap.size → ¬ X k → w'.heap[k]? = w.heap[k]?

theorem Kp.refl (X : Nat → Prop) (w : World) : Kp X w w := ⟨rfl, rfl, rfl, Nat.le_refl _, fun _ _ _ => rfl⟩
theorem Kp.trans {X : Nat → Prop} {a b c : World} (h : Kp X a b) (k : Kp X b c) : Kp X a c :=
  ⟨k.os.trans h.os, k.tape.trans h.tape, k.output.trans h.output, Nat.le_trans h.size k.size, fun i hi hx => (k.block i (Nat.lt_of_lt_of_le hi h.size) hx).trans (h.block i hi hx)⟩
theorem Kp.drew {X : Nat → Prop} {a w : World} (h : Kp X a w) : Kp X a w.drew := ⟨h.os, h.tape, h.output, h.size, h.block⟩
theorem Kp.alloc {X : Nat → Prop} {a w : World} (h : Kp X a w) (o : Obj) : Kp X a (w.alloc o) :=
  h.trans ⟨rfl, rfl, rfl, by simp, fun k hk _ => Below.heap_alloc _ _ _ hk⟩
theorem Kp.setCell {X : Nat → Prop} {a w : World} (h : Kp X a w) {p : Addr} (hp : a.heap.size ≤ p.block ∨ X p.block) (u : Value) : Kp X a (w.setCell p u) :=
  ⟨h.os, h.tape, h.output, by simpa [World.setCell] using h.size, fun k hk hx => by
    rw [Below.heap_setCell _ _ _ _ (by rintro rfl; rcases hp with hp | hp; · omega
                                       · exact hx hp)]
    exact h.block k hk hx⟩
theorem Kp.grown {X : Nat → Prop} {a w w' : World} {row : Option Nat} (h : Kp X a w) (hg : w.grownBy w' row) (hr : ∀ k, row = some k → a.heap.size ≤ k ∨ X k) : Kp X a w' :=
  ⟨hg.os.trans h.os, hg.tape.trans h.tape, hg.output.trans h.output, Nat.le_trans h.size hg.size, fun k hk hx => (hg.block k (Nat.lt_of_lt_of_le hk h.size) (fun e => by
    rcases hr k e.symm with h1 | h1
    · omega
    · exact hx h1)).trans (h.block k hk hx)⟩
theorem Kp.below {X : Nat → Prop} {a w w' : World} (h : Kp X a w) {B : Nat} (hB : Below B w w') (hx : ∀ k, k < a.heap.size → ¬ X k → k < B) : Kp X a w' :=
  ⟨hB.os.trans h.os, hB.tape.trans h.tape, hB.output.trans h.output, Nat.le_trans h.size hB.size, fun k hk hX => (hB.block k (hx k hk hX)).trans (h.block k hk hX)⟩
theorem Kp.call {X : Nat → Prop} {a w w' : World} (h : Kp X a w) (hB : Below w.heap.size w w') : Kp X a w' := h.below hB fun _ hk _ => Nat.lt_of_lt_of_le hk h.size
theorem Kp.cell {X : Nat → Prop} {w w' : World} (h : Kp X w w') {p : Addr} (hp : p.block < w.heap.size) (hx : ¬ X p.block) : w'.cell? p = w.cell? p := World.cell?_of_block (w := w) (h.block p.block hp hx)
theorem Kp.to_below {X : Nat → Prop} {w w' : World} (h : Kp X w w') {B : Nat} (hB : B ≤ w.heap.size) (hx : ∀ k, k < B → ¬ X k) : Below B w w' :=
  ⟨h.os, h.tape, h.output, h.size, fun k hk => h.block k (Nat.lt_of_lt_of_le hk hB) (hx k hk)⟩
theorem Kp.weaken {X Y : Nat → Prop} {w w' : World} (h : Kp X w w') (hxy : ∀ k, k < w.heap.size → X k → Y k) : Kp Y w w' :=
  ⟨h.os, h.tape, h.output, h.size, fun k hk hy => h.block k hk (fun hx => hy (hxy k hk hx))⟩

/-! ### the plain fold -/
/-- one element more. -/
def abv1 (id s : ByteArray) (n t : Int) (st : Bool) (a : LA) : LA :=
  if s.toList = id.toList then a else if st then (if !a.l || olderv s n t a.s a.n a.t then ⟨true, s, n, t, a.u⟩ else a) else { a with u := true }
/-- what the first i elements list. -/
def abv (id : ByteArray) (S : Nat → ByteArray) (N T : Nat → Int) (St : Nat → Bool) : Nat → LA
  | 0 => zla
  | i + 1 => abv1 id (S i) (N i) (T i) (St i) (abv id S N T St i)
/-- the entry after it. -/
def mrg (was ab : LA) : LA :=
  if !was.l || (ab.l && olderv ab.s ab.n ab.t was.s was.n was.t) then ⟨ab.l, ab.s, ab.n, ab.t, was.u || ab.u⟩ else { was with u := was.u || ab.u }
/-- the map after i elements. -/
def Dn (id : ByteArray) (S : Nat → ByteArray) (N T : Nat → Int) (St : Nat → Bool) (D0 : DataW LA) : Nat → DataW LA
  | 0 => D0
  | i + 1 => if (S i).toList = id.toList then (Dn id S N T St D0 i).put (kl (N i)) (.held (mrg (laAt (Dn id S N T St D0 i) (N i)) (abv id S N T St i))) else Dn id S N T St D0 i
/-- none of the first i elements is the session's own. -/
def noown (id : ByteArray) (S : Nat → ByteArray) : Nat → Bool
  | 0 => true
  | i + 1 => noown id S i && !((S i).toList == id.toList)

/-- the field 'shown' of the receiver, and the map behind it. -/
def ShownIs (w : World) (ob c : Nat) (D : DataW LA) (nilp : Bool) : Prop :=
  (nilp = true ∧ w.cell? ⟨ob, 3, none⟩ = some (.map none) ∧ D = .map []) ∨ (nilp = false ∧ ∃ mb, w.cell? ⟨ob, 3, none⟩ = some (.map (some mb)) ∧ OM w mb c D)

end Go.Proofs.Yboneofku
