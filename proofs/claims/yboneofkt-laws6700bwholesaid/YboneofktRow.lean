/-
  A row of int32 numbers; less; the exchange of two of them.
-/
import Derived.Test.YboneofktRows
import Derived.WalkKit
import Derived.WalkSpells
import Derived.Deep.Light
import Derived.WalkLawsBesides
import Derived.Deep.QuietTactic
import Derived.BigQuiet
import Derived.Below
import Derived.Deep.RegionHeld3
import Derived.Deep.DeepCutAuto
import Derived.Sort.AssemblyPlain
import Derived.Sort.Row
namespace Go.Proofs.Yboneofkt
open Go.RowKit

/-- the row in block blk begins with d. -/
def RH (w : World) (blk : Nat) (d : Array Int) : Prop := ∃ c, w.heap[blk]? = some (.cells c 21) ∧ d.size ≤ c.size ∧ ∀ i, i < d.size → c[i]? = some (.int .i32 d[i]!)

theorem RH.cell {w : World} {blk : Nat} {d : Array Int} (h : RH w blk d) {i : Nat} (hi : i < d.size) : w.cell? ⟨blk, i, none⟩ = some (.int .i32 d[i]!) := by
  obtain ⟨c, h1, _, h3⟩ := h
  rw [← h3 i hi]
  simp [World.cell?, h1]
theorem RH.frozen {w : World} {blk : Nat} {d : Array Int} (h : RH w blk d) (i : Nat) : w.frozen? ⟨blk, i, none⟩ = false := by
  obtain ⟨c, h1, _, _⟩ := h
  simp [World.frozen?, h1]
theorem RH.lt {w : World} {blk : Nat} {d : Array Int} (h : RH w blk d) : blk < w.heap.size := by
  obtain ⟨c, h1, _, _⟩ := h
  exact (Array.getElem?_eq_some_iff.1 h1).1
theorem RH.set {w : World} {blk : Nat} {d : Array Int} (h : RH w blk d) {i : Nat} (hi : i < d.size) (v : Int) : RH (w.setCell ⟨blk, i, none⟩ (.int .i32 v)) blk (d.setIfInBounds i v) := by
  obtain ⟨c, h1, h2, h3⟩ := h
  refine ⟨c.setIfInBounds i (.int .i32 v), by simp [World.setCell, Array.getElem?_modify, h1], by simpa using h2, fun j hj => ?_⟩
  have hj' : j < d.size := by simpa using hj
  by_cases e : i = j
  · subst e
    rw [Go.Sort.getElem!_set_same d i v hi, Array.getElem?_setIfInBounds_self_of_lt (by omega)]
  · have hx : (d.setIfInBounds i v)[j]! = d[j]! := by
      rw [getElem!_pos (d.setIfInBounds i v) j hj, getElem!_pos d j hj', Array.getElem_setIfInBounds, if_neg e]
    rw [Array.getElem?_setIfInBounds_ne e, h3 j hj', hx]
theorem RH.drew {w : World} {blk : Nat} {d : Array Int} (h : RH w blk d) : RH w.drew blk d := h

/-- only block blk has turned. -/
structure Only (blk : Nat) (w w' : World) : Prop where
  os : w'.os = w.os
  tape : w'.tape = w.tape
  output : w'.output = w.output
  size : w.heap.size ≤ w'.heap.size
  block : ∀ k, k < w.heap.size → k ≠ blk → w'.heap[k]? = w.heap[k]?
theorem Only.refl (blk : Nat) (w : World) : Only blk w w := ⟨rfl, rfl, rfl, Nat.le_refl _, fun _ _ _ => rfl⟩
theorem Only.trans {blk : Nat} {a b c : World} (h : Only blk a b) (k : Only blk b c) : Only blk a c :=
  ⟨k.os.trans h.os, k.tape.trans h.tape, k.output.trans h.output, Nat.le_trans h.size k.size, fun i hi hx => (k.block i (Nat.lt_of_lt_of_le hi h.size) hx).trans (h.block i hi hx)⟩
theorem Only.drew {blk : Nat} {a w : World} (h : Only blk a w) : Only blk a w.drew := ⟨h.os, h.tape, h.output, h.size, h.block⟩
theorem Only.below {blk : Nat} {a w w' : World} (h : Only blk a w) (hb : Below w.heap.size w w') : Only blk a w' :=
  h.trans ⟨hb.os, hb.tape, hb.output, hb.size, fun k hk _ => hb.block k hk⟩
theorem Only.drewN {blk : Nat} {a w : World} (h : Only blk a w) (q : Nat) : Only blk a (w.drewN q) := h.below (below_drewN (Below.refl _ _) q)
theorem RH.below {w w' : World} {blk : Nat} {d : Array Int} (h : RH w blk d) (hb : Below w.heap.size w w') : RH w' blk d := by
  have hl := h.lt
  obtain ⟨c, h1, h2⟩ := h
  exact ⟨c, (hb.block blk hl).trans h1, h2⟩
theorem Only.setCell {blk : Nat} {a w : World} (h : Only blk a w) (i : Nat) (u : Value) : Only blk a (w.setCell ⟨blk, i, none⟩ u) :=
  ⟨h.os, h.tape, h.output, by simpa [World.setCell] using h.size, fun k hk hx => by rw [Below.heap_setCell _ _ _ _ hx]; exact h.block k hk hx⟩

theorem nan18 (x : Int) (w : World) : Calls Ybgt.prog 18 #[.int .i32 x] w fun e w' => e = .returned (.bool false) ∧ w' = w := by
  go_enter Ybgt.func18, Ybgt.ntmps18
  go_wp2
  go_ret
  exact ⟨by simp, rfl⟩
theorem less25 (x y : Int) (w : World) : Calls Ybgt.prog 25 #[.int .i32 x, .int .i32 y] w fun e w' => e = .returned (.bool (decide (x < y))) ∧ w' = w := by
  go_enter Ybgt.func25, Ybgt.ntmps25
  go_wp2_with (go_at_call 18; refine (nan18 _ _).mono ?_; rintro e w' ⟨rfl, rfl⟩)
  go_ret
  exact ⟨rfl, rfl⟩

/-- less, as the plain sort asks it. -/
def lt32 (x y : Int) : Bool := decide (x < y)

end Go.Proofs.Yboneofkt
