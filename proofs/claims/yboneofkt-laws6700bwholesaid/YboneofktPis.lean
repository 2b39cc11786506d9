/-
  partialInsertionSortOrdered[int32] (the kit's worked walk at int, turned to this program).
-/
import Derived.Test.YboneofktPart
import Derived.Test.YboneofktPisW
import Derived.Sort.Grow
namespace Go.Proofs.Yboneofkt
open Go.RowKit Go.Sort

theorem RH.holds {w : World} {blk : Nat} {d : Array Int} (h : RH w blk d) : Holds (Value.int .i32) w blk 0 d := fun j hj =>
  ⟨by rw [Nat.zero_add]; exact h.cell hj, h.frozen _⟩

theorem RH.put {w : World} {blk : Nat} {d d' : Array Int} (h : RH w blk d) (hs : d'.size = d.size) (n : Nat) : RH (putRow (Value.int .i32) (Sort.ahead w n) blk 0 d') blk d' ∧ Only blk w (putRow (Value.int .i32) (Sort.ahead w n) blk 0 d') := by
  obtain ⟨c, h1, h2, h3⟩ := h
  refine ⟨⟨putCells (Value.int .i32) 0 d' c, ?_, ?_, ?_⟩, ⟨rfl, rfl, rfl, by simp, ?_⟩⟩
  · simp [putRow, mapBlock, Array.getElem?_modify, h1, onCells]
  · simp [putCells]; omega
  · intro i hi
    have hic : i < c.size := by omega
    simp [putCells, hic, hi]
  · intro k hk hx
    simp [putRow, mapBlock, Array.getElem?_modify, Ne.symm hx]

theorem RH.grow {w : World} {blk : Nat} {d : Array Int} (h : RH w blk d) (os : Array Obj) : RH (Sort.grow w os) blk d := by
  have hl := h.lt
  obtain ⟨c, h1, h2⟩ := h
  exact ⟨c, (heap_grow_old w os hl).trans h1, h2⟩
theorem Only.grow {blk : Nat} {a w : World} (h : Only blk a w) (os : Array Obj) : Only blk a (Sort.grow w os) :=
  ⟨h.os, h.tape, h.output, by simp; have := h.size; omega, fun k hk hx => (heap_grow_old w os (Nat.lt_of_lt_of_le hk h.size)).trans (h.block k hk hx)⟩

theorem shiftDown_size (lt : Int → Int → Bool) : ∀ j (d : Array Int), (shiftDown lt j d).size = d.size
  | 0, d => rfl
  | j + 1, d => by
    unfold shiftDown
    split
    · rfl
    · rw [shiftDown_size lt j, size_swp]
theorem shiftUp_size (lt : Int → Int → Bool) (b : Nat) : ∀ m j (d : Array Int), b - j ≤ m → (shiftUp lt b j d).size = d.size
  | 0, j, d, hm => by rw [shiftUp, if_neg (by omega)]
  | m + 1, j, d, hm => by
    rw [shiftUp]
    split
    · split
      · rfl
      · rw [shiftUp_size lt b m (j + 1) _ (by omega), size_swp]
    · rfl


theorem partialIns_size (lt : Int → Int → Bool) (a b : Nat) : ∀ s i (d : Array Int), (partialIns lt a b s i d).1.size = d.size
  | 0, i, d => rfl
  | s + 1, i, d => by
    unfold partialIns
    simp only []
    split
    · rfl
    · split
      · rfl
      · rw [partialIns_size lt a b s]
        split <;> split <;> simp [shiftUp_size lt b _ _ _ (Nat.le_refl _), shiftDown_size, size_swp]

theorem pis_any (blk n cap a b : Nat) (d : Array Int) (w : World) (hn : d.size = n) (hab : a < b) (hb : b ≤ n) (hbig : n ≤ 1000000) (h : RH w blk d) :
    Calls Ybgt.prog 24 #[.slice (some ⟨blk, 0, none⟩) n cap, .int .i64 a, .int .i64 b] w fun r w' => r = .returned (.bool (Go.Sort.partialInsertionSort lt32 d a b).2) ∧ RH w' blk (Go.Sort.partialInsertionSort lt32 d a b).1 ∧ Only blk w w' := by
  subst hn
  refine (pis_row blk 0 cap a b d w h.holds hab hb (by omega)).mono ?_
  rintro r w' ⟨rfl, m, rfl⟩
  exact ⟨rfl, h.put (partialIns_size ltInt a b 5 (a + 1) d) m⟩
end Go.Proofs.Yboneofkt
