/-
  The operations' row; what one round of the first loop does to it.
-/
import Derived.Test.YbulkehrqRows
import Derived.WalkKit
import Derived.WalkSpells
import Derived.WalkLawsBesides
import Derived.Deep.OwnRows
namespace Go.Proofs.Ybulkehrq
open Go.RowKit

theorem Yba.info28 : (Yba.prog.info? 28).map (fun i => (i.zero, i.size, i.bytes)) = some (some (.agg #[.int .i64 0, .int .i64 0, .int .i64 0, .bool false, .bool false, .int .i64 0]), 6, 40) := by kernel_rfl

/-- cell c of operation i. -/
def opCell (G C R : Nat → Int) (Rm Em : Nat → Bool) (V : Nat → Int) (i : Nat) : Nat → Value
  | 0 => .int .i64 (G i)
  | 1 => .int .i64 (C i)
  | 2 => .int .i64 (R i)
  | 3 => .bool (Rm i)
  | 4 => .bool (Em i)
  | _ => .int .i64 (V i)

def zeroCell : Nat → Value
  | 0 => .int .i64 0
  | 1 => .int .i64 0
  | 2 => .int .i64 0
  | 3 => .bool false
  | 4 => .bool false
  | _ => .int .i64 0

theorem make_ops (n : Nat) (hn : n ≤ 2048) (w : World) : (Instr.makeSlice 23 (.int .i64 (n : Int)) (.int .i64 (n : Int))).run Yba.prog w =
    .ok (.slice (some ⟨w.heap.size, 0, none⟩) n n) (w.alloc (.cells (madeCells #[.int .i64 0, .int .i64 0, .int .i64 0, .bool false, .bool false, .int .i64 0] (n * 6)) 28)) := by
  obtain ⟨i0, hi, hz0, hz1, hz2⟩ := info_parts Yba.info28
  have h := run_make (P := Yba.prog) w 23 28 i0 _ Yba.underlying23 hi hz0 .i64 .i64 n n (by omega) (by omega) (by rw [hz2]; omega) (by omega)
  rw [hz1] at h
  simpa [Value.cells] using h

/-- the list after k rounds of the first loop. -/
def filled (F : Nat → Nat → Value) (k : Nat) (i : Nat) : Value := if i / 6 < k then F (i / 6) (i % 6) else zeroCell (i % 6)

theorem made_row (w : World) (n : Nat) (F : Nat → Nat → Value) : (w.alloc (.cells (madeCells #[.int .i64 0, .int .i64 0, .int .i64 0, .bool false, .bool false, .int .i64 0] (n * 6)) 28)).rowIs w.heap.size 28 (n * 6) (filled F 0) := by
  have h := World.rowIs_alloc w (madeCells #[.int .i64 0, .int .i64 0, .int .i64 0, .bool false, .bool false, .int .i64 0] (n * 6)) 28 (filled F 0) ?_
  · rwa [size_madeCells] at h
  · intro i hi
    rw [size_madeCells] at hi
    have h6 : i % 6 < 6 := Nat.mod_lt _ (by omega)
    simp only [madeCells, Array.getElem?_map, Array.getElem?_range, hi, if_true, Option.map_some, filled, Nat.not_lt_zero, if_false, Option.some.injEq, List.size_toArray, List.length_cons, List.length_nil]
    rcases (by omega : i % 6 = 0 ∨ i % 6 = 1 ∨ i % 6 = 2 ∨ i % 6 = 3 ∨ i % 6 = 4 ∨ i % 6 = 5) with h | h | h | h | h | h <;> simp [h, zeroCell]

/-- one round of the first loop, as the walk leaves it. -/
theorem row_fill {wr : World} {Bk n k : Nat} {F : Nat → Nat → Value} (h : wr.rowIs Bk 28 (n * 6) (filled F k)) (o : Obj) (v0 v1 v2 v3 v4 v5 : Value)
    (e0 : v0 = F k 0) (e1 : v1 = F k 1) (e2 : v2 = F k 2) (e3 : v3 = F k 3) (e4 : v4 = F k 4) (e5 : v5 = F k 5) :
    (((((((wr.setCell ⟨Bk, k * 6, none⟩ v0).setCell ⟨Bk, k * 6 + 1, none⟩ v1).setCell ⟨Bk, k * 6 + 2, none⟩ v2).setCell ⟨Bk, k * 6 + 3, none⟩ v3).setCell ⟨Bk, k * 6 + 4, none⟩ v4).setCell ⟨Bk, k * 6 + 5, none⟩ v5).alloc o).rowIs Bk 28 (n * 6) (filled F (k + 1)) := by
  subst e0 e1 e2 e3 e4 e5
  refine (((((((h.set _ _).set _ _).set _ _).set _ _).set _ _).set _ _).alloc o).congr fun i hi => ?_
  have h6 : i % 6 < 6 := Nat.mod_lt _ (by omega)
  have hd := Nat.div_add_mod i 6
  by_cases e : i / 6 = k
  · have hf : filled F (k + 1) i = F k (i - k * 6) := by
      unfold filled
      rw [if_pos (by omega), e, show i % 6 = i - k * 6 by omega]
    rw [hf]
    rcases (by omega : i = k * 6 ∨ i = k * 6 + 1 ∨ i = k * 6 + 2 ∨ i = k * 6 + 3 ∨ i = k * 6 + 4 ∨ i = k * 6 + 5) with h | h | h | h | h | h <;> simp [h]
  · rw [if_neg (by omega), if_neg (by omega), if_neg (by omega), if_neg (by omega), if_neg (by omega), if_neg (by omega)]
    by_cases l : i / 6 < k
    · simp [filled, l, show i / 6 < k + 1 by omega]
    · simp [filled, l, show ¬ i / 6 < k + 1 by omega]

theorem below_fill {w wr : World} {k : Nat} (hb : Below w.heap.size w wr) (o : Obj) (v0 v1 v2 v3 v4 v5 : Value) :
    Below w.heap.size w (((((((wr.setCell ⟨w.heap.size, k * 6, none⟩ v0).setCell ⟨w.heap.size, k * 6 + 1, none⟩ v1).setCell ⟨w.heap.size, k * 6 + 2, none⟩ v2).setCell ⟨w.heap.size, k * 6 + 3, none⟩ v3).setCell ⟨w.heap.size, k * 6 + 4, none⟩ v4).setCell ⟨w.heap.size, k * 6 + 5, none⟩ v5).alloc o) := by
  have h6 := (((((hb.setCell (p := ⟨w.heap.size, k * 6, none⟩) (Nat.le_refl _) v0).setCell (p := ⟨w.heap.size, k * 6 + 1, none⟩) (Nat.le_refl _) v1).setCell (p := ⟨w.heap.size, k * 6 + 2, none⟩) (Nat.le_refl _) v2).setCell (p := ⟨w.heap.size, k * 6 + 3, none⟩) (Nat.le_refl _) v3).setCell (p := ⟨w.heap.size, k * 6 + 4, none⟩) (Nat.le_refl _) v4).setCell (p := ⟨w.heap.size, k * 6 + 5, none⟩) (Nat.le_refl _) v5
  exact h6.alloc h6.size o

theorem wrap_stamp (a r : Int) (n : Nat) (hn : n ≤ 2048) (h1 : -32768 ≤ a) (h2 : a ≤ 32767) (r0 : 0 ≤ r) (r1 : r ≤ 5000) : wrap64 (wrap64 (a * (2 * n + 2)) + r) = a * (2 * n + 2) + r := by
  have p0 : (0 : Int) ≤ 2 * n + 2 := by omega
  have b1 : a * (2 * n + 2) ≤ 32767 * (2 * n + 2) := Int.mul_le_mul_of_nonneg_right h2 p0
  have b2 : -32768 * (2 * n + 2) ≤ a * (2 * n + 2) := Int.mul_le_mul_of_nonneg_right h1 p0
  generalize a * (2 * n + 2) = x at *
  rw [IntWalk.wrap64_in x ⟨by omega, by omega⟩, IntWalk.wrap64_in _ ⟨by omega, by omega⟩]

end Go.Proofs.Ybulkehrq
