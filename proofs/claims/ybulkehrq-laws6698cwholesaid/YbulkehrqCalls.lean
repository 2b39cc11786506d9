/-
  slices.Clone and slices.Equal at []Op.
-/
import Derived.Test.YbulkehrqParts
import Derived.Test.YbulkehrqShelf
import Derived.Laws.StructEq
namespace Go.Proofs.Ybulkehrq
open Go.RowKit Go.Shelf Go.Lib

theorem opCell_one (G C R : Nat → Int) (Rm Em : Nat → Bool) (V : Nat → Int) (i c : Nat) : (opCell G C R Rm Em V i c).oneCell' = true := by
  unfold opCell; split <;> rfl

theorem clone_any (b n c : Nat) (f : Nat → Value) (hf : ∀ i, (f i).oneCell' = true) (W : World) (hn : n ≤ 2048) (h : W.rowIs b 28 (n * 6) f) :
    Calls Yba.prog 4 #[.slice (some ⟨b, 0, none⟩) n c] W fun e w' => ∃ g cap, e = .returned (.slice (some ⟨g, 0, none⟩) n cap) ∧ W.heap.size ≤ g ∧ g < w'.heap.size ∧ (∀ j, j < n * 6 → w'.cell? ⟨g, j, none⟩ = some (f j)) ∧ Below W.heap.size W w' := by
  obtain ⟨i0, hi, hz0, hz1, hz2⟩ := info_parts Yba.info28
  have hl : ((List.range (n * 6)).map f).length = n * 6 := by simp
  have hc : ∀ j u, ((List.range (n * 6)).map f)[j]? = some u → W.cell? ⟨b, 0 + j, none⟩ = some u := by
    intro j u hj
    rw [Nat.zero_add]
    by_cases hjn : j < n * 6
    · simp [hjn] at hj
      rw [h.cell hjn, hj]
    · simp [hjn] at hj
  have hcon := AnyE.slices_Clone Yba.cloneOp i0 _ 6 40 hi hz0 hz1 hz2 rfl (by omega) Yba.sizeOf28 b 0 n c ((List.range (n * 6)).map f) W hl (by unfold maxLen; omega) (by omega) hc (by
    intro u hu
    obtain ⟨i, _, rfl⟩ := List.mem_map.1 hu
    exact hf i)
  change Calls Yba.prog 4 _ _ _ at hcon
  refine hcon.mono ?_
  rintro e w' ⟨v', rfl, hown, hnn, hbel⟩
  rcases hown.2 with ⟨h0, _⟩ | ⟨g, cap, cur, rfl, hb, hg, hnc, hcm, hcs, htake⟩
  · exact absurd h0 hnn
  · refine ⟨g, cap, rfl, hb, (Array.getElem?_eq_some_iff.1 hg).1, fun j hj => ?_, hbel⟩
    rw [World.ownsRow.cellAt hown j hj]
    simp [hj]

/-- an operation's six cells. -/
def encOp (x : Int × Int × Int × Bool × Bool × Int) : List Value := [.int .i64 x.1, .int .i64 x.2.1, .int .i64 x.2.2.1, .bool x.2.2.2.1, .bool x.2.2.2.2.1, .int .i64 x.2.2.2.2.2]
def eqOp (x y : Int × Int × Int × Bool × Bool × Int) : Bool := x.1 == y.1 && x.2.1 == y.2.1 && x.2.2.1 == y.2.2.1 && x.2.2.2.1 == y.2.2.2.1 && x.2.2.2.2.1 == y.2.2.2.2.1 && x.2.2.2.2.2 == y.2.2.2.2.2

theorem neqOp : NeqAt Yba.prog 28 (fun x => .agg (encOp x).toArray) eqOp := by
  refine ⟨fun x y w => ?_, GuardAt.agg _ (by kernel_rfl)⟩
  have u2 := Yba.underlying2
  have a2 := Yba.isAgg2
  have z2 := Yba.sizeOf2
  have u3 := Yba.underlying3
  have a3 := Yba.isAgg3
  have z3 := Yba.sizeOf3
  have u4 := Yba.underlying4
  have a4 := Yba.isAgg4
  have z4 := Yba.sizeOf4
  have hS : Yba.prog.underlying 28 = some (.struct (Yba.prog.fieldsOf 28)) := by kernel_rfl
  have hp : Yba.prog.stoodInHeld 28 = false := by kernel_rfl
  simp only [encOp]
  rw [run_neq_struct, show (10000 : Nat) = 9999 + 1 from rfl, run_equalIn_agg w 9999 28 _ _ hS hp]
  simp only [Program.fieldsOf, Yba.underlying28]
  go_simp
  unfold eqOp
  by_cases h1 : x.1 = y.1
  · by_cases h2 : x.2.1 = y.2.1
    · by_cases h3 : x.2.2.1 = y.2.2.1
      · by_cases h4 : x.2.2.2.1 = y.2.2.2.1
        · by_cases h5 : x.2.2.2.2.1 = y.2.2.2.2.1
          · by_cases h6 : x.2.2.2.2.2 = y.2.2.2.2.2
            · simp [h1, h2, h3, h4, h5, h6]
            · simp [h1, h2, h3, h4, h5, h6]
          · simp [h1, h2, h3, h4, h5]
        · simp [h1, h2, h3, h4]
      · simp [h1, h2, h3]
    · simp [h1, h2]
  · simp [h1]

theorem eqOp_refl (x : Int × Int × Int × Bool × Bool × Int) : eqOp x x = true := by simp [eqOp]

theorem allEq_refl : ∀ l : List (Int × Int × Int × Bool × Bool × Int), Lib.allEq eqOp l l = true
  | [] => rfl
  | x :: l => by simp [Lib.allEq, eqOp_refl, allEq_refl l]

/-- slices.Equal at two rows that hold the same n operations. -/
theorem equal_any (b1 c1 b2 c2 n : Nat) (G C R : Nat → Int) (Rm Em : Nat → Bool) (V : Nat → Int) (W : World) (hn : n ≤ 2048)
    (h1 : ∀ j, j < n * 6 → W.cell? ⟨b1, j, none⟩ = some (opCell G C R Rm Em V (j / 6) (j % 6))) (h2 : ∀ j, j < n * 6 → W.cell? ⟨b2, j, none⟩ = some (opCell G C R Rm Em V (j / 6) (j % 6))) :
    Calls Yba.prog 7 #[.slice (some ⟨b1, 0, none⟩) n c1, .slice (some ⟨b2, 0, none⟩) n c2] W fun e w' => e = .returned (.bool true) ∧ ∃ q, w' = W.drewN q := by
  have key : ∀ b, (∀ j, j < n * 6 → W.cell? ⟨b, j, none⟩ = some (opCell G C R Rm Em V (j / 6) (j % 6))) → ∀ j, j < ((List.range n).map fun i => (G i, C i, R i, Rm i, Em i, V i)).length →
      ∀ i v, (encOp ((List.range n).map fun i => (G i, C i, R i, Rm i, Em i, V i))[j]!)[i]? = some v → W.cell? ⟨b, 0 + j * 6 + i, none⟩ = some v := by
    intro b h j hj i v hv
    have hj' : j < n := by simpa using hj
    have hi : i < 6 := by
      have := (List.getElem?_eq_some_iff.1 hv).1
      simpa [encOp] using this
    rw [Nat.zero_add, h (j * 6 + i) (by omega), show (j * 6 + i) / 6 = j by omega, show (j * 6 + i) % 6 = i by omega]
    have e : ((List.range n).map fun i => (G i, C i, R i, Rm i, Em i, V i))[j]! = (G j, C j, R j, Rm j, Em j, V j) := by simp [hj']
    rw [e] at hv
    rcases (by omega : i = 0 ∨ i = 1 ∨ i = 2 ∨ i = 3 ∨ i = 4 ∨ i = 5) with rfl | rfl | rfl | rfl | rfl | rfl <;> simpa [encOp, opCell] using hv
  have hcon := AnyQ.slices_Equal Yba.equalOp 6 Yba.isAgg28 Yba.sizeOf28 encOp (fun _ => rfl) eqOp neqOp b1 0 n c1 b2 0 n c2 ((List.range n).map fun i => (G i, C i, R i, Rm i, Em i, V i)) ((List.range n).map fun i => (G i, C i, R i, Rm i, Em i, V i)) W (by simp) (by simp) (by omega) (by omega) (key b1 h1) (key b2 h2)
  rw [allEq_refl] at hcon
  exact hcon

end Go.Proofs.Ybulkehrq
