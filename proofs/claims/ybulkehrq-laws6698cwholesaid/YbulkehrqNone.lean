/-
  The law at no operation: a nil slice, or an empty one.
-/
import Derived.Test.YbulkehrqMax
import Derived.Test.YbulkehrqCalls
namespace Go.Proofs.Ybulkehrq
open Go.RowKit

set_option maxHeartbeats 400000 in
theorem equal_none (a1 a2 : Option Addr) (c1 c2 : Nat) (w : World) :
    Calls Yba.prog 7 #[.slice a1 0 c1, .slice a2 0 c2] w fun e w' => e = .returned (.bool true) ∧ w' = w := by
  go_enter Yba.func7, Yba.ntmps7
  go_wp2
  refine wp_loop_rounds 1 ?_
  rw [rounds_succ]
  go_wp2
  go_ret
  exact ⟨rfl, rfl⟩

set_option maxHeartbeats 400000 in
theorem max_none (hsort0 : ∀ (p : Option Addr) (cap : Nat) (fv : Value) (W : World), Calls Yba.prog 8 #[.slice p 0 cap, fv] W fun e w' => e = .returned (.tuple #[]) ∧ w' = W)
    (md : Int) (a : Option Addr) (c : Nat) (w : World) :
    Calls Yba.prog 5 #[.agg #[.int .u8 md, .slice a 0 c]] w fun e w' => e = .returned (.int .i64 0) ∧ Below w.heap.size w w' := by
  have hmk := make_stamps 0 (by omega)
  simp only [Int.natCast_zero, Int.mul_zero, Nat.mul_zero, Nat.zero_mul] at hmk
  go_enter Yba.func5, Yba.ntmps5
  go_wp2
  refine wp_loop_rounds 1 ?_
  rw [rounds_succ]
  go_wp2_with (go_at_call 8; refine (hsort0 _ _ _ _).mono ?_; rintro e w' ⟨rfl, rfl⟩)
  refine wp_loop_rounds 1 ?_
  rw [rounds_succ]
  go_wp2
  go_ret
  exact ⟨rfl, ((Below.refl _ _).alloc (Nat.le_refl _) _).alloc (by simp) _⟩

theorem clone_nil (W : World) : Calls Yba.prog 4 #[.slice none 0 0] W fun e w' => e = .returned (.slice none 0 0) ∧ w' = W :=
  AnyE.slices_Clone_nil Yba.cloneOp 0 0 W

set_option maxHeartbeats 1000000 in
theorem law_nil (hsort0 : ∀ (p : Option Addr) (cap : Nat) (fv : Value) (W : World), Calls Yba.prog 8 #[.slice p 0 cap, fv] W fun e w' => e = .returned (.tuple #[]) ∧ w' = W)
    (md : Int) (hmd : 0 ≤ md ∧ md ≤ 255) (w : World) :
    Calls Yba.prog 3 #[.int .u8 md, .slice none 0 0] w fun e w' => e = .returned (.bool true) ∧ Below w.heap.size w w' := by
  have hneq : ∀ (W : World) (n' c' : Nat), (binOp .neq 22 (.slice none 0 0) (.slice none n' c')).run Yba.prog W = .ok (.bool false) W := fun W n' c' => run_neq_slice_nil_any W _ _ _ _ _ _ _ Yba.underlying22
  go_enter Yba.func3, Yba.ntmps3
  go_wp2
  refine wp_loop_rounds 1 ?_
  rw [rounds_succ]
  go_wp2_with fail
  refine (clone_nil _).mono ?_
  rintro e w1 ⟨rfl, rfl⟩
  go_wp2_with fail
  refine (max_none hsort0 _ _ _ _).mono ?_
  rintro e w2 ⟨rfl, hbel⟩
  have hz := hbel.size
  simp only [World.size_alloc] at hz
  have hh := hbel.cell (p := ⟨w1.heap.size, 0, none⟩) (by simp)
  go_wp2
  refine wp_loop_rounds 1 ?_
  rw [rounds_succ]
  go_wp2_with (go_at_call 7; refine (equal_none _ _ _ _ _).mono ?_; rintro e w' ⟨rfl, rfl⟩)
  go_ret
  exact ⟨rfl, ((Below.refl _ _).alloc (Nat.le_refl _) _).trans (hbel.mono (by simp))⟩

set_option maxHeartbeats 1000000 in
theorem law_empty (hsort0 : ∀ (p : Option Addr) (cap : Nat) (fv : Value) (W : World), Calls Yba.prog 8 #[.slice p 0 cap, fv] W fun e w' => e = .returned (.tuple #[]) ∧ w' = W)
    (md : Int) (hmd : 0 ≤ md ∧ md ≤ 255) (a : Addr) (cap : Nat) (w : World) :
    Calls Yba.prog 3 #[.int .u8 md, .slice (some a) 0 cap] w fun e w' => e = .returned (.bool true) ∧ Below w.heap.size w w' := by
  have hneq : ∀ (W : World) (n' c' : Nat), (binOp .neq 22 (.slice (some a) 0 cap) (.slice none n' c')).run Yba.prog W = .ok (.bool true) W := fun W n' c' => run_neq_slice_nil_any W _ _ _ _ _ _ _ Yba.underlying22
  have hmk := make_ops 0 (by omega)
  simp only [Int.natCast_zero, Nat.zero_mul] at hmk
  have hrow := made_row w 0 (fun _ _ => .int .i64 0)
  simp only [Nat.zero_mul] at hrow
  go_enter Yba.func3, Yba.ntmps3
  go_wp2
  refine wp_loop_rounds 1 ?_
  rw [rounds_succ]
  go_wp2_with fail
  refine (clone_any w.heap.size 0 0 (filled (fun _ _ => .int .i64 0) 0) (fun i => by unfold filled zeroCell; split <;> (try split) <;> rfl) _ (by omega) hrow).mono ?_
  rintro e w1 ⟨g, capg, rfl, hg1, hg2, _, hbel1⟩
  have hz1 := hbel1.size
  simp only [World.size_alloc] at hz1
  go_wp2_with fail
  refine (max_none hsort0 _ _ _ _).mono ?_
  rintro e w2 ⟨rfl, hbel⟩
  have hz := hbel.size
  simp only [World.size_alloc] at hz
  have hh := hbel.cell (p := ⟨w1.heap.size, 0, none⟩) (by simp)
  go_wp2
  refine wp_loop_rounds 1 ?_
  rw [rounds_succ]
  go_wp2_with (go_at_call 7; refine (equal_none _ _ _ _ _).mono ?_; rintro e w' ⟨rfl, rfl⟩)
  go_ret
  exact ⟨rfl, ((Below.refl _ _).alloc (Nat.le_refl _) _).trans ((hbel1.mono (by simp)).trans ((((Below.refl _ w1).alloc (Nat.le_refl _) _).mono (by omega)).trans (hbel.mono (by simp; omega))))⟩
end Go.Proofs.Ybulkehrq
