/-
  decimal.FromInt, Sign, denominator.
-/
import Derived.Test.YbulkehvyRows
import Derived.WalkKit
import Derived.WalkSpells
import Derived.Deep.Light
import Derived.WalkLawsBesides
import Derived.Deep.QuietTactic
import Derived.BigQuiet
import Derived.Below
import Derived.Laws.ResultCell
import Derived.Deep.RegionHeld3
import Derived.Deep.DeepCutAuto
namespace Go.Proofs.Ybulkehvy
open Go.RowKit

theorem cell_of {w : World} {b : Nat} {cs : Array Value} {ty : TypeId} (h : w.heap[b]? = some (.cells cs ty)) (i : Nat) : w.cell? ⟨b, i, none⟩ = cs[i]? := by simp [World.cell?, h]
theorem frozen_of {w : World} {b : Nat} {cs : Array Value} {ty : TypeId} (h : w.heap[b]? = some (.cells cs ty)) (i : Nat) : w.frozen? ⟨b, i, none⟩ = false := by simp [World.frozen?, h]
theorem heap_set {w : World} {b : Nat} {cs : Array Value} {ty : TypeId} (h : w.heap[b]? = some (.cells cs ty)) (i : Nat) (v : Value) : (w.setCell ⟨b, i, none⟩ v).heap[b]? = some (.cells (cs.setIfInBounds i v) ty) := by
  simp [World.setCell, Array.getElem?_modify, h]

theorem nan16 (x : Int) (w : World) : Calls Yba.prog 16 #[.int .i64 x] w fun e w' => e = .returned (.bool false) ∧ w' = w := by
  go_enter Yba.func16, Yba.ntmps16
  go_wp2
  go_ret
  exact ⟨by simp, rfl⟩

/-- cmp.Compare. -/
def cmpv (x y : Int) : Int := if x < y then -1 else if y < x then 1 else 0

theorem cmp9 (x y : Int) (w : World) : Calls Yba.prog 9 #[.int .i64 x, .int .i64 y] w fun e w' => e = .returned (.int .i64 (cmpv x y)) ∧ w' = w := by
  unfold cmpv
  by_cases h1 : x < y
  · rw [if_pos h1]
    go_enter Yba.func9, Yba.ntmps9
    go_wp2_with (go_at_call 16; refine (nan16 _ _).mono ?_; rintro e w' ⟨rfl, rfl⟩)
    go_ret
    exact ⟨rfl, rfl⟩
  · rw [if_neg h1]
    by_cases h2 : y < x
    · rw [if_pos h2]
      go_enter Yba.func9, Yba.ntmps9
      go_wp2_with (go_at_call 16; refine (nan16 _ _).mono ?_; rintro e w' ⟨rfl, rfl⟩)
      go_ret
      exact ⟨rfl, rfl⟩
    · rw [if_neg h2]
      go_enter Yba.func9, Yba.ntmps9
      go_wp2_with (go_at_call 16; refine (nan16 _ _).mono ?_; rintro e w' ⟨rfl, rfl⟩)
      go_ret
      exact ⟨rfl, rfl⟩

/-- a big number below zero. -/
def BigAt (w : World) (b : Nat) : Prop := w.cell? ⟨b, 0, none⟩ = some (.bool true) ∧ ∃ sl cp, w.cell? ⟨b, 1, none⟩ = some (.slice sl 1 cp)

theorem BigAt.below {w w' : World} {b B : Nat} (h : BigAt w b) (hb : b < B) (hB : Below B w w') : BigAt w' b := by
  obtain ⟨h1, sl, cp, h2⟩ := h
  exact ⟨(hB.cell (p := ⟨b, 0, none⟩) hb).trans h1, sl, cp, (hB.cell (p := ⟨b, 1, none⟩) hb).trans h2⟩

theorem new7 (w : World) : Calls Yba.prog 7 #[.int .i64 (-9223372036854775808)] w fun e w' => (∃ b, e = .returned (.pointer (some ⟨b, 0, none⟩)) ∧ w.heap.size ≤ b ∧ b < w'.heap.size ∧ BigAt w' b) ∧ Below w.heap.size w w' := by
  go_enter Yba.func7, Yba.ntmps7
  go_wp2
  go_ret
  refine ⟨⟨w.heap.size + 1, rfl, by omega, by simp, ⟨?_, some ⟨w.heap.size, 0, none⟩, 1, ?_⟩⟩, ((Below.refl _ _).alloc (Nat.le_refl _) _).alloc (by simp) _⟩
  · rw [World.cell?_alloc_at (hn := by simp)]; rfl
  · rw [World.cell?_alloc_at (hn := by simp)]; rfl

theorem sign8 (b : Nat) (w : World) (h : BigAt w b) : Calls Yba.prog 8 #[.pointer (some ⟨b, 0, none⟩)] w fun e w' => e = .returned (.int .i64 (-1)) ∧ w' = w := by
  obtain ⟨h1, sl, cp, h2⟩ := h
  go_enter Yba.func8, Yba.ntmps8
  go_wp2
  go_ret
  exact ⟨rfl, rfl⟩

theorem from_small (n : Int) (hn : n ≠ -9223372036854775808) (w : World) : Calls Yba.prog 4 #[.int .i64 n] w fun e w' => e = .returned (.agg #[.int .i64 n, .pointer none, .int .i32 0]) ∧ Below w.heap.size w w' := by
  have hn' : (n == -9223372036854775808) = false := by simpa using hn
  go_enter Yba.func4, Yba.ntmps4
  go_wp2
  refine bodyPost_ret_by (results_cell_row (p := 2) (ty := 24) rfl _ _ w.heap.size 24 #[.int .i64 n, .pointer none, .int .i32 0] _ _ rfl (heap_alloc_new _ _) Yba.underlying24 rfl (by kernel_rfl)) rfl ⟨rfl, ?_⟩
  exact (Below.refl _ _).alloc (Nat.le_refl _) _

theorem sign_small (n : Int) (w : World) : Calls Yba.prog 6 #[.agg #[.int .i64 n, .pointer none, .int .i32 0]] w fun e w' => e = .returned (.int .i64 (cmpv n 0)) ∧ Below w.heap.size w w' := by
  go_enter Yba.func6, Yba.ntmps6
  go_wp2_with (go_at_call 9; refine (cmp9 _ _ _).mono ?_; rintro e w' ⟨rfl, rfl⟩)
  go_ret
  exact ⟨rfl, (Below.refl _ _).alloc (Nat.le_refl _) _⟩

theorem sign_big (b : Nat) (w : World) (hb : b < w.heap.size) (h : BigAt w b) : Calls Yba.prog 6 #[.agg #[.int .i64 0, .pointer (some ⟨b, 0, none⟩), .int .i32 0]] w fun e w' => e = .returned (.int .i64 (-1)) ∧ Below w.heap.size w w' := by
  have h8 : ∀ o, Calls Yba.prog 8 #[.pointer (some ⟨b, 0, none⟩)] (w.alloc o) fun e w' => e = .returned (.int .i64 (-1)) ∧ w' = (w.alloc o) := fun o => sign8 b _ (h.below hb ((Below.refl _ _).alloc (Nat.le_refl _) _))
  go_enter Yba.func6, Yba.ntmps6
  go_wp2_with (go_at_call 8; refine (h8 _).mono ?_; rintro e w' ⟨rfl, rfl⟩)
  go_ret
  exact ⟨rfl, (Below.refl _ _).alloc (Nat.le_refl _) _⟩

theorem from_big (w : World) : Calls Yba.prog 4 #[.int .i64 (-9223372036854775808)] w fun e w' => (∃ b, e = .returned (.agg #[.int .i64 0, .pointer (some ⟨b, 0, none⟩), .int .i32 0]) ∧ b < w'.heap.size ∧ BigAt w' b) ∧ Below w.heap.size w w' := by
  have h7 := new7 (w.alloc (.cells #[.int .i64 0, .pointer none, .int .i32 0] 24))
  have HH : Hid (∀ W : World, Below (w.alloc (.cells #[.int .i64 0, .pointer none, .int .i32 0] 24)).heap.size (w.alloc (.cells #[.int .i64 0, .pointer none, .int .i32 0] 24)) W → W.heap[w.heap.size]? = some (.cells #[.int .i64 0, .pointer none, .int .i32 0] 24)) := fun W hW => (hW.block _ (by simp)).trans (heap_alloc_new _ _)
  go_enter Yba.func4, Yba.ntmps4
  go_wp2_with (go_at_call 7; refine h7.mono ?_; rintro e w' ⟨⟨b, rfl, hlo, hb, hB⟩, hbel⟩; have t := HH.out _ hbel; have t0 : w'.cell? ⟨w.heap.size, 0, none⟩ = some (.int .i64 0) := (by rw [cell_of t]; rfl); have t1 : w'.cell? ⟨w.heap.size, 1, none⟩ = some (.pointer none) := (by rw [cell_of t]; rfl); have t2 : w'.cell? ⟨w.heap.size, 2, none⟩ = some (.int .i32 0) := (by rw [cell_of t]; rfl); have tf : ∀ q, w'.frozen? ⟨w.heap.size, q, none⟩ = false := frozen_of t; clear t)
  have hs := heap_set (heap_set (heap_set (HH.out _ hbel) 0 (.int .i64 0)) 1 (.pointer (some ⟨b, 0, none⟩))) 2 (.int .i32 0)
  refine bodyPost_ret_by (results_cell_row (p := 2) (ty := 24) rfl _ _ w.heap.size 24 #[.int .i64 0, .pointer (some ⟨b, 0, none⟩), .int .i32 0] _ _ rfl hs Yba.underlying24 rfl (by kernel_rfl)) rfl ⟨⟨b, rfl, by simpa using hb, ?_⟩, ?_⟩
  · have hne : w.heap.size ≠ b := by simp at hlo; omega
    obtain ⟨h1, sl, cp, h2⟩ := hB
    refine ⟨?_, sl, cp, ?_⟩
    · rw [World.cell?_setCell_far _ _ _ _ hne, World.cell?_setCell_far _ _ _ _ hne, World.cell?_setCell_far _ _ _ _ hne]; exact h1
    · rw [World.cell?_setCell_far _ _ _ _ hne, World.cell?_setCell_far _ _ _ _ hne, World.cell?_setCell_far _ _ _ _ hne]; exact h2
  · have hb0 : Below w.heap.size w w' := ((Below.refl _ _).alloc (Nat.le_refl _) _).trans (hbel.mono (by simp))
    exact ((hb0.setCell (Nat.le_refl _) _).setCell (Nat.le_refl _) _).setCell (Nat.le_refl _) _
end Go.Proofs.Ybulkehvy
