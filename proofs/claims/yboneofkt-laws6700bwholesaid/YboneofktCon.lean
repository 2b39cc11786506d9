/-
  Clone, Equal, SortFunc by the shelf's contracts.
-/
import Derived.Test.YboneofktLeaf
import Derived.Test.YboneofktLay
namespace Go.Proofs.Yboneofkt
open Go.RowKit

theorem Ybgt.info3 : (Ybgt.prog.info? 3).map (fun i => (i.zero, i.size, i.bytes)) = some (some (.int .i64 0), 1, 8) := by kernel_rfl

/-- a fresh row of n cells f comes back. -/
def ResC (T n : Nat) (f : Nat → Value) (w : World) (e : Ending) (w' : World) : Prop := ∃ b cap, e = .returned (.slice (some ⟨b, 0, none⟩) n cap) ∧ n ≤ cap ∧ w.heap.size ≤ b ∧ Rw w' b T n f ∧ Below w.heap.size w w'

theorem own_rw {w : World} {base T n : Nat} {v : Value} {f : Nat → Value} (h : w.ownsRow base T 1 v n ((List.range n).map f)) (hv : v ≠ .slice none 0 0) : ∃ b cap, v = .slice (some ⟨b, 0, none⟩) n cap ∧ n ≤ cap ∧ base ≤ b ∧ Rw w b T n f := by
  rcases h.2 with ⟨h1, _⟩ | ⟨g, cap, cur, h1, h2, h3, h4, _, h6, h7⟩
  · exact absurd h1 hv
  · refine ⟨g, cap, h1, h4, h2, cur, h3, by omega, fun i hi => ?_⟩
    have := congrArg (fun l => l[i]?) h7
    simp only [List.getElem?_map, List.getElem?_take] at this
    rw [if_pos (by omega), List.getElem?_range hi] at this
    simpa using this

theorem clone4 (b off n c : Nat) (d : Nat → Int) (w : World) (hn : n ≤ 1000000) (hc : ∀ i, i < n → w.cell? ⟨b, off + i, none⟩ = some (.int .i32 (d i))) :
    Calls Ybgt.prog 4 #[.slice (some ⟨b, off, none⟩) n c] w (ResC 21 n (fun i => .int .i32 (d i)) w) := by
  obtain ⟨i0, hi0, hz0, hz1, hz2⟩ := info_parts Ybgt.info21
  have h := AnyE.slices_Clone Ybgt.cloneA i0 (.int .i32 0) 1 4 hi0 hz0 hz1 hz2 rfl (by omega) Ybgt.sizeOf21 b off n c ((List.range n).map fun i => Value.int .i32 (d i)) w (by simp) (by simp only [maxLen]; omega) (by omega) (by
    intro j u hj
    have hjn : j < n := by
      have := (List.getElem?_eq_some_iff.1 hj).1
      simpa using this
    rw [List.getElem?_map, List.getElem?_range hjn] at hj
    rw [hc j hjn]
    simpa using hj) (by
    intro u hu
    obtain ⟨j, _, rfl⟩ := List.mem_map.1 hu
    rfl)
  refine Calls.mono (show Calls Ybgt.prog 4 _ _ _ from h) ?_
  rintro e w' ⟨v', rfl, h1, h2, h3⟩
  obtain ⟨b', cap, rfl, h4, h5, h6⟩ := own_rw h1 h2
  exact ⟨b', cap, rfl, h4, h5, h6, h3⟩

theorem clone5 (b off n c : Nat) (d : Nat → Int) (w : World) (hn : n ≤ 1000000) (hc : ∀ i, i < n → w.cell? ⟨b, off + i, none⟩ = some (.int .i64 (d i))) :
    Calls Ybgt.prog 5 #[.slice (some ⟨b, off, none⟩) n c] w (ResC 3 n (fun i => .int .i64 (d i)) w) := by
  obtain ⟨i0, hi0, hz0, hz1, hz2⟩ := info_parts Ybgt.info3
  have h := AnyE.slices_Clone Ybgt.cloneI i0 (.int .i64 0) 1 8 hi0 hz0 hz1 hz2 rfl (by omega) Ybgt.sizeOf3 b off n c ((List.range n).map fun i => Value.int .i64 (d i)) w (by simp) (by simp only [maxLen]; omega) (by omega) (by
    intro j u hj
    have hjn : j < n := by
      have := (List.getElem?_eq_some_iff.1 hj).1
      simpa using this
    rw [List.getElem?_map, List.getElem?_range hjn] at hj
    rw [hc j hjn]
    simpa using hj) (by
    intro u hu
    obtain ⟨j, _, rfl⟩ := List.mem_map.1 hu
    rfl)
  refine Calls.mono (show Calls Ybgt.prog 5 _ _ _ from h) ?_
  rintro e w' ⟨v', rfl, h1, h2, h3⟩
  obtain ⟨b', cap, rfl, h4, h5, h6⟩ := own_rw h1 h2
  exact ⟨b', cap, rfl, h4, h5, h6, h3⟩

theorem allEq_refl (xs : List Int) : Lib.allEq (fun x y => x == y) xs xs = true := by
  induction xs with
  | nil => rfl
  | cons x xs ih => simp [Lib.allEq, ih]

/-- two rows of the same numbers. -/
theorem equal7 (b1 b2 n c c' : Nat) (d : Nat → Int) (w : World) (hn : n ≤ 1000000) (h1 : ∀ i, i < n → w.cell? ⟨b1, i, none⟩ = some (.int .i32 (d i))) (h2 : ∀ i, i < n → w.cell? ⟨b2, i, none⟩ = some (.int .i32 (d i))) :
    Calls Ybgt.prog 7 #[.slice (some ⟨b1, 0, none⟩) n c, .slice (some ⟨b2, 0, none⟩) n c'] w fun e w' => e = .returned (.bool true) ∧ ∃ q, w' = w.drewN q := by
  have hg : ∀ j, j < ((List.range n).map d).length → ((List.range n).map d)[j]! = d j := by
    intro j hj
    rw [getElem!_pos _ j hj]
    simp
  have h := AnyE.slices_Equal Ybgt.equalA (Value.int .i32) (fun x y => x == y) (NeqAt.int Ybgt.prog 21 .i32) b1 0 n c b2 0 n c' ((List.range n).map d) ((List.range n).map d) w (by simp) (by simp) (by omega) (by omega)
    (by intro j hj; rw [hg j hj, Nat.zero_add]; exact h1 j (by simpa using hj)) (by intro j hj; rw [hg j hj, Nat.zero_add]; exact h2 j (by simpa using hj))
  refine Calls.mono (show Calls Ybgt.prog 7 _ _ _ from h) ?_
  rintro e w' ⟨rfl, hw⟩
  exact ⟨by rw [allEq_refl], hw⟩

/-- two slices of no element. -/
theorem equal7_none (p q : Option Addr) (c c' : Nat) (w : World) : Calls Ybgt.prog 7 #[.slice p 0 c, .slice q 0 c'] w fun e w' => e = .returned (.bool true) ∧ ∃ q, w' = w.drewN q := by
  go_enter Ybgt.func7, Ybgt.ntmps7
  go_wp2
  go_loopw [13] (fun v wr => v = .int .i64 0 ∧ wr = w) (fun _ _ => 0)
  case atStart => exact ⟨rfl, rfl⟩
  case round =>
    obtain ⟨rfl, rfl⟩ := hrel
    go_wp2
    go_ret
    exact ⟨rfl, 0, rfl⟩
end Go.Proofs.Yboneofkt
