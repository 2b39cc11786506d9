/-
  reverseRangeOrdered, order2Ordered, medianOrdered, medianAdjacentOrdered.
-/
import Derived.Test.YboneofktIns
namespace Go.Proofs.Yboneofkt
open Go.RowKit

set_option maxHeartbeats 4000000 in
theorem reverse_any (blk n cap a b : Nat) (d : Array Int) (w : World) (hn : d.size = n) (hab : a < b) (hb : b ≤ n) (hbig : n ≤ 1000000) (h : RH w blk d) :
    Calls Ybgt.prog 23 #[.slice (some ⟨blk, 0, none⟩) n cap, .int .i64 a, .int .i64 b] w fun e w' => e = .returned (.tuple #[]) ∧ RH w' blk (Go.Sort.reverseRange d a b) ∧ Only blk w w' := by
  obtain ⟨bm, hbm⟩ : ∃ bm : Nat, (b : Int) - 1 = bm := ⟨b - 1, by omega⟩
  have hbm2 : b - 1 = bm := by omega
  have HBM : Hid (b - 1 = bm) := hbm2
  clear hbm2
  go_enter Ybgt.func23, Ybgt.ntmps23
  go_wp2
  go_loopw [6, 7] (fun vi vj wr => ∃ (i j : Nat) (e : Array Int), a ≤ i ∧ j ≤ bm ∧ i ≤ j + 2 ∧ vi = .int .i64 i ∧ (vj = .int .i64 j) ∧ e.size = n ∧ RH wr blk e ∧ Go.Sort.reverseLoop i j e = Go.Sort.reverseRange d a b ∧ Only blk w wr) (fun vi vj _ => (intOf vj + 2 - intOf vi).toNat)
  case atStart => exact ⟨a, bm, d, Nat.le_refl _, Nat.le_refl _, by omega, rfl, by go_num, hn, h, by unfold Go.Sort.reverseRange; rw [HBM.out], Only.refl _ _⟩
  case round =>
    obtain ⟨i, j, e, hai, hjb, hij2, rfl, rfl, hes, her, hee, heo⟩ := hrel
    by_cases hlt : i < j
    · obtain ⟨jm, hjm⟩ : ∃ jm : Nat, (j : Int) - 1 = jm := ⟨j - 1, by omega⟩
      have hE : Go.Sort.reverseLoop (i + 1) jm (Go.Sort.swp e i j) = Go.Sort.reverseRange d a b := by
        rw [← hee]
        conv => rhs; unfold Go.Sort.reverseLoop
        rw [if_pos hlt, show j - 1 = jm by omega]
      have HE : Hid (Go.Sort.reverseLoop (i + 1) jm (Go.Sort.swp e i j) = Go.Sort.reverseRange d a b) := hE
      have hjn : j < n := by omega
      have hin : i < n := by omega
      have c0 := her.cell (i := i) (by omega)
      have c1 := her.cell (i := j) (by omega)
      have f0 := her.frozen
      obtain ⟨x, hx⟩ : ∃ x, x = e[i]! := ⟨_, rfl⟩
      obtain ⟨y, hy⟩ : ∃ y, y = e[j]! := ⟨_, rfl⟩
      rw [← hx] at c0
      rw [← hy] at c1
      have HXY : Hid (x = e[i]! ∧ y = e[j]!) := ⟨hx, hy⟩
      clear hE hee hx hy h
      go_wp2
      go_region
      go_wp2
      go_roundw
      case rel =>
        refine ⟨i + 1, jm, Go.Sort.swp e i j, by omega, by omega, by omega, by go_num, by go_num, by rw [swp_size]; exact hes, ?_, HE.out, ((heo.setCell i (.int .i32 y)).setCell j (.int .i32 x)).drewN 1⟩
        have hr2 := (her.set (i := i) (by omega) y).set (i := j) (by simp; omega) x
        have hsw : (e.setIfInBounds i y).setIfInBounds j x = Go.Sort.swp e i j := by rw [HXY.out.1, HXY.out.2]; rfl
        rw [hsw] at hr2
        exact hr2
      case measure => simp [intOf]; omega
    · have hE : e = Go.Sort.reverseRange d a b := by
        rw [← hee]
        unfold Go.Sort.reverseLoop
        rw [if_neg hlt]
      go_wp2
      go_end0
      exact ⟨rfl, by rw [← hE]; exact her, heo⟩
end Go.Proofs.Yboneofkt
