/-
  breakPatternsOrdered[int32] (the kit's worked walk at int, turned to this program).
-/
import Derived.Test.YboneofktPis
import Derived.Test.YboneofktBrkW
namespace Go.Proofs.Yboneofkt
open Go.RowKit Go.Sort


theorem breakPatterns_size (d : Array Int) (a b : Nat) : (breakPatterns d a b).size = d.size := by
  unfold breakPatterns
  simp only []
  split
  · simp [breakStep, size_swp]
  · rfl

theorem brk_any (blk n cap a b : Nat) (d : Array Int) (w : World) (hn : d.size = n) (hab : a ≤ b) (hb : b ≤ n) (hbig : n ≤ 1000000) (h : RH w blk d) :
    Calls Ybgt.prog 21 #[.slice (some ⟨blk, 0, none⟩) n cap, .int .i64 a, .int .i64 b] w fun r w' => r = .returned (.tuple #[]) ∧ RH w' blk (breakPatterns d a b) ∧ Only blk w w' := by
  subst hn
  refine (breakPatterns_int blk 0 cap a b d w h.holds h.lt hab hb (by omega)).mono ?_
  rintro r w' ⟨rfl, m, os, rfl⟩
  have := h.put (breakPatterns_size d a b) m
  exact ⟨rfl, this.1.grow os, this.2.grow os⟩
end Go.Proofs.Yboneofkt
