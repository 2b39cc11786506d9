/-
  order2Ordered, medianOrdered, medianAdjacentOrdered, choosePivotOrdered.
-/
import Derived.Test.YboneofktRev
namespace Go.Proofs.Yboneofkt
open Go.RowKit

/-- the count of exchanges, in its own block. -/
def SwAt (w : World) (sb k : Nat) : Prop := w.heap[sb]? = some (.cells #[.int .i64 (k : Int)] 3)

theorem SwAt.cell {w : World} {sb k : Nat} (h : SwAt w sb k) : w.cell? ⟨sb, 0, none⟩ = some (.int .i64 (k : Int)) := by unfold SwAt at h; simp [World.cell?, h]
theorem SwAt.frozen {w : World} {sb k : Nat} (h : SwAt w sb k) (i : Nat) : w.frozen? ⟨sb, i, none⟩ = false := by unfold SwAt at h; simp [World.frozen?, h]
theorem SwAt.set {w : World} {sb k : Nat} (h : SwAt w sb k) (k' : Nat) : SwAt (w.setCell ⟨sb, 0, none⟩ (.int .i64 (k' : Int))) sb k' := by
  unfold SwAt at *
  simp [World.setCell, Array.getElem?_modify, h]
theorem RH.only {w w' : World} {blk sb : Nat} {d : Array Int} (h : RH w blk d) (ho : Only sb w w') (hne : blk ≠ sb) : RH w' blk d := by
  have hl := h.lt
  obtain ⟨c, h1, h2⟩ := h
  exact ⟨c, (ho.block blk hl hne).trans h1, h2⟩
theorem ne_of {w : World} {blk sb k : Nat} {d : Array Int} (h : RH w blk d) (hs : SwAt w sb k) : blk ≠ sb := by
  rintro rfl
  obtain ⟨c, h1, _⟩ := h
  unfold SwAt at hs
  rw [hs] at h1
  cases h1

set_option maxHeartbeats 2000000 in
theorem order2_any (blk n cap a b sb k : Nat) (d : Array Int) (w : World) (hn : d.size = n) (ha : a < n) (hb : b < n) (hk : k ≤ 1000) (h : RH w blk d) (hs : SwAt w sb k) :
    Calls Ybgt.prog 46 #[.slice (some ⟨blk, 0, none⟩) n cap, .int .i64 a, .int .i64 b, .pointer (some ⟨sb, 0, none⟩)] w fun e w' =>
      e = .returned (.tuple #[.int .i64 ((Go.Sort.order2 lt32 d a b k).1 : Int), .int .i64 ((Go.Sort.order2 lt32 d a b k).2.1 : Int)]) ∧ RH w' blk d ∧ SwAt w' sb (Go.Sort.order2 lt32 d a b k).2.2 ∧ Only sb w w' := by
  have hne := ne_of h hs
  have c0 := h.cell (i := a) (by omega)
  have c1 := h.cell (i := b) (by omega)
  have k0 := hs.cell
  have kf := hs.frozen
  obtain ⟨x, hx⟩ : ∃ x, x = d[b]! := ⟨_, rfl⟩
  obtain ⟨y, hy⟩ : ∃ y, y = d[a]! := ⟨_, rfl⟩
  rw [← hx] at c1
  rw [← hy] at c0
  unfold Go.Sort.order2
  have hll : decide (x < y) = lt32 d[b]! d[a]! := by rw [hx, hy]; rfl
  clear hx hy
  cases hl : lt32 d[b]! d[a]!
  · rw [hl] at hll
    simp only [Bool.false_eq_true, if_false]
    go_enter Ybgt.func46, Ybgt.ntmps46
    go_wp2
    go_region_held3 (fun w' => w'.cell? ⟨blk, b, none⟩ = some (.int .i32 x) ∧ w'.cell? ⟨blk, a, none⟩ = some (.int .i32 y)) (go_keep) (first | (go_at_call 25; refine (less25 _ _ _).mono ?_; rintro r w' ⟨rfl, rfl⟩))
    go_wp2
    go_ret2
    exact ⟨by simp, h.drew, hs, (Only.refl _ _).drew⟩
  · rw [hl] at hll
    simp only [if_true]
    go_enter Ybgt.func46, Ybgt.ntmps46
    go_wp2
    go_region_held3 (fun w' => w'.cell? ⟨blk, b, none⟩ = some (.int .i32 x) ∧ w'.cell? ⟨blk, a, none⟩ = some (.int .i32 y)) (go_keep) (first | (go_at_call 25; refine (less25 _ _ _).mono ?_; rintro r w' ⟨rfl, rfl⟩))
    go_wp2
    go_ret2
    have ho : Only sb w (w.setCell ⟨sb, 0, none⟩ (.int .i64 ((k + 1 : Nat) : Int))) := (Only.refl _ _).setCell 0 _
    refine ⟨by simp, ?_, ?_, ?_⟩
    · exact (h.only ho hne).drew
    · exact hs.set (k + 1)
    · exact ho.drew

theorem order2_lt {lt : Int → Int → Bool} {d : Array Int} {a b k n : Nat} (ha : a < n) (hb : b < n) : (Go.Sort.order2 lt d a b k).1 < n ∧ (Go.Sort.order2 lt d a b k).2.1 < n ∧ (Go.Sort.order2 lt d a b k).2.2 ≤ k + 1 := by
  unfold Go.Sort.order2
  split
  · exact ⟨hb, ha, Nat.le_refl _⟩
  · exact ⟨ha, hb, Nat.le_succ _⟩

set_option maxHeartbeats 2000000 in
theorem median_any (blk n cap a b c sb k : Nat) (d : Array Int) (w : World) (hn : d.size = n) (ha : a < n) (hb : b < n) (hc : c < n) (hk : k ≤ 900) (h : RH w blk d) (hs : SwAt w sb k) :
    Calls Ybgt.prog 42 #[.slice (some ⟨blk, 0, none⟩) n cap, .int .i64 a, .int .i64 b, .int .i64 c, .pointer (some ⟨sb, 0, none⟩)] w fun e w' =>
      e = .returned (.int .i64 ((Go.Sort.median lt32 d a b c k).1 : Int)) ∧ RH w' blk d ∧ SwAt w' sb (Go.Sort.median lt32 d a b c k).2 ∧ Only sb w w' := by
  unfold Go.Sort.median
  have l1 := order2_lt (lt := lt32) (d := d) (k := k) ha hb
  obtain ⟨r1, hr1⟩ : ∃ r1, r1 = Go.Sort.order2 lt32 d a b k := ⟨_, rfl⟩
  have o1 := order2_any blk n cap a b sb k d w hn ha hb (by omega) h hs
  rw [← hr1] at o1 l1 ⊢
  obtain ⟨a1, b1, k1⟩ := r1
  have l2 := order2_lt (lt := lt32) (d := d) (k := k1) l1.2.1 hc
  obtain ⟨r2, hr2⟩ : ∃ r2, r2 = Go.Sort.order2 lt32 d b1 c k1 := ⟨_, rfl⟩
  have o2 : ∀ W, RH W blk d → SwAt W sb k1 → _ := fun W hW hS => order2_any blk n cap b1 c sb k1 d W hn l1.2.1 hc (by have := l1.2.2; simp only at this; omega) hW hS
  simp only
  rw [← hr2] at l2 ⊢
  simp only [← hr2] at o2
  obtain ⟨b2, c2, k2⟩ := r2
  have l3 := order2_lt (lt := lt32) (d := d) (k := k2) l1.1 l2.1
  obtain ⟨r3, hr3⟩ : ∃ r3, r3 = Go.Sort.order2 lt32 d a1 b2 k2 := ⟨_, rfl⟩
  have o3 : ∀ W, RH W blk d → SwAt W sb k2 → _ := fun W hW hS => order2_any blk n cap a1 b2 sb k2 d W hn l1.1 l2.1 (by have := l1.2.2; have := l2.2.2; simp only at *; omega) hW hS
  simp only
  rw [← hr3] at l3 ⊢
  simp only [← hr3] at o3
  obtain ⟨a3, b3, k3⟩ := r3
  simp only at o1 o2 o3 ⊢
  have O2 := o2
  have O3 := o3
  clear o2 o3 hr1 hr2 hr3 l1 l2 l3 h hs
  go_enter Ybgt.func42, Ybgt.ntmps42
  go_upto_region 2 with (go_at_call 46; refine o1.mono ?_; rintro e w1 ⟨rfl, g1, g2, g3⟩)
  have p2 := O2 w1 g1 g2
  go_upto_region 3 with (go_at_call 46; refine p2.mono ?_; rintro e w2 ⟨rfl, g4, g5, g6⟩)
  have p3 := O3 w2 g4 g5
  go_wp2_with (go_at_call 46; refine p3.mono ?_; rintro e w3 ⟨rfl, g7, g8, g9⟩)
  go_ret
  exact ⟨rfl, g7, g8, (g3.trans g6).trans g9⟩

set_option maxHeartbeats 2000000 in
theorem medianAdj_any (blk n cap a sb k : Nat) (d : Array Int) (w : World) (hn : d.size = n) (ha0 : 0 < a) (ha : a + 1 < n) (hbig : n ≤ 1000000) (hk : k ≤ 900) (h : RH w blk d) (hs : SwAt w sb k) :
    Calls Ybgt.prog 41 #[.slice (some ⟨blk, 0, none⟩) n cap, .int .i64 a, .pointer (some ⟨sb, 0, none⟩)] w fun e w' =>
      e = .returned (.int .i64 ((Go.Sort.medianAdjacent lt32 d a k).1 : Int)) ∧ RH w' blk d ∧ SwAt w' sb (Go.Sort.medianAdjacent lt32 d a k).2 ∧ Only sb w w' := by
  unfold Go.Sort.medianAdjacent
  have hm := median_any blk n cap (a - 1) a (a + 1) sb k d w hn (by omega) (by omega) ha hk h hs
  obtain ⟨am, ham⟩ : ∃ am : Nat, (a : Int) - 1 = am := ⟨a - 1, by omega⟩
  have e1 : ((a - 1 : Nat) : Int) = (am : Int) := by omega
  have e2 : ((a + 1 : Nat) : Int) = (a : Int) + 1 := by omega
  rw [e1, e2] at hm
  clear e1 e2 h hs
  generalize Go.Sort.median lt32 d (a - 1) a (a + 1) k = r at *
  go_enter Ybgt.func41, Ybgt.ntmps41
  go_wp2_with (go_at_call 42; refine hm.mono ?_; rintro e w1 ⟨rfl, g1, g2, g3⟩)
  go_ret
  exact ⟨rfl, g1, g2, g3⟩
end Go.Proofs.Yboneofkt
