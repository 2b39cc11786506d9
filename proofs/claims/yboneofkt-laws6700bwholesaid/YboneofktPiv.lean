/-
  choosePivotOrdered.
-/
import Derived.Test.YboneofktMed
namespace Go.Proofs.Yboneofkt
open Go.RowKit

def hintv : Go.Sort.Hint → Int
  | .unknown => 0
  | .increasing => 1
  | .decreasing => 2

/-- the pivot and the exchanges that were counted. -/
def pivr (d : Array Int) (a b : Nat) : Nat × Nat :=
  if b - a ≥ 8 then
    if b - a ≥ 50 then
      let ri := Go.Sort.medianAdjacent lt32 d (a + (b - a) / 4 * 1) 0
      let rj := Go.Sort.medianAdjacent lt32 d (a + (b - a) / 4 * 2) ri.2
      let rk := Go.Sort.medianAdjacent lt32 d (a + (b - a) / 4 * 3) rj.2
      Go.Sort.median lt32 d ri.1 rj.1 rk.1 rk.2
    else Go.Sort.median lt32 d (a + (b - a) / 4 * 1) (a + (b - a) / 4 * 2) (a + (b - a) / 4 * 3) 0
  else (a + (b - a) / 4 * 2, 0)

theorem choosePivot_eq (d : Array Int) (a b : Nat) : Go.Sort.choosePivot lt32 d a b = ((pivr d a b).1, if (pivr d a b).2 = 0 then .increasing else if (pivr d a b).2 = 12 then .decreasing else .unknown) := rfl

theorem median_lt {d : Array Int} {a b c k n : Nat} (ha : a < n) (hb : b < n) (hc : c < n) : (Go.Sort.median lt32 d a b c k).1 < n ∧ (Go.Sort.median lt32 d a b c k).2 ≤ k + 3 := by
  unfold Go.Sort.median
  have l1 := order2_lt (lt := lt32) (d := d) (k := k) ha hb
  have l2 := order2_lt (lt := lt32) (d := d) (k := (Go.Sort.order2 lt32 d a b k).2.2) l1.2.1 hc
  have l3 := order2_lt (lt := lt32) (d := d) (k := (Go.Sort.order2 lt32 d (Go.Sort.order2 lt32 d a b k).2.1 c (Go.Sort.order2 lt32 d a b k).2.2).2.2) l1.1 l2.1
  have x1 := l1.2.2
  have x2 := l2.2.2
  exact ⟨l3.2.1, Nat.le_trans l3.2.2 (by omega)⟩

set_option maxHeartbeats 4000000 in
theorem pivot_any (blk n cap a b : Nat) (d : Array Int) (w : World) (hn : d.size = n) (hab : a < b) (hb : b ≤ n) (hbig : n ≤ 1000000) (h : RH w blk d) :
    Calls Ybgt.prog 22 #[.slice (some ⟨blk, 0, none⟩) n cap, .int .i64 a, .int .i64 b] w fun e w' =>
      e = .returned (.tuple #[.int .i64 ((Go.Sort.choosePivot lt32 d a b).1 : Int), .int .i64 (hintv (Go.Sort.choosePivot lt32 d a b).2)]) ∧ Below w.heap.size w w' := by
  rw [choosePivot_eq]
  obtain ⟨L, hL⟩ : ∃ L : Nat, (b : Int) - (a : Int) = L := ⟨b - a, by omega⟩
  have hLn : b - a = L := by omega
  obtain ⟨q, hq⟩ : ∃ q : Nat, (L : Int) / 4 = q := ⟨L / 4, by omega⟩
  have hqn : L / 4 = q := by omega
  have hqL : 4 * q ≤ L := by omega
  have hqL2 : L < 4 * q + 4 := by omega
  obtain ⟨r, hr⟩ : ∃ r, r = pivr d a b := ⟨_, rfl⟩
  rw [← hr]
  have HR : Hid (r = pivr d a b) := hr
  have HLN : Hid (b - a = L ∧ L / 4 = q) := ⟨hLn, hqn⟩
  have hs0 : SwAt (w.alloc (.cells #[.int .i64 0] 3)) w.heap.size 0 := heap_alloc_new _ _
  have h0 : RH (w.alloc (.cells #[.int .i64 0] 3)) blk d := h.below ((Below.refl _ _).alloc (Nat.le_refl _) _)
  obtain ⟨i, hi⟩ : ∃ i : Nat, (a : Int) + (q : Int) = i := ⟨a + q, by omega⟩
  obtain ⟨j, hj⟩ : ∃ j : Nat, (a : Int) + (q : Int) * 2 = j := ⟨a + q * 2, by omega⟩
  obtain ⟨k, hk⟩ : ∃ k : Nat, (a : Int) + (q : Int) * 3 = k := ⟨a + q * 3, by omega⟩
  have HIJK : Hid (a + (b - a) / 4 * 1 = i ∧ a + (b - a) / 4 * 2 = j ∧ a + (b - a) / 4 * 3 = k) := by
    rw [hLn, hqn]
    exact ⟨by omega, by omega, by omega⟩
  have HLE : Hid (pivr d a b = if L ≥ 8 then (if L ≥ 50 then (let ri := Go.Sort.medianAdjacent lt32 d i 0; let rj := Go.Sort.medianAdjacent lt32 d j ri.2; let rk := Go.Sort.medianAdjacent lt32 d k rj.2; Go.Sort.median lt32 d ri.1 rj.1 rk.1 rk.2) else Go.Sort.median lt32 d i j k 0) else (j, 0)) := by
    show pivr d a b = _
    unfold pivr
    rw [HIJK.out.1, HIJK.out.2.1, HIJK.out.2.2, hLn]
  clear hr hLn hqn
  go_enter Ybgt.func22, Ybgt.ntmps22
  go_upto_if 32 with (fail)
  clear hi hj hk
  have hin : 2 ≤ q → i + 1 < n ∧ 0 < i ∧ j + 1 < n ∧ 0 < j ∧ k + 1 < n ∧ 0 < k := by
    intro h0
    have e1 := HIJK.out
    have e2 := HLN.out
    rw [e2.1, e2.2] at e1
    omega
  have HIN : Hid (2 ≤ q → i + 1 < n ∧ 0 < i ∧ j + 1 < n ∧ 0 < j ∧ k + 1 < n ∧ 0 < k) := hin
  clear hin
  go_cut [10, 11, 12] (fun v10 v11 v12 wc => v11 = .int .i64 (r.1 : Int) ∧ SwAt wc w.heap.size r.2 ∧ Only w.heap.size (w.alloc (.cells #[.int .i64 0] 3)) wc)
  case first =>
    by_cases h8 : 8 ≤ L
    · have h8' : (8 : Int) ≤ (L : Int) := by omega
      have hb6 := HIN.out (by omega)
      by_cases h50 : 50 ≤ L
      · have h50' : (50 : Int) ≤ (L : Int) := by omega
        have hrr : r = (let ri := Go.Sort.medianAdjacent lt32 d i 0; let rj := Go.Sort.medianAdjacent lt32 d j ri.2; let rk := Go.Sort.medianAdjacent lt32 d k rj.2; Go.Sort.median lt32 d ri.1 rj.1 rk.1 rk.2) := by rw [HR.out, HLE.out, if_pos h8, if_pos h50]
        have p1 := medianAdj_any blk n cap i w.heap.size 0 d _ hn (by omega) (by omega) hbig (by omega) h0 hs0
        have m1 := median_lt (d := d) (a := i - 1) (b := i) (c := i + 1) (k := 0) (n := n) (by omega) (by omega) (by omega)
        have p2 : ∀ W s, s ≤ 100 → RH W blk d → SwAt W w.heap.size s → Calls Ybgt.prog 41 #[.slice (some ⟨blk, 0, none⟩) n cap, .int .i64 j, .pointer (some ⟨w.heap.size, 0, none⟩)] W fun e w' => e = .returned (.int .i64 ((Go.Sort.medianAdjacent lt32 d j s).1 : Int)) ∧ RH w' blk d ∧ SwAt w' w.heap.size (Go.Sort.medianAdjacent lt32 d j s).2 ∧ Only w.heap.size W w' := fun W s hs hR hS => medianAdj_any blk n cap j w.heap.size s d W hn (by omega) (by omega) hbig (by omega) hR hS
        have m2 : ∀ s, (Go.Sort.medianAdjacent lt32 d j s).1 < n ∧ (Go.Sort.medianAdjacent lt32 d j s).2 ≤ s + 3 := fun s => median_lt (by omega) (by omega) (by omega)
        have p3 : ∀ W s, s ≤ 100 → RH W blk d → SwAt W w.heap.size s → Calls Ybgt.prog 41 #[.slice (some ⟨blk, 0, none⟩) n cap, .int .i64 k, .pointer (some ⟨w.heap.size, 0, none⟩)] W fun e w' => e = .returned (.int .i64 ((Go.Sort.medianAdjacent lt32 d k s).1 : Int)) ∧ RH w' blk d ∧ SwAt w' w.heap.size (Go.Sort.medianAdjacent lt32 d k s).2 ∧ Only w.heap.size W w' := fun W s hs hR hS => medianAdj_any blk n cap k w.heap.size s d W hn (by omega) (by omega) hbig (by omega) hR hS
        have m3 : ∀ s, (Go.Sort.medianAdjacent lt32 d k s).1 < n ∧ (Go.Sort.medianAdjacent lt32 d k s).2 ≤ s + 3 := fun s => median_lt (by omega) (by omega) (by omega)
        have m1' : (Go.Sort.medianAdjacent lt32 d i 0).1 < n ∧ (Go.Sort.medianAdjacent lt32 d i 0).2 ≤ 3 := m1
        clear m1
        obtain ⟨i1, hi1⟩ : ∃ x, x = Go.Sort.medianAdjacent lt32 d i 0 := ⟨_, rfl⟩
        rw [← hi1] at hrr p1 m1'
        obtain ⟨i1, s1⟩ := i1
        simp only at hrr p1 m1'
        have q2 := fun W => p2 W s1 (by omega)
        have n2 := m2 s1
        obtain ⟨j1, hj1⟩ : ∃ x, x = Go.Sort.medianAdjacent lt32 d j s1 := ⟨_, rfl⟩
        rw [← hj1] at hrr n2
        simp only [← hj1] at q2
        obtain ⟨j1, s2⟩ := j1
        simp only at hrr n2 q2
        have q3 := fun W => p3 W s2 (by omega)
        have n3 := m3 s2
        obtain ⟨k1, hk1⟩ : ∃ x, x = Go.Sort.medianAdjacent lt32 d k s2 := ⟨_, rfl⟩
        rw [← hk1] at hrr n3
        simp only [← hk1] at q3
        obtain ⟨k1, s3⟩ := k1
        simp only at hrr n3 q3
        have q4 : ∀ W, RH W blk d → SwAt W w.heap.size s3 → _ := fun W hR hS => median_any blk n cap i1 j1 k1 w.heap.size s3 d W hn m1'.1 n2.1 n3.1 (by omega) hR hS
        simp only [← hrr] at q4
        have Q2 : Hid (∀ W, RH W blk d → SwAt W w.heap.size s1 → _) := q2
        have Q3 : Hid (∀ W, RH W blk d → SwAt W w.heap.size s2 → _) := q3
        have Q4 : Hid (∀ W, RH W blk d → SwAt W w.heap.size s3 → _) := q4
        clear p2 p3 m2 m3 q2 q3 q4 hrr hi1 hj1 hk1 n2 n3 m1'
        go_upto_region 9 with (go_at_call 41; refine p1.mono ?_; rintro e w1 ⟨rfl, g1, g2, g3⟩)
        have t2 := Q2.out w1 g1 g2
        go_upto_region 10 with (go_at_call 41; refine t2.mono ?_; rintro e w2 ⟨rfl, g4, g5, g6⟩)
        have t3 := Q3.out w2 g4 g5
        go_upto_region 11 with (go_at_call 41; refine t3.mono ?_; rintro e w3 ⟨rfl, g7, g8, g9⟩)
        have t4 := Q4.out w3 g7 g8
        go_wp2_with (go_at_call 42; refine t4.mono ?_; rintro e w4 ⟨rfl, g10, g11, g12⟩)
        go_meet
        case rel => exact ⟨rfl, g11, ((g3.trans g6).trans g9).trans g12⟩
      · have h50' : ¬ (50 : Int) ≤ (L : Int) := by omega
        have hrr : r = Go.Sort.median lt32 d i j k 0 := by rw [HR.out, HLE.out, if_pos h8, if_neg h50]
        have pm := median_any blk n cap i j k w.heap.size 0 d _ hn (by omega) (by omega) (by omega) (by omega) h0 hs0
        rw [← hrr] at pm
        clear hrr
        go_wp2_with (go_at_call 42; refine pm.mono ?_; rintro e w1 ⟨rfl, g1, g2, g3⟩)
        go_meet
        case rel => exact ⟨rfl, g2, g3⟩
    · have h8' : ¬ (8 : Int) ≤ (L : Int) := by omega
      have hrr : r = (j, 0) := by rw [HR.out, HLE.out, if_neg h8]
      subst hrr
      go_wp2
      go_meet
      case rel => exact ⟨rfl, hs0, Only.refl _ _⟩
  case rest =>
    obtain ⟨rfl, hsw, hon⟩ := hcut
    rename World => w1
    have hbel : Below w.heap.size w w1 := ((Below.refl _ _).alloc (Nat.le_refl _) _).trans ⟨hon.os, hon.tape, hon.output, hon.size, fun b hb => hon.block b (by simp; omega) (by omega)⟩
    have c0 := hsw.cell
    obtain ⟨r1, r2⟩ := r
    simp only at c0 ⊢
    clear hsw hon hs0 h0 HR HLE HIJK HIN
    by_cases hz : r2 = 0
    · subst hz
      go_wp2
      go_ret2
      exact ⟨by simp [hintv], hbel⟩
    · have hz' : ((r2 : Int) == 0) = false := by simp; omega
      by_cases h12 : r2 = 12
      · subst h12
        go_wp2
        go_ret2
        exact ⟨by simp [hintv], hbel⟩
      · have h12' : ((r2 : Int) == 12) = false := by simp; omega
        go_wp2
        go_ret2
        exact ⟨by simp [hintv], hbel⟩
end Go.Proofs.Yboneofkt
