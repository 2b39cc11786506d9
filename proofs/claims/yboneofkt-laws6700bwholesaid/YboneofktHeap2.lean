/-
  heapSortOrdered.
-/
import Derived.Test.YboneofktHeap
namespace Go.Proofs.Yboneofkt
open Go.RowKit

theorem sift_size (hi first : Nat) : ∀ (m root : Nat) (e : Array Int), hi - root ≤ m → (Go.Sort.siftDown lt32 hi first root e).size = e.size
  | 0, root, e, hm => by rw [siftDown_out (by omega)]
  | m + 1, root, e, hm => by
    by_cases h : 2 * root + 1 < hi
    · rw [siftDown_step h]
      have hc := chld_lt (first := first) (e := e) h
      split
      · rw [sift_size hi first m _ _ (by omega), swp_size]
      · rfl
    · rw [siftDown_out (by omega)]

set_option maxHeartbeats 4000000 in
theorem heap_any (blk n cap a b : Nat) (d : Array Int) (w : World) (hn : d.size = n) (hab : a < b) (hb : b ≤ n) (hbig : n ≤ 1000000) (h : RH w blk d) :
    Calls Ybgt.prog 20 #[.slice (some ⟨blk, 0, none⟩) n cap, .int .i64 a, .int .i64 b] w fun r w' => r = .returned (.tuple #[]) ∧ RH w' blk (Go.Sort.heapSort lt32 d a b) ∧ Only blk w w' := by
  obtain ⟨L, hL⟩ : ∃ L : Nat, (b : Int) - (a : Int) = L := ⟨b - a, by omega⟩
  have hLn : b - a = L := by omega
  have hLa : a + L = b := by omega
  obtain ⟨M, hM⟩ : ∃ M : Nat, (L : Int) - 1 = M := ⟨L - 1, by omega⟩
  have hMn : L - 1 = M := by omega
  obtain ⟨B, hB⟩ : ∃ B, B = Go.Sort.heapBuild lt32 L a (M / 2 + 1) d := ⟨_, rfl⟩
  have HFIN : Hid (Go.Sort.heapSort lt32 d a b = Go.Sort.heapPop lt32 a L B) := by
    show _ = _
    unfold Go.Sort.heapSort
    rw [hLn, hMn, hB]
  have HBB : Hid (B = Go.Sort.heapBuild lt32 L a (M / 2 + 1) d) := hB
  have hLnn : L ≤ n := by omega
  have hML : M < L := by omega
  clear hLn hMn hB
  go_enter Ybgt.func20, Ybgt.ntmps20
  go_wp2
  go_loopw [9] (fun v wr => ∃ (k : Nat) (e : Array Int), k ≤ M / 2 + 1 ∧ v = .int .i64 ((k : Int) - 1) ∧ e.size = n ∧ RH wr blk e ∧ Go.Sort.heapBuild lt32 L a k e = B ∧ Only blk w wr) (fun v _ => (intOf v + 1).toNat)
  case atStart =>
    refine ⟨M / 2 + 1, d, Nat.le_refl _, ?_, hn, h, HBB.out.symm, Only.refl _ _⟩
    congr 1
    omega
  case round =>
    obtain ⟨k, e, hk, rfl, hes, her, hee, heo⟩ := hrel
    cases k with
    | zero =>
      have hE : e = B := hee
      subst hE
      clear hee
      rw [show ((0 : Nat) : Int) - 1 = -1 from rfl]
      go_wp2
      go_loopw [10] (fun v wr => ∃ (k : Nat) (f : Array Int), k ≤ L ∧ v = .int .i64 ((k : Int) - 1) ∧ f.size = n ∧ RH wr blk f ∧ Go.Sort.heapPop lt32 a k f = Go.Sort.heapPop lt32 a L e ∧ Only blk w wr) (fun v _ => (intOf v + 1).toNat)
      case atStart =>
        refine ⟨L, e, Nat.le_refl _, ?_, hes, her, rfl, heo⟩
        congr 1
        first | rfl | omega
      case round =>
        rename World => wj
        obtain ⟨k, f, hk2, rfl, hfs, hfr, hff, hfo⟩ := hrel
        cases k with
        | zero =>
          have hF : f = Go.Sort.heapPop lt32 a L e := hff
          go_wp2
          go_end0
          exact ⟨rfl, by rw [HFIN.out, ← hF]; exact hfr, hfo⟩
        | succ k =>
          have hkk : ((k + 1 : Nat) : Int) - 1 = (k : Int) := by omega
          obtain ⟨fk, hfk⟩ : ∃ fk : Nat, (a : Int) + (k : Int) = fk := ⟨a + k, by omega⟩
          have v1 := wrapN fk (by omega)
          have hfkn : fk < n := by omega
          have han : a < n := by omega
          have hfk2 : a + k = fk := by omega
          have hF : Go.Sort.heapPop lt32 a k (Go.Sort.siftDown lt32 k a 0 (Go.Sort.swp f a fk)) = Go.Sort.heapPop lt32 a L e := by rw [← hff, ← hfk2]; rfl
          have HF : Hid (Go.Sort.heapPop lt32 a k (Go.Sort.siftDown lt32 k a 0 (Go.Sort.swp f a fk)) = Go.Sort.heapPop lt32 a L e) := hF
          have ca := hfr.cell (i := a) (by omega)
          have ck := hfr.cell (i := fk) (by omega)
          have f0 := hfr.frozen
          obtain ⟨x, hx⟩ : ∃ x, x = f[a]! := ⟨_, rfl⟩
          obtain ⟨y, hy⟩ : ∃ y, y = f[fk]! := ⟨_, rfl⟩
          rw [← hx] at ca
          rw [← hy] at ck
          have HXY : Hid (x = f[a]! ∧ y = f[fk]!) := ⟨hx, hy⟩
          have hsz := sift_size k a k 0 (Go.Sort.swp f a fk) (by omega)
          have ps : ∀ W, RH W blk (Go.Sort.swp f a fk) → Calls Ybgt.prog 38 #[.slice (some ⟨blk, 0, none⟩) n cap, .int .i64 0, .int .i64 k, .int .i64 a] W fun r w' => r = .returned (.tuple #[]) ∧ RH w' blk (Go.Sort.siftDown lt32 k a 0 (Go.Sort.swp f a fk)) ∧ Only blk W w' := fun W hW => sift_any blk n cap 0 k a (Go.Sort.swp f a fk) W (by rw [swp_size]; exact hfs) (by omega) hbig (by omega) hW
          have PS : Hid (∀ W, RH W blk (Go.Sort.swp f a fk) → Calls Ybgt.prog 38 #[.slice (some ⟨blk, 0, none⟩) n cap, .int .i64 0, .int .i64 k, .int .i64 a] W fun r w' => r = .returned (.tuple #[]) ∧ RH w' blk (Go.Sort.siftDown lt32 k a 0 (Go.Sort.swp f a fk)) ∧ Only blk W w') := ps
          rw [hkk]
          clear hff hF hkk hx hy ps hfk2
          go_wp2
          go_cut [] (fun wc => RH wc blk (Go.Sort.swp f a fk) ∧ Only blk w wc)
          case first =>
            have c2 := (hfr.set (i := a) (by omega) y).cell (i := fk) (by simp; omega)
            have c3 := (hfr.set (i := fk) (by omega) x).cell (i := a) (by simp; omega)
            obtain ⟨z2, hz2⟩ : ∃ z, z = (f.setIfInBounds a y)[fk]! := ⟨_, rfl⟩
            obtain ⟨z3, hz3⟩ : ∃ z, z = (f.setIfInBounds fk x)[a]! := ⟨_, rfl⟩
            rw [← hz2] at c2
            rw [← hz3] at c3
            clear hz2 hz3
            go_region
            all_goals
              go_wp2
              go_meet
              case rel =>
                have hr2 := (hfr.set (i := a) (by omega) y).set (i := fk) (by simp; omega) x
                have hsw : (f.setIfInBounds a y).setIfInBounds fk x = Go.Sort.swp f a fk := by rw [HXY.out.1, HXY.out.2]; rfl
                rw [hsw] at hr2
                exact ⟨hr2, ((hfo.setCell a (.int .i32 y)).setCell fk (.int .i32 x)).drewN 1⟩
          case rest =>
            obtain ⟨hc1, hc2⟩ := hcut
            have pp := PS.out _ hc1
            go_wp2_with (go_at_call 38; refine pp.mono ?_; rintro r w2 ⟨rfl, g1, g2⟩)
            go_roundw
            case rel => exact ⟨k, _, by omega, by go_num, by rw [hsz, swp_size]; exact hfs, g1, HF.out, hc2.trans g2⟩
            case measure => simp [intOf]
    | succ k =>
      have hkk : ((k + 1 : Nat) : Int) - 1 = (k : Int) := by omega
      have hE : Go.Sort.heapBuild lt32 L a k (Go.Sort.siftDown lt32 L a k e) = B := hee
      have HE : Hid (Go.Sort.heapBuild lt32 L a k (Go.Sort.siftDown lt32 L a k e) = B) := hE
      have ps := sift_any blk n cap k L a e wr hes (by omega) hbig (by omega) her
      have hsz := sift_size L a L k e (by omega)
      generalize Go.Sort.siftDown lt32 L a k e = g at *
      rw [hkk]
      clear hee hE hkk her
      go_wp2_with (go_at_call 38; refine ps.mono ?_; rintro r w2 ⟨rfl, g1, g2⟩)
      go_roundw
      case rel => exact ⟨k, g, by omega, by go_num, by rw [hsz]; exact hes, g1, HE.out, heo.trans g2⟩
      case measure => simp [intOf]
end Go.Proofs.Yboneofkt
