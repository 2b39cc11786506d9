/-
  insertionSortOrdered, reverseRangeOrdered.
-/
import Derived.Test.YboneofktRow
namespace Go.Proofs.Yboneofkt
open Go.RowKit

theorem ins_size (lt : Int → Int → Bool) (a : Nat) : ∀ (j : Nat) (d : Array Int), (Go.Sort.insInner lt a j d).size = d.size
  | 0, d => rfl
  | j + 1, d => by
    unfold Go.Sort.insInner
    split
    · rw [ins_size lt a j]; simp [Go.Sort.swp]
    · rfl
theorem swp_size (d : Array Int) (i j : Nat) : (Go.Sort.swp d i j).size = d.size := by simp [Go.Sort.swp]

set_option maxHeartbeats 4000000 in
theorem insertion_any (blk n cap a b : Nat) (d : Array Int) (w : World) (hn : d.size = n) (hab : a ≤ b) (hb : b ≤ n) (hbig : n ≤ 1000000) (h : RH w blk d) :
    Calls Ybgt.prog 19 #[.slice (some ⟨blk, 0, none⟩) n cap, .int .i64 a, .int .i64 b] w fun e w' => e = .returned (.tuple #[]) ∧ RH w' blk (Go.Sort.insertionSort lt32 d a b) ∧ Only blk w w' := by
  go_enter Ybgt.func19, Ybgt.ntmps19
  go_wp2
  go_loopw [6] (fun v wr => ∃ (i : Nat) (d' : Array Int), a + 1 ≤ i ∧ (i ≤ b ∨ i = a + 1) ∧ v = .int .i64 i ∧ d'.size = n ∧ RH wr blk d' ∧ Go.Sort.insOuter lt32 a b i d' = Go.Sort.insertionSort lt32 d a b ∧ Only blk w wr) (fun v _ => (b : Int).toNat + 1 - (intOf v).toNat)
  case atStart => exact ⟨a + 1, d, Nat.le_refl _, .inr rfl, by go_num, hn, h, rfl, Only.refl _ _⟩
  case round =>
    obtain ⟨i, d', hai, hib, rfl, hs, hr, hd, ho⟩ := hrel
    by_cases hlt : i < b
    · have HD : Hid (Go.Sort.insOuter lt32 a b (i + 1) (Go.Sort.insInner lt32 a i d') = Go.Sort.insertionSort lt32 d a b) := by
        show _ = _
        rw [← hd]
        conv => rhs; unfold Go.Sort.insOuter
        rw [if_pos hlt]
      clear hd h
      go_wp2
      go_loopw [7] (fun v wi => ∃ (j : Nat) (e : Array Int), j ≤ i ∧ v = .int .i64 j ∧ e.size = n ∧ RH wi blk e ∧ Go.Sort.insInner lt32 a j e = Go.Sort.insInner lt32 a i d' ∧ Only blk w wi) (fun v _ => (intOf v).toNat)
      case atStart => exact ⟨i, d', Nat.le_refl _, rfl, hs, hr, rfl, ho⟩
      case round =>
        rename World => wi
        obtain ⟨j, e, hji, rfl, hes, her, hee, heo⟩ := hrel
        by_cases hja : a < j
        · obtain ⟨jm, hjm⟩ : ∃ jm : Nat, (j : Int) - 1 = jm := ⟨j - 1, by omega⟩
          have hjj : j = jm + 1 := by omega
          have hwr : IntKind.i64.wrap ((j : Int) - 1) = (jm : Int) := by rw [hjm]; unfold IntKind.wrap; simp [IntKind.signed, IntKind.bits]; omega
          have hwq : IntKind.i64.wrap (jm : Int) = (jm : Int) := by unfold IntKind.wrap; simp [IntKind.signed, IntKind.bits]; omega
          have g0 : (0 : Int) ≤ (jm : Int) := by omega
          have g4 : jm < n := by omega
          have g5 : j < n := by omega
          have HJ : Hid (j = jm + 1) := hjj
          have c0 := her.cell (i := j) (by omega)
          have c1 := her.cell (i := jm) (by omega)
          have f0 := her.frozen
          have g1 : (a : Int) < (j : Int) := by omega
          have g2 : (j : Int) < (n : Int) := by omega
          have g3 : (jm : Int) < (n : Int) := by omega
          obtain ⟨x, hx⟩ : ∃ x, x = e[j]! := ⟨_, rfl⟩
          obtain ⟨y, hy⟩ : ∃ y, y = e[jm]! := ⟨_, rfl⟩
          rw [← hx] at c0
          rw [← hy] at c1
          have HXY : Hid (x = e[j]! ∧ y = e[jm]!) := ⟨hx, hy⟩
          have hll : decide (x < y) = lt32 e[j]! e[jm]! := by rw [hx, hy]; rfl
          clear hx hy
          cases hl : lt32 e[j]! e[jm]!
          · rw [hl] at hll
            have hE : e = Go.Sort.insInner lt32 a i d' := by
              rw [← hee, hjj]
              unfold Go.Sort.insInner
              rw [← hjj, hl]
              simp
            have HE : Hid (e = Go.Sort.insInner lt32 a i d') := hE
            clear hE hee hjj
            go_wp2
            go_region_held3 (fun w' => w'.cell? ⟨blk, j, none⟩ = some (.int .i32 x) ∧ w'.cell? ⟨blk, jm, none⟩ = some (.int .i32 y)) (go_keep) (first | (go_at_call 25; refine (less25 _ _ _).mono ?_; rintro r w' ⟨rfl, rfl⟩))
            go_wp2
            go_roundw
            case rel => exact ⟨i + 1, e, by omega, .inl (by omega), by go_num, hes, her.drew, by rw [HE.out]; exact HD.out, heo.drew⟩
            case measure => simp [intOf]; omega
          · rw [hl] at hll
            have hE : Go.Sort.insInner lt32 a jm (Go.Sort.swp e j jm) = Go.Sort.insInner lt32 a i d' := by
              rw [← hee]
              conv => rhs; rw [hjj]; unfold Go.Sort.insInner
              rw [← hjj, hl]
              simp [hja]
            have HE : Hid (Go.Sort.insInner lt32 a jm (Go.Sort.swp e j jm) = Go.Sort.insInner lt32 a i d') := hE
            clear hE hee hjj
            go_wp2
            go_cut [30] (fun v wc => v = .bool true ∧ wc = wi.drew)
            case first =>
              go_region_held3 (fun w' => w'.cell? ⟨blk, j, none⟩ = some (.int .i32 x) ∧ w'.cell? ⟨blk, jm, none⟩ = some (.int .i32 y)) (go_keep) (first | (go_at_call 25; refine (less25 _ _ _).mono ?_; rintro r w' ⟨rfl, rfl⟩))
              go_wp2
              go_meet
              case rel => exact ⟨rfl, rfl⟩
            case rest =>
              obtain ⟨rfl, rfl⟩ := hcut
              go_wp2
              go_region
              go_wp2
              go_roundw
              case rel =>
                refine ⟨jm, Go.Sort.swp e j jm, by omega, by go_num, by rw [swp_size]; exact hes, ?_, HE.out, ((heo.setCell j (.int .i32 y)).setCell jm (.int .i32 x)).drewN 2⟩
                have hr2 := (her.set (i := j) (by omega) y).set (i := jm) (by simp; omega) x
                have hsw : (e.setIfInBounds j y).setIfInBounds jm x = Go.Sort.swp e j jm := by rw [HXY.out.1, HXY.out.2]; rfl
                rw [hsw] at hr2
                exact hr2
              case measure => simp [intOf]; omega
        · have hE : e = Go.Sort.insInner lt32 a i d' := by
            rw [← hee]
            cases j with
            | zero => rfl
            | succ j => unfold Go.Sort.insInner; rw [if_neg (by simp; omega)]
          have HE : Hid (e = Go.Sort.insInner lt32 a i d') := hE
          clear hE hee
          have g1 : ¬ (a : Int) < (j : Int) := by omega
          go_wp2
          go_quiet (fail)
          go_wp2
          go_roundw
          case rel => exact ⟨i + 1, e, by omega, .inl (by omega), by go_num, hes, her.below (below_drewN (Below.refl _ _) _), by rw [HE.out]; exact HD.out, heo.drewN _⟩
          case measure => simp [intOf]; omega
    · have hdd : d' = Go.Sort.insertionSort lt32 d a b := by
        rw [← hd]
        unfold Go.Sort.insOuter
        rw [if_neg hlt]
      go_wp2
      go_end0
      exact ⟨rfl, by rw [← hdd]; exact hr, ho⟩
end Go.Proofs.Yboneofkt
