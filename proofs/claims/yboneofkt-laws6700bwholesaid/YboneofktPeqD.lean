/-
  partitionEqualOrdered.
-/
import Derived.Test.YboneofktHeap2
namespace Go.Proofs.Yboneofkt
open Go.RowKit

theorem scanUp_step {p : Int → Bool} {d : Array Int} {j i : Nat} : Go.Sort.scanUp p d j i = if i ≤ j ∧ p d[i]! = true then Go.Sort.scanUp p d j (i + 1) else i := by
  conv => lhs; unfold Go.Sort.scanUp
  by_cases h : i ≤ j ∧ p d[i]! = true
  · rw [if_pos h, if_pos (by simpa using h)]
  · rw [if_neg h, if_neg (by simpa using h)]

theorem scanUp_ge (p : Int → Bool) (d : Array Int) (j : Nat) : ∀ (m i : Nat), j + 1 - i ≤ m → i ≤ Go.Sort.scanUp p d j i ∧ Go.Sort.scanUp p d j i ≤ max i (j + 1)
  | 0, i, hm => by
    rw [scanUp_step, if_neg (by omega)]
    omega
  | m + 1, i, hm => by
    rw [scanUp_step]
    split
    · have := scanUp_ge p d j m (i + 1) (by omega)
      omega
    · omega

theorem scanDown_le (p : Int → Bool) (d : Array Int) (i : Nat) : ∀ j, Go.Sort.scanDown p d i j ≤ j
  | 0 => Nat.le_refl _
  | j + 1 => by
    unfold Go.Sort.scanDown
    split
    · exact Nat.le_succ_of_le (scanDown_le p d i j)
    · exact Nat.le_refl _

theorem scanDown_ge (p : Int → Bool) (d : Array Int) (i : Nat) (hi : 0 < i) : ∀ j, i ≤ j + 1 → i ≤ Go.Sort.scanDown p d i j + 1
  | 0, h => h
  | j + 1, h => by
    unfold Go.Sort.scanDown
    split
    · rename_i hc
      simp at hc
      exact scanDown_ge p d i hi j (by omega)
    · exact h

theorem scanDown_step {p : Int → Bool} {d : Array Int} {i j : Nat} (hi : 0 < i) : Go.Sort.scanDown p d i j = if i ≤ j ∧ p d[j]! = true then Go.Sort.scanDown p d i (j - 1) else j := by
  cases j with
  | zero => rw [if_neg (by omega)]; rfl
  | succ j =>
    conv => lhs; unfold Go.Sort.scanDown
    by_cases h : i ≤ j + 1 ∧ p d[j + 1]! = true
    · rw [if_pos h, if_pos (by simpa using h)]; rfl
    · rw [if_neg h, if_neg (by simpa using h)]

/-- the loop of partitionEqual, one round on. -/
theorem peq_step {a i j : Nat} {e : Array Int} {i2 j2 : Nat} (h1 : Go.Sort.scanUp (fun x => !lt32 e[a]! x) e j i = i2) (h2 : Go.Sort.scanDown (fun x => lt32 e[a]! x) e i2 j = j2) :
    Go.Sort.partEqLoop lt32 a i j e = if i2 > j2 then (i2, e) else Go.Sort.partEqLoop lt32 a (i2 + 1) (j2 - 1) (Go.Sort.swp e i2 j2) := by
  conv => lhs; unfold Go.Sort.partEqLoop
  simp only [h1, h2]
  have g1 := scanUp_ge (fun x => !lt32 e[a]! x) e j (j + 1 - i) i (Nat.le_refl _)
  have g2 := scanDown_le (fun x => lt32 e[a]! x) e i2 j
  rw [h1] at g1
  rw [h2] at g2
  by_cases hg : i2 > j2
  · rw [if_pos hg, if_pos hg]
  · rw [if_neg hg, if_neg hg, dif_pos (by omega)]

/-- two cells exchanged, by go_region's own world. -/
theorem RH.swp {w : World} {blk : Nat} {d : Array Int} (h : RH w blk d) {i j : Nat} (hi : i < d.size) (hj : j < d.size) : RH ((w.setCell ⟨blk, i, none⟩ (.int .i32 d[j]!)).setCell ⟨blk, j, none⟩ (.int .i32 d[i]!)) blk (Go.Sort.swp d i j) :=
  (h.set hi d[j]!).set (by simpa using hj) d[i]!

set_option maxHeartbeats 4000000 in
theorem peq_any (blk n cap a b pv : Nat) (d : Array Int) (w : World) (hn : d.size = n) (hap : a ≤ pv) (hpb : pv < b) (hb : b ≤ n) (hbig : n ≤ 1000000) (h : RH w blk d) :
    Calls Ybgt.prog 26 #[.slice (some ⟨blk, 0, none⟩) n cap, .int .i64 a, .int .i64 b, .int .i64 pv] w fun r w' => r = .returned (.int .i64 ((Go.Sort.partitionEqual lt32 d a b pv).1 : Int)) ∧ RH w' blk (Go.Sort.partitionEqual lt32 d a b pv).2 ∧ Only blk w w' := by
  obtain ⟨R, hR⟩ : ∃ R, R = Go.Sort.partitionEqual lt32 d a b pv := ⟨_, rfl⟩
  rw [← hR]
  obtain ⟨bm, hbm⟩ : ∃ bm : Nat, (b : Int) - 1 = bm := ⟨b - 1, by omega⟩
  have HR : Hid (Go.Sort.partEqLoop lt32 a (a + 1) bm (Go.Sort.swp d a pv) = R) := by
    show _ = R
    rw [hR]
    unfold Go.Sort.partitionEqual
    rw [show b - 1 = bm by omega]
  have han : a < n := by omega
  have hpn : pv < n := by omega
  have hbn : bm < n := by omega
  have hbm2 : a ≤ bm := by omega
  have ca := h.cell (i := a) (by omega)
  have cp := h.cell (i := pv) (by omega)
  have f0 := h.frozen
  have c2 := (h.set (i := a) (by omega) d[pv]!).cell (i := pv) (by simp; omega)
  have c3 := (h.set (i := pv) (by omega) d[a]!).cell (i := a) (by simp; omega)
  have hsw := h.swp (i := a) (j := pv) (by omega) (by omega)
  obtain ⟨z2, hz2⟩ : ∃ z, z = (d.setIfInBounds a d[pv]!)[pv]! := ⟨_, rfl⟩
  obtain ⟨z3, hz3⟩ : ∃ z, z = (d.setIfInBounds pv d[a]!)[a]! := ⟨_, rfl⟩
  rw [← hz2] at c2
  rw [← hz3] at c3
  have HSW : Hid (RH ((w.setCell ⟨blk, a, none⟩ (.int .i32 d[pv]!)).setCell ⟨blk, pv, none⟩ (.int .i32 d[a]!)) blk (Go.Sort.swp d a pv)) := hsw
  obtain ⟨x, hx⟩ : ∃ x, x = d[a]! := ⟨_, rfl⟩
  obtain ⟨y, hy⟩ : ∃ y, y = d[pv]! := ⟨_, rfl⟩
  rw [← hx] at ca
  rw [← hy] at cp
  rw [← hy] at c2
  rw [← hx] at c3
  rw [← hx, ← hy] at HSW
  clear hz2 hz3 hx hy hsw hR
  go_enter Ybgt.func26, Ybgt.ntmps26
  go_wp2
  go_cut [] (fun wc => RH wc blk (Go.Sort.swp d a pv) ∧ Only blk w wc)
  case first =>
    go_region
    all_goals
      go_wp2
      go_meet
      case rel => exact ⟨HSW.out, (((Only.refl blk w).setCell a _).setCell pv _).drewN 1⟩
  case rest =>
  obtain ⟨hc1, hc2⟩ := hcut
  rename World => w1
  clear ca cp c2 c3 f0 HSW h
  go_wp2
  go_loopw [9, 10] (fun vi vj wr => ∃ (i j : Nat) (e : Array Int), a + 1 ≤ i ∧ i ≤ j + 2 ∧ j < n ∧ vi = .int .i64 i ∧ vj = .int .i64 j ∧ e.size = n ∧ RH wr blk e ∧ Go.Sort.partEqLoop lt32 a i j e = R ∧ Only blk w wr) (fun vi vj _ => (intOf vj + 3 - intOf vi).toNat)
  case atStart => exact ⟨a + 1, bm, Go.Sort.swp d a pv, Nat.le_refl _, by omega, hbn, by go_num, by go_num, by rw [swp_size]; exact hn, hc1, HR.out, hc2⟩
  case round =>
    obtain ⟨i, j, e, hai, hij, hjn, rfl, rfl, hes, her, hee, heo⟩ := hrel
    obtain ⟨i2, hi2⟩ : ∃ i2, Go.Sort.scanUp (fun x => !lt32 e[a]! x) e j i = i2 := ⟨_, rfl⟩
    obtain ⟨j2, hj2⟩ : ∃ j2, Go.Sort.scanDown (fun x => lt32 e[a]! x) e i2 j = j2 := ⟨_, rfl⟩
    have hst := peq_step hi2 hj2
    rw [hee] at hst
    have HST : Hid (R = if i2 > j2 then (i2, e) else Go.Sort.partEqLoop lt32 a (i2 + 1) (j2 - 1) (Go.Sort.swp e i2 j2)) := hst
    have g1 := scanUp_ge (fun x => !lt32 e[a]! x) e j (j + 1 - i) i (Nat.le_refl _)
    have g2 := scanDown_le (fun x => lt32 e[a]! x) e i2 j
    rw [hi2] at g1
    rw [hj2] at g2
    have HI2 : Hid (Go.Sort.scanUp (fun x => !lt32 e[a]! x) e j i = i2) := hi2
    have HJ2 : Hid (Go.Sort.scanDown (fun x => lt32 e[a]! x) e i2 j = j2) := hj2
    clear hst hi2 hj2 hee hc1 hc2 HR
    go_wp2
    go_loopw [9] (fun v wi => ∃ i' : Nat, i ≤ i' ∧ i' ≤ j + 2 ∧ v = .int .i64 i' ∧ Go.Sort.scanUp (fun x => !lt32 e[a]! x) e j i' = i2 ∧ RH wi blk e ∧ Only blk w wi) (fun v _ => j + 3 - (intOf v).toNat)
    case atStart => exact ⟨i, Nat.le_refl _, hij, rfl, HI2.out, her, heo⟩
    case round =>
      rename World => wi
      obtain ⟨i', hii, hij', rfl, hsc, her2, heo2⟩ := hrel
      obtain ⟨cb, hcb⟩ : ∃ cb, cb = (decide (i' ≤ j) && !lt32 e[a]! e[i']!) := ⟨_, rfl⟩
      have HCB : Hid (cb = (decide (i' ≤ j) && !lt32 e[a]! e[i']!)) := hcb
      have hsc2 := hsc
      rw [scanUp_step] at hsc2
      have HSC : Hid ((if i' ≤ j ∧ (!lt32 e[a]! e[i']!) = true then Go.Sort.scanUp (fun x => !lt32 e[a]! x) e j (i' + 1) else i') = i2) := hsc2
      clear hsc hsc2 hcb
      go_wp2
      go_cut [43] (fun v wc => v = .bool cb ∧ RH wc blk e ∧ Only blk w wc)
      case first =>
        by_cases hle : i' ≤ j
        · have hle' : (i' : Int) ≤ (j : Int) := by omega
          have hin : i' < n := by omega
          have ca := her2.cell (i := a) (by omega)
          have ci := her2.cell (i := i') (by omega)
          obtain ⟨x, hx⟩ : ∃ x, x = e[a]! := ⟨_, rfl⟩
          obtain ⟨y, hy⟩ : ∃ y, y = e[i']! := ⟨_, rfl⟩
          rw [← hx] at ca
          rw [← hy] at ci
          have HXY : Hid (x = e[a]! ∧ y = e[i']!) := ⟨hx, hy⟩
          clear hx hy
          go_region_held3 (fun w' => w'.cell? ⟨blk, a, none⟩ = some (.int .i32 x) ∧ w'.cell? ⟨blk, i', none⟩ = some (.int .i32 y)) (go_keep) (first | (go_at_call 25; refine (less25 _ _ _).mono ?_; rintro r w' ⟨rfl, rfl⟩))
          go_wp2
          go_meet
          case rel => exact ⟨by rw [HCB.out, ← HXY.out.1, ← HXY.out.2]; simp [hle, lt32], her2.drew, heo2.drew⟩
        · have hle' : ¬ (i' : Int) ≤ (j : Int) := by omega
          go_quiet (fail)
          go_wp2
          go_meet
          case rel => exact ⟨by rw [HCB.out]; simp [hle], her2.below (below_drewN (Below.refl _ _) _), heo2.drewN _⟩
      case rest =>
        obtain ⟨rfl, her3, heo3⟩ := hcut
        rename World => w3
        clear her2 heo2
        cases cb
        · have hstop : i' = i2 := by
            have := HSC.out
            rw [if_neg (by have := HCB.out; simp at this; intro hh; have := this hh.1; simp_all)] at this
            exact this
          subst hstop
          clear HSC HCB HI2
          go_wp2
          go_loopw [10] (fun v wi => ∃ j' : Nat, j' ≤ j ∧ v = .int .i64 j' ∧ Go.Sort.scanDown (fun x => lt32 e[a]! x) e i' j' = j2 ∧ RH wi blk e ∧ Only blk w wi) (fun v _ => (intOf v).toNat)
          case atStart => exact ⟨j, Nat.le_refl _, rfl, HJ2.out, her3, heo3⟩
          case round =>
            rename World => wj
            obtain ⟨j', hjj, rfl, hsd, her4, heo4⟩ := hrel
            obtain ⟨cb, hcb⟩ : ∃ cb, cb = (decide (i' ≤ j') && lt32 e[a]! e[j']!) := ⟨_, rfl⟩
            have HCB : Hid (cb = (decide (i' ≤ j') && lt32 e[a]! e[j']!)) := hcb
            have hsd2 := hsd
            rw [scanDown_step (by omega)] at hsd2
            have HSD : Hid ((if i' ≤ j' ∧ lt32 e[a]! e[j']! = true then Go.Sort.scanDown (fun x => lt32 e[a]! x) e i' (j' - 1) else j') = j2) := hsd2
            clear hsd hsd2 hcb her3 heo3 HJ2
            go_wp2
            go_cut [59] (fun v wc => v = .bool cb ∧ RH wc blk e ∧ Only blk w wc)
            case first =>
              by_cases hle : i' ≤ j'
              · have hle' : (i' : Int) ≤ (j' : Int) := by omega
                have hin : j' < n := by omega
                have ca := her4.cell (i := a) (by omega)
                have ci := her4.cell (i := j') (by omega)
                obtain ⟨x, hx⟩ : ∃ x, x = e[a]! := ⟨_, rfl⟩
                obtain ⟨y, hy⟩ : ∃ y, y = e[j']! := ⟨_, rfl⟩
                rw [← hx] at ca
                rw [← hy] at ci
                have HXY : Hid (x = e[a]! ∧ y = e[j']!) := ⟨hx, hy⟩
                clear hx hy
                go_region_held3 (fun w' => w'.cell? ⟨blk, a, none⟩ = some (.int .i32 x) ∧ w'.cell? ⟨blk, j', none⟩ = some (.int .i32 y)) (go_keep) (first | (go_at_call 25; refine (less25 _ _ _).mono ?_; rintro r w' ⟨rfl, rfl⟩))
                go_wp2
                go_meet
                case rel => exact ⟨by rw [HCB.out, ← HXY.out.1, ← HXY.out.2]; simp [hle, lt32], her4.drew, heo4.drew⟩
              · have hle' : ¬ (i' : Int) ≤ (j' : Int) := by omega
                go_quiet (fail)
                go_wp2
                go_meet
                case rel => exact ⟨by rw [HCB.out]; simp [hle], her4.below (below_drewN (Below.refl _ _) _), heo4.drewN _⟩
            case rest =>
              obtain ⟨rfl, her5, heo5⟩ := hcut
              rename World => w5
              clear her4 heo4
              cases cb
              · have hstop : j' = j2 := by
                  have := HSD.out
                  rw [if_neg (by have := HCB.out; simp at this; intro hh; have := this hh.1; simp_all)] at this
                  exact this
                subst hstop
                clear HSD HCB
                by_cases hgt : i' > j'
                · have hgt' : (i' : Int) > (j' : Int) := by omega
                  go_wp2
                  have := HST.out
                  rw [if_pos hgt] at this
                  go_ret
                  refine ⟨?_, ?_, heo5⟩
                  · rw [this]; rfl
                  · rw [this]; exact her5
                · have hgt' : ¬ (i' : Int) > (j' : Int) := by omega
                  have hin : i' < n := by omega
                  have hjn2 : j' < n := by omega
                  have ca := her5.cell (i := i') (by omega)
                  have cp := her5.cell (i := j') (by omega)
                  have f0 := her5.frozen
                  have c2 := (her5.set (i := i') (by omega) e[j']!).cell (i := j') (by simp; omega)
                  have c3 := (her5.set (i := j') (by omega) e[i']!).cell (i := i') (by simp; omega)
                  have hsw := her5.swp (i := i') (j := j') (by omega) (by omega)
                  obtain ⟨z2, hz2⟩ : ∃ z, z = (e.setIfInBounds i' e[j']!)[j']! := ⟨_, rfl⟩
                  obtain ⟨z3, hz3⟩ : ∃ z, z = (e.setIfInBounds j' e[i']!)[i']! := ⟨_, rfl⟩
                  rw [← hz2] at c2
                  rw [← hz3] at c3
                  have HSW : Hid (RH ((w5.setCell ⟨blk, i', none⟩ (.int .i32 e[j']!)).setCell ⟨blk, j', none⟩ (.int .i32 e[i']!)) blk (Go.Sort.swp e i' j')) := hsw
                  obtain ⟨x, hx⟩ : ∃ x, x = e[i']! := ⟨_, rfl⟩
                  obtain ⟨y, hy⟩ : ∃ y, y = e[j']! := ⟨_, rfl⟩
                  rw [← hx] at ca
                  rw [← hy] at cp
                  rw [← hy] at c2
                  rw [← hx] at c3
                  rw [← hx, ← hy] at HSW
                  clear hz2 hz3 hx hy hsw
                  have hst2 := HST.out
                  rw [if_neg hgt] at hst2
                  have HRR : Hid (Go.Sort.partEqLoop lt32 a (i' + 1) (j' - 1) (Go.Sort.swp e i' j') = R) := hst2.symm
                  clear hst2 HST
                  go_wp2
                  go_cut [] (fun wc => RH wc blk (Go.Sort.swp e i' j') ∧ Only blk w wc)
                  case first =>
                    go_region
                    all_goals
                      go_wp2
                      go_meet
                      case rel => exact ⟨HSW.out, ((heo5.setCell i' _).setCell j' _).drewN 1⟩
                  case rest =>
                    obtain ⟨hc1, hc2⟩ := hcut
                    clear ca cp c2 c3 f0 HSW her5 heo5
                    go_wp2
                    go_roundw
                    case rel => exact ⟨i' + 1, j' - 1, Go.Sort.swp e i' j', by omega, by omega, by omega, by go_num, by go_num, by rw [swp_size]; exact hes, hc1, HRR.out, hc2⟩
                    case measure => simp [intOf]; omega
              · have hgo2 : i' ≤ j' ∧ lt32 e[a]! e[j']! = true := by have := HCB.out; simp at this; exact ⟨this.1, this.2⟩
                have hnx := HSD.out
                rw [if_pos hgo2] at hnx
                have HNX : Hid (Go.Sort.scanDown (fun x => lt32 e[a]! x) e i' (j' - 1) = j2) := hnx
                clear hnx HSD
                go_wp2
                go_roundw
                case rel => exact ⟨j' - 1, by omega, by go_num, HNX.out, her5, heo5⟩
                case measure => simp [intOf]; omega
        · have hgo2 : i' ≤ j ∧ (!lt32 e[a]! e[i']!) = true := by have := HCB.out; simp at this; exact ⟨this.1, by simp [this.2]⟩
          have hnx := HSC.out
          rw [if_pos hgo2] at hnx
          have HNX : Hid (Go.Sort.scanUp (fun x => !lt32 e[a]! x) e j (i' + 1) = i2) := hnx
          clear hnx
          go_wp2
          go_roundw
          case rel => exact ⟨i' + 1, by omega, by omega, by go_num, HNX.out, her3, heo3⟩
          case measure => simp [intOf]; omega
end Go.Proofs.Yboneofkt
