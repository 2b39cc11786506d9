/-
  partitionOrdered.
-/
import Derived.Test.YboneofktPeqD
namespace Go.Proofs.Yboneofkt
open Go.RowKit

/-- the loop of partition, one round on. -/
theorem part_step {a i j : Nat} {e : Array Int} {i2 j2 : Nat} (h1 : Go.Sort.scanUp (fun x => lt32 x e[a]!) e j i = i2) (h2 : Go.Sort.scanDown (fun x => !lt32 x e[a]!) e i2 j = j2) :
    Go.Sort.partLoop lt32 a i j e = if i2 > j2 then (j2, e) else Go.Sort.partLoop lt32 a (i2 + 1) (j2 - 1) (Go.Sort.swp e i2 j2) := by
  conv => lhs; unfold Go.Sort.partLoop
  simp only [h1, h2]
  have g1 := scanUp_ge (fun x => lt32 x e[a]!) e j (j + 1 - i) i (Nat.le_refl _)
  have g2 := scanDown_le (fun x => !lt32 x e[a]!) e i2 j
  rw [h1] at g1
  rw [h2] at g2
  by_cases hg : i2 > j2
  · rw [if_pos hg, if_pos hg]
  · rw [if_neg hg, if_neg hg, dif_pos (by omega)]

theorem partition_eq {d : Array Int} {a b pv i j : Nat} {e : Array Int} (he : e = Go.Sort.swp d a pv) (hi : Go.Sort.scanUp (fun x => lt32 x e[a]!) e (b - 1) (a + 1) = i) (hj : Go.Sort.scanDown (fun x => !lt32 x e[a]!) e i (b - 1) = j) :
    Go.Sort.partition lt32 d a b pv = if i > j then (j, true, Go.Sort.swp e j a) else ((Go.Sort.partLoop lt32 a (i + 1) (j - 1) (Go.Sort.swp e i j)).1, false, Go.Sort.swp (Go.Sort.partLoop lt32 a (i + 1) (j - 1) (Go.Sort.swp e i j)).2 (Go.Sort.partLoop lt32 a (i + 1) (j - 1) (Go.Sort.swp e i j)).1 a) := by
  unfold Go.Sort.partition
  simp only [← he, hi, hj]

set_option maxRecDepth 20000 in
set_option maxHeartbeats 8000000 in
theorem part_any (blk n cap a b pv : Nat) (d : Array Int) (w : World) (hn : d.size = n) (hap : a ≤ pv) (hpb : pv < b) (hb : b ≤ n) (hbig : n ≤ 1000000) (h : RH w blk d) :
    Calls Ybgt.prog 27 #[.slice (some ⟨blk, 0, none⟩) n cap, .int .i64 a, .int .i64 b, .int .i64 pv] w fun r w' => r = .returned (.tuple #[.int .i64 ((Go.Sort.partition lt32 d a b pv).1 : Int), .bool (Go.Sort.partition lt32 d a b pv).2.1]) ∧ RH w' blk (Go.Sort.partition lt32 d a b pv).2.2 ∧ Only blk w w' := by
  obtain ⟨R, hR⟩ : ∃ R, R = Go.Sort.partition lt32 d a b pv := ⟨_, rfl⟩
  rw [← hR]
  obtain ⟨bm, hbm⟩ : ∃ bm : Nat, (b : Int) - 1 = bm := ⟨b - 1, by omega⟩
  obtain ⟨e, he⟩ : ∃ e, e = Go.Sort.swp d a pv := ⟨_, rfl⟩
  obtain ⟨i2, hi2⟩ : ∃ i2, Go.Sort.scanUp (fun x => lt32 x e[a]!) e bm (a + 1) = i2 := ⟨_, rfl⟩
  obtain ⟨j2, hj2⟩ : ∃ j2, Go.Sort.scanDown (fun x => !lt32 x e[a]!) e i2 bm = j2 := ⟨_, rfl⟩
  have hbe : b - 1 = bm := by omega
  have hst := partition_eq (i := i2) (j := j2) (b := b) he (by rw [hbe]; exact hi2) (by rw [hbe]; exact hj2)
  rw [← hR] at hst
  have HST : Hid (R = if i2 > j2 then (j2, true, Go.Sort.swp e j2 a) else ((Go.Sort.partLoop lt32 a (i2 + 1) (j2 - 1) (Go.Sort.swp e i2 j2)).1, false, Go.Sort.swp (Go.Sort.partLoop lt32 a (i2 + 1) (j2 - 1) (Go.Sort.swp e i2 j2)).2 (Go.Sort.partLoop lt32 a (i2 + 1) (j2 - 1) (Go.Sort.swp e i2 j2)).1 a)) := hst
  have HI2 : Hid (Go.Sort.scanUp (fun x => lt32 x e[a]!) e bm (a + 1) = i2) := hi2
  have HJ2 : Hid (Go.Sort.scanDown (fun x => !lt32 x e[a]!) e i2 bm = j2) := hj2
  have g1 := scanUp_ge (fun x => lt32 x e[a]!) e bm (bm + 1 - (a + 1)) (a + 1) (Nat.le_refl _)
  have g2 := scanDown_le (fun x => !lt32 x e[a]!) e i2 bm
  rw [hi2] at g1
  rw [hj2] at g2
  have g3 := scanDown_ge (fun x => !lt32 x e[a]!) e i2 (by omega) bm
  rw [hj2] at g3
  have hes : e.size = n := by rw [he, swp_size]; exact hn
  have HE : Hid (Go.Sort.swp d a pv = e) := he.symm
  clear hst hi2 hj2 hR he
  have han : a < n := by omega
  have hpn : pv < n := by omega
  have hbn : bm < n := by omega
  have hbm2 : a ≤ bm := by omega
  have ca := h.cell (i := a) (by omega)
  have cp := h.cell (i := pv) (by omega)
  have f0 := h.frozen
  have c2 := (h.set (i := a) (by omega) d[pv]!).cell (i := pv) (by simp; omega)
  have c3 := (h.set (i := pv) (by omega) d[a]!).cell (i := a) (by simp; omega)
  have hsw := h.swp (i := a) (j := pv) (by omega) (by omega)
  obtain ⟨z2, hz2⟩ : ∃ z, z = (d.setIfInBounds a d[pv]!)[pv]! := ⟨_, rfl⟩
  obtain ⟨z3, hz3⟩ : ∃ z, z = (d.setIfInBounds pv d[a]!)[a]! := ⟨_, rfl⟩
  rw [← hz2] at c2
  rw [← hz3] at c3
  have HSW : Hid (RH ((w.setCell ⟨blk, a, none⟩ (.int .i32 d[pv]!)).setCell ⟨blk, pv, none⟩ (.int .i32 d[a]!)) blk (Go.Sort.swp d a pv)) := hsw
  obtain ⟨x, hx⟩ : ∃ x, x = d[a]! := ⟨_, rfl⟩
  obtain ⟨y, hy⟩ : ∃ y, y = d[pv]! := ⟨_, rfl⟩
  rw [← hx] at ca
  rw [← hy] at cp
  rw [← hy] at c2
  rw [← hx] at c3
  rw [← hx, ← hy] at HSW
  clear hz2 hz3 hx hy hsw
  go_enter Ybgt.func27, Ybgt.ntmps27
  go_wp2
  go_cut [] (fun wc => RH wc blk (Go.Sort.swp d a pv) ∧ Only blk w wc)
  case first =>
    go_region
    all_goals
      go_wp2
      go_meet
      case rel => exact ⟨HSW.out, (((Only.refl blk w).setCell a _).setCell pv _).drewN 1⟩
  case rest =>
  obtain ⟨hc1, hc2⟩ := hcut
  rename World => w1
  clear ca cp c2 c3 f0 HSW h
  rw [HE.out] at hc1
  go_wp2
  go_loopw [10] (fun v wi => ∃ i' : Nat, (a + 1) ≤ i' ∧ i' ≤ bm + 2 ∧ v = .int .i64 i' ∧ Go.Sort.scanUp (fun x => lt32 x e[a]!) e bm i' = i2 ∧ RH wi blk e ∧ Only blk w wi) (fun v _ => bm + 3 - (intOf v).toNat)
  case atStart => exact ⟨(a + 1), Nat.le_refl _, by omega, by go_num, HI2.out, hc1, hc2⟩
  case round =>
    rename World => wip
    obtain ⟨ip, hiip, hijp, rfl, hsc, herp, heop⟩ := hrel
    obtain ⟨cb, hcb⟩ : ∃ cb, cb = (decide (ip ≤ bm) && lt32 e[ip]! e[a]!) := ⟨_, rfl⟩
    have HCB : Hid (cb = (decide (ip ≤ bm) && lt32 e[ip]! e[a]!)) := hcb
    have hsc2 := hsc
    rw [scanUp_step] at hsc2
    have HSC : Hid ((if ip ≤ bm ∧ (lt32 e[ip]! e[a]!) = true then Go.Sort.scanUp (fun x => lt32 x e[a]!) e bm (ip + 1) else ip) = i2) := hsc2
    clear hsc hsc2 hcb HI2 hc1 hc2
    go_wp2
    go_cut [43] (fun v wc => v = .bool cb ∧ RH wc blk e ∧ Only blk w wc)
    case first =>
      by_cases hle : ip ≤ bm
      · have hle' : (ip : Int) ≤ (bm : Int) := by omega
        have hin : ip < n := by omega
        have ca := herp.cell (i := ip) (by omega)
        have ci := herp.cell (i := a) (by omega)
        obtain ⟨x, hx⟩ : ∃ x, x = e[ip]! := ⟨_, rfl⟩
        obtain ⟨y, hy⟩ : ∃ y, y = e[a]! := ⟨_, rfl⟩
        rw [← hx] at ca
        rw [← hy] at ci
        have HXY : Hid (x = e[ip]! ∧ y = e[a]!) := ⟨hx, hy⟩
        clear hx hy
        go_region_held3 (fun w' => w'.cell? ⟨blk, ip, none⟩ = some (.int .i32 x) ∧ w'.cell? ⟨blk, a, none⟩ = some (.int .i32 y)) (go_keep) (first | (go_at_call 25; refine (less25 _ _ _).mono ?_; rintro r w' ⟨rfl, rfl⟩))
        go_wp2
        go_meet
        case rel => exact ⟨by rw [HCB.out, ← HXY.out.1, ← HXY.out.2]; simp [hle, lt32], herp.drew, heop.drew⟩
      · have hle' : ¬ (ip : Int) ≤ (bm : Int) := by omega
        go_quiet (fail)
        go_wp2
        go_meet
        case rel => exact ⟨by rw [HCB.out]; simp [hle], herp.below (below_drewN (Below.refl _ _) _), heop.drewN _⟩
    case rest =>
      obtain ⟨rfl, herp, heop⟩ := hcut
      rename World => wkp
      cases cb
      · have hstop : ip = i2 := by
          have := HSC.out
          rw [if_neg (by have := HCB.out; simp at this; intro hh; have := this hh.1; simp_all)] at this
          exact this
        subst hstop
        clear HSC HCB
        go_wp2
        go_loopw [11] (fun v wi => ∃ j' : Nat, j' ≤ bm ∧ v = .int .i64 j' ∧ Go.Sort.scanDown (fun x => !lt32 x e[a]!) e ip j' = j2 ∧ RH wi blk e ∧ Only blk w wi) (fun v _ => (intOf v).toNat)
        case atStart => exact ⟨bm, Nat.le_refl _, by go_num, HJ2.out, herp, heop⟩
        case round =>
          rename World => wjq
          obtain ⟨jq, hjjq, rfl, hsd, herq, heoq⟩ := hrel
          obtain ⟨cb, hcb⟩ : ∃ cb, cb = (decide (ip ≤ jq) && !lt32 e[jq]! e[a]!) := ⟨_, rfl⟩
          have HCB : Hid (cb = (decide (ip ≤ jq) && !lt32 e[jq]! e[a]!)) := hcb
          have hsd2 := hsd
          rw [scanDown_step (by omega)] at hsd2
          have HSD : Hid ((if ip ≤ jq ∧ (!lt32 e[jq]! e[a]!) = true then Go.Sort.scanDown (fun x => !lt32 x e[a]!) e ip (jq - 1) else jq) = j2) := hsd2
          clear hsd hsd2 hcb HJ2
          go_wp2
          go_cut [60] (fun v wc => v = .bool cb ∧ RH wc blk e ∧ Only blk w wc)
          case first =>
            by_cases hle : ip ≤ jq
            · have hle' : (ip : Int) ≤ (jq : Int) := by omega
              have hin : jq < n := by omega
              have ca := herq.cell (i := jq) (by omega)
              have ci := herq.cell (i := a) (by omega)
              obtain ⟨x, hx⟩ : ∃ x, x = e[jq]! := ⟨_, rfl⟩
              obtain ⟨y, hy⟩ : ∃ y, y = e[a]! := ⟨_, rfl⟩
              rw [← hx] at ca
              rw [← hy] at ci
              have HXY : Hid (x = e[jq]! ∧ y = e[a]!) := ⟨hx, hy⟩
              clear hx hy
              go_region_held3 (fun w' => w'.cell? ⟨blk, jq, none⟩ = some (.int .i32 x) ∧ w'.cell? ⟨blk, a, none⟩ = some (.int .i32 y)) (go_keep) (first | (go_at_call 25; refine (less25 _ _ _).mono ?_; rintro r w' ⟨rfl, rfl⟩))
              go_wp2
              go_meet
              case rel => exact ⟨by rw [HCB.out, ← HXY.out.1, ← HXY.out.2]; simp [hle, lt32], herq.drew, heoq.drew⟩
            · have hle' : ¬ (ip : Int) ≤ (jq : Int) := by omega
              go_quiet (fail)
              go_wp2
              go_meet
              case rel => exact ⟨by rw [HCB.out]; simp [hle], herq.below (below_drewN (Below.refl _ _) _), heoq.drewN _⟩
          case rest =>
            obtain ⟨rfl, herq, heoq⟩ := hcut
            rename World => wlq
            cases cb
            · have hstop : jq = j2 := by
                have := HSD.out
                rw [if_neg (by have := HCB.out; simp at this; intro hh; have := this hh.1; simp_all)] at this
                exact this
              subst hstop
              clear HSD HCB
              by_cases hgt : ip > jq
              · have hgt' : (ip : Int) > (jq : Int) := by omega
                have hrr := HST.out
                rw [if_pos hgt] at hrr
                have HRR : Hid (R = (jq, true, Go.Sort.swp e jq a)) := hrr
                have hjl : jq < n := by omega
                clear hrr HST
                have ca := herq.cell (i := jq) (by omega)
                have cp := herq.cell (i := a) (by omega)
                have f0 := herq.frozen
                have c2 := (herq.set (i := jq) (by omega) e[a]!).cell (i := a) (by simp; omega)
                have c3 := (herq.set (i := a) (by omega) e[jq]!).cell (i := jq) (by simp; omega)
                have hsw := herq.swp (i := jq) (j := a) (by omega) (by omega)
                obtain ⟨z2, hz2⟩ : ∃ z, z = (e.setIfInBounds jq e[a]!)[a]! := ⟨_, rfl⟩
                obtain ⟨z3, hz3⟩ : ∃ z, z = (e.setIfInBounds a e[jq]!)[jq]! := ⟨_, rfl⟩
                rw [← hz2] at c2
                rw [← hz3] at c3
                have HSW : Hid (RH ((wlq.setCell ⟨blk, jq, none⟩ (.int .i32 e[a]!)).setCell ⟨blk, a, none⟩ (.int .i32 e[jq]!)) blk (Go.Sort.swp e jq a)) := hsw
                obtain ⟨x, hx⟩ : ∃ x, x = e[jq]! := ⟨_, rfl⟩
                obtain ⟨y, hy⟩ : ∃ y, y = e[a]! := ⟨_, rfl⟩
                rw [← hx] at ca
                rw [← hy] at cp
                rw [← hy] at c2
                rw [← hx] at c3
                rw [← hx, ← hy] at HSW
                clear hz2 hz3 hx hy hsw
                go_wp2
                go_cut [] (fun wc => RH wc blk (Go.Sort.swp e jq a) ∧ Only blk w wc)
                case first =>
                  go_region
                  all_goals
                    go_wp2
                    go_meet
                    case rel => exact ⟨HSW.out, ((heoq.setCell jq _).setCell a _).drewN 1⟩
                case rest =>
                  obtain ⟨hc1, hc2⟩ := hcut
                  go_wp2
                  go_ret2
                  have := HRR.out
                  refine ⟨?_, ?_, hc2⟩
                  · rw [this]; rfl
                  · rw [this]; exact hc1
              · have hgt' : ¬ (ip : Int) > (jq : Int) := by omega
                have hin : ip < n := by omega
                have hjl : jq < n := by omega
                obtain ⟨PL, hPL⟩ : ∃ PL, Go.Sort.partLoop lt32 a (ip + 1) (jq - 1) (Go.Sort.swp e ip jq) = PL := ⟨_, rfl⟩
                have hrr := HST.out
                rw [if_neg hgt, hPL] at hrr
                have HRO : Hid (R = (PL.1, false, Go.Sort.swp PL.2 PL.1 a)) := hrr
                have HPL : Hid (Go.Sort.partLoop lt32 a (ip + 1) (jq - 1) (Go.Sort.swp e ip jq) = PL) := hPL
                clear hrr HST hPL
                have ca := herq.cell (i := ip) (by omega)
                have cp := herq.cell (i := jq) (by omega)
                have f0 := herq.frozen
                have c2 := (herq.set (i := ip) (by omega) e[jq]!).cell (i := jq) (by simp; omega)
                have c3 := (herq.set (i := jq) (by omega) e[ip]!).cell (i := ip) (by simp; omega)
                have hsw := herq.swp (i := ip) (j := jq) (by omega) (by omega)
                obtain ⟨z2, hz2⟩ : ∃ z, z = (e.setIfInBounds ip e[jq]!)[jq]! := ⟨_, rfl⟩
                obtain ⟨z3, hz3⟩ : ∃ z, z = (e.setIfInBounds jq e[ip]!)[ip]! := ⟨_, rfl⟩
                rw [← hz2] at c2
                rw [← hz3] at c3
                have HSW : Hid (RH ((wlq.setCell ⟨blk, ip, none⟩ (.int .i32 e[jq]!)).setCell ⟨blk, jq, none⟩ (.int .i32 e[ip]!)) blk (Go.Sort.swp e ip jq)) := hsw
                obtain ⟨x, hx⟩ : ∃ x, x = e[ip]! := ⟨_, rfl⟩
                obtain ⟨y, hy⟩ : ∃ y, y = e[jq]! := ⟨_, rfl⟩
                rw [← hx] at ca
                rw [← hy] at cp
                rw [← hy] at c2
                rw [← hx] at c3
                rw [← hx, ← hy] at HSW
                clear hz2 hz3 hx hy hsw
                go_wp2
                go_cut [] (fun wc => RH wc blk (Go.Sort.swp e ip jq) ∧ Only blk w wc)
                case first =>
                  go_region
                  all_goals
                    go_wp2
                    go_meet
                    case rel => exact ⟨HSW.out, ((heoq.setCell ip _).setCell jq _).drewN 1⟩
                case rest =>
                  obtain ⟨hc1, hc2⟩ := hcut
                  clear ca cp c2 c3 f0 HSW herq heoq
                  go_wp2
                  go_loopw [10, 11] (fun vi vj wr => ∃ (i j : Nat) (e : Array Int), a + 1 ≤ i ∧ i ≤ j + 2 ∧ j < n ∧ vi = .int .i64 i ∧ vj = .int .i64 j ∧ e.size = n ∧ RH wr blk e ∧ Go.Sort.partLoop lt32 a i j e = PL ∧ Only blk w wr) (fun vi vj _ => (intOf vj + 3 - intOf vi).toNat)
                  case atStart => exact ⟨ip + 1, jq - 1, Go.Sort.swp e ip jq, by omega, by omega, by omega, by go_num, by go_num, by rw [swp_size]; exact hes, hc1, HPL.out, hc2⟩
                  case round =>
                    clear hc1 hc2 HPL hes
                    obtain ⟨i, j, e, hai, hij, hjn, rfl, rfl, hes, her, hee, heo⟩ := hrel
                    obtain ⟨i3, hi2⟩ : ∃ i2, Go.Sort.scanUp (fun x => lt32 x e[a]!) e j i = i2 := ⟨_, rfl⟩
                    obtain ⟨j3, hj2⟩ : ∃ j2, Go.Sort.scanDown (fun x => !lt32 x e[a]!) e i3 j = j2 := ⟨_, rfl⟩
                    have hst := part_step hi2 hj2
                    rw [hee] at hst
                    have HST2 : Hid (PL = if i3 > j3 then (j3, e) else Go.Sort.partLoop lt32 a (i3 + 1) (j3 - 1) (Go.Sort.swp e i3 j3)) := hst
                    have g1 := scanUp_ge (fun x => lt32 x e[a]!) e j (j + 1 - i) i (Nat.le_refl _)
                    have g2 := scanDown_le (fun x => !lt32 x e[a]!) e i3 j
                    rw [hi2] at g1
                    rw [hj2] at g2
                    have HI2 : Hid (Go.Sort.scanUp (fun x => lt32 x e[a]!) e j i = i3) := hi2
                    have HJ2 : Hid (Go.Sort.scanDown (fun x => !lt32 x e[a]!) e i3 j = j3) := hj2
                    clear hst hi2 hj2 hee
                    go_wp2
                    go_loopw [10] (fun v wi => ∃ i' : Nat, i ≤ i' ∧ i' ≤ j + 2 ∧ v = .int .i64 i' ∧ Go.Sort.scanUp (fun x => lt32 x e[a]!) e j i' = i3 ∧ RH wi blk e ∧ Only blk w wi) (fun v _ => j + 3 - (intOf v).toNat)
                    case atStart => exact ⟨i, Nat.le_refl _, by omega, by go_num, HI2.out, her, heo⟩
                    case round =>
                      rename World => wik
                      obtain ⟨ik, hiik, hijk, rfl, hsc, herk, heok⟩ := hrel
                      obtain ⟨cb, hcb⟩ : ∃ cb, cb = (decide (ik ≤ j) && lt32 e[ik]! e[a]!) := ⟨_, rfl⟩
                      have HCB : Hid (cb = (decide (ik ≤ j) && lt32 e[ik]! e[a]!)) := hcb
                      have hsc2 := hsc
                      rw [scanUp_step] at hsc2
                      have HSC : Hid ((if ik ≤ j ∧ (lt32 e[ik]! e[a]!) = true then Go.Sort.scanUp (fun x => lt32 x e[a]!) e j (ik + 1) else ik) = i3) := hsc2
                      clear hsc hsc2 hcb HI2
                      go_wp2
                      go_cut [112] (fun v wc => v = .bool cb ∧ RH wc blk e ∧ Only blk w wc)
                      case first =>
                        by_cases hle : ik ≤ j
                        · have hle' : (ik : Int) ≤ (j : Int) := by omega
                          have hin : ik < n := by omega
                          have ca := herk.cell (i := ik) (by omega)
                          have ci := herk.cell (i := a) (by omega)
                          obtain ⟨x, hx⟩ : ∃ x, x = e[ik]! := ⟨_, rfl⟩
                          obtain ⟨y, hy⟩ : ∃ y, y = e[a]! := ⟨_, rfl⟩
                          rw [← hx] at ca
                          rw [← hy] at ci
                          have HXY : Hid (x = e[ik]! ∧ y = e[a]!) := ⟨hx, hy⟩
                          clear hx hy
                          go_region_held3 (fun w' => w'.cell? ⟨blk, ik, none⟩ = some (.int .i32 x) ∧ w'.cell? ⟨blk, a, none⟩ = some (.int .i32 y)) (go_keep) (first | (go_at_call 25; refine (less25 _ _ _).mono ?_; rintro r w' ⟨rfl, rfl⟩))
                          go_wp2
                          go_meet
                          case rel => exact ⟨by rw [HCB.out, ← HXY.out.1, ← HXY.out.2]; simp [hle, lt32], herk.drew, heok.drew⟩
                        · have hle' : ¬ (ik : Int) ≤ (j : Int) := by omega
                          go_quiet (fail)
                          go_wp2
                          go_meet
                          case rel => exact ⟨by rw [HCB.out]; simp [hle], herk.below (below_drewN (Below.refl _ _) _), heok.drewN _⟩
                      case rest =>
                        obtain ⟨rfl, herk, heok⟩ := hcut
                        rename World => wkk
                        cases cb
                        · have hstop : ik = i3 := by
                            have := HSC.out
                            rw [if_neg (by have := HCB.out; simp at this; intro hh; have := this hh.1; simp_all)] at this
                            exact this
                          subst hstop
                          clear HSC HCB
                          go_wp2
                          go_loopw [11] (fun v wi => ∃ j' : Nat, j' ≤ j ∧ v = .int .i64 j' ∧ Go.Sort.scanDown (fun x => !lt32 x e[a]!) e ik j' = j3 ∧ RH wi blk e ∧ Only blk w wi) (fun v _ => (intOf v).toNat)
                          case atStart => exact ⟨j, Nat.le_refl _, by go_num, HJ2.out, herk, heok⟩
                          case round =>
                            rename World => wjl
                            obtain ⟨jl, hjjl, rfl, hsd, herl, heol⟩ := hrel
                            obtain ⟨cb, hcb⟩ : ∃ cb, cb = (decide (ik ≤ jl) && !lt32 e[jl]! e[a]!) := ⟨_, rfl⟩
                            have HCB : Hid (cb = (decide (ik ≤ jl) && !lt32 e[jl]! e[a]!)) := hcb
                            have hsd2 := hsd
                            rw [scanDown_step (by omega)] at hsd2
                            have HSD : Hid ((if ik ≤ jl ∧ (!lt32 e[jl]! e[a]!) = true then Go.Sort.scanDown (fun x => !lt32 x e[a]!) e ik (jl - 1) else jl) = j3) := hsd2
                            clear hsd hsd2 hcb HJ2
                            go_wp2
                            go_cut [129] (fun v wc => v = .bool cb ∧ RH wc blk e ∧ Only blk w wc)
                            case first =>
                              by_cases hle : ik ≤ jl
                              · have hle' : (ik : Int) ≤ (jl : Int) := by omega
                                have hin : jl < n := by omega
                                have ca := herl.cell (i := jl) (by omega)
                                have ci := herl.cell (i := a) (by omega)
                                obtain ⟨x, hx⟩ : ∃ x, x = e[jl]! := ⟨_, rfl⟩
                                obtain ⟨y, hy⟩ : ∃ y, y = e[a]! := ⟨_, rfl⟩
                                rw [← hx] at ca
                                rw [← hy] at ci
                                have HXY : Hid (x = e[jl]! ∧ y = e[a]!) := ⟨hx, hy⟩
                                clear hx hy
                                go_region_held3 (fun w' => w'.cell? ⟨blk, jl, none⟩ = some (.int .i32 x) ∧ w'.cell? ⟨blk, a, none⟩ = some (.int .i32 y)) (go_keep) (first | (go_at_call 25; refine (less25 _ _ _).mono ?_; rintro r w' ⟨rfl, rfl⟩))
                                go_wp2
                                go_meet
                                case rel => exact ⟨by rw [HCB.out, ← HXY.out.1, ← HXY.out.2]; simp [hle, lt32], herl.drew, heol.drew⟩
                              · have hle' : ¬ (ik : Int) ≤ (jl : Int) := by omega
                                go_quiet (fail)
                                go_wp2
                                go_meet
                                case rel => exact ⟨by rw [HCB.out]; simp [hle], herl.below (below_drewN (Below.refl _ _) _), heol.drewN _⟩
                            case rest =>
                              obtain ⟨rfl, herl, heol⟩ := hcut
                              rename World => wll
                              cases cb
                              · have hstop : jl = j3 := by
                                  have := HSD.out
                                  rw [if_neg (by have := HCB.out; simp at this; intro hh; have := this hh.1; simp_all)] at this
                                  exact this
                                subst hstop
                                clear HSD HCB
                                by_cases hgt : ik > jl
                                · have hgt' : (ik : Int) > (jl : Int) := by omega
                                  have hrr := HST2.out
                                  rw [if_pos hgt] at hrr
                                  have hjl : jl < n := by omega
                                  have ca := herl.cell (i := jl) (by omega)
                                  have cp := herl.cell (i := a) (by omega)
                                  have f0 := herl.frozen
                                  have c2 := (herl.set (i := jl) (by omega) e[a]!).cell (i := a) (by simp; omega)
                                  have c3 := (herl.set (i := a) (by omega) e[jl]!).cell (i := jl) (by simp; omega)
                                  have hsw := herl.swp (i := jl) (j := a) (by omega) (by omega)
                                  obtain ⟨z2, hz2⟩ : ∃ z, z = (e.setIfInBounds jl e[a]!)[a]! := ⟨_, rfl⟩
                                  obtain ⟨z3, hz3⟩ : ∃ z, z = (e.setIfInBounds a e[jl]!)[jl]! := ⟨_, rfl⟩
                                  rw [← hz2] at c2
                                  rw [← hz3] at c3
                                  have HSW : Hid (RH ((wll.setCell ⟨blk, jl, none⟩ (.int .i32 e[a]!)).setCell ⟨blk, a, none⟩ (.int .i32 e[jl]!)) blk (Go.Sort.swp e jl a)) := hsw
                                  obtain ⟨x, hx⟩ : ∃ x, x = e[jl]! := ⟨_, rfl⟩
                                  obtain ⟨y, hy⟩ : ∃ y, y = e[a]! := ⟨_, rfl⟩
                                  rw [← hx] at ca
                                  rw [← hy] at cp
                                  rw [← hy] at c2
                                  rw [← hx] at c3
                                  rw [← hx, ← hy] at HSW
                                  clear hz2 hz3 hx hy hsw
                                  have HRR : Hid (R = (jl, false, Go.Sort.swp e jl a)) := by
                                    show R = _
                                    rw [HRO.out, hrr]
                                  clear hrr HST2 HRO
                                  go_wp2
                                  go_cut [] (fun wc => RH wc blk (Go.Sort.swp e jl a) ∧ Only blk w wc)
                                  case first =>
                                    go_region
                                    all_goals
                                      go_wp2
                                      go_meet
                                      case rel => exact ⟨HSW.out, ((heol.setCell jl _).setCell a _).drewN 1⟩
                                  case rest =>
                                    obtain ⟨hc1, hc2⟩ := hcut
                                    go_wp2
                                    go_ret2
                                    have := HRR.out
                                    refine ⟨?_, ?_, hc2⟩
                                    · rw [this]; rfl
                                    · rw [this]; exact hc1
                                · have hgt' : ¬ (ik : Int) > (jl : Int) := by omega
                                  have hin : ik < n := by omega
                                  have hjl : jl < n := by omega
                                  have ca := herl.cell (i := ik) (by omega)
                                  have cp := herl.cell (i := jl) (by omega)
                                  have f0 := herl.frozen
                                  have c2 := (herl.set (i := ik) (by omega) e[jl]!).cell (i := jl) (by simp; omega)
                                  have c3 := (herl.set (i := jl) (by omega) e[ik]!).cell (i := ik) (by simp; omega)
                                  have hsw := herl.swp (i := ik) (j := jl) (by omega) (by omega)
                                  obtain ⟨z2, hz2⟩ : ∃ z, z = (e.setIfInBounds ik e[jl]!)[jl]! := ⟨_, rfl⟩
                                  obtain ⟨z3, hz3⟩ : ∃ z, z = (e.setIfInBounds jl e[ik]!)[ik]! := ⟨_, rfl⟩
                                  rw [← hz2] at c2
                                  rw [← hz3] at c3
                                  have HSW : Hid (RH ((wll.setCell ⟨blk, ik, none⟩ (.int .i32 e[jl]!)).setCell ⟨blk, jl, none⟩ (.int .i32 e[ik]!)) blk (Go.Sort.swp e ik jl)) := hsw
                                  obtain ⟨x, hx⟩ : ∃ x, x = e[ik]! := ⟨_, rfl⟩
                                  obtain ⟨y, hy⟩ : ∃ y, y = e[jl]! := ⟨_, rfl⟩
                                  rw [← hx] at ca
                                  rw [← hy] at cp
                                  rw [← hy] at c2
                                  rw [← hx] at c3
                                  rw [← hx, ← hy] at HSW
                                  clear hz2 hz3 hx hy hsw
                                  have hst2 := HST2.out
                                  rw [if_neg hgt] at hst2
                                  have HRR : Hid (Go.Sort.partLoop lt32 a (ik + 1) (jl - 1) (Go.Sort.swp e ik jl) = PL) := hst2.symm
                                  clear hst2 HST2
                                  go_wp2
                                  go_cut [] (fun wc => RH wc blk (Go.Sort.swp e ik jl) ∧ Only blk w wc)
                                  case first =>
                                    go_region
                                    all_goals
                                      go_wp2
                                      go_meet
                                      case rel => exact ⟨HSW.out, ((heol.setCell ik _).setCell jl _).drewN 1⟩
                                  case rest =>
                                    obtain ⟨hc1, hc2⟩ := hcut
                                    clear ca cp c2 c3 f0 HSW herl heol
                                    go_wp2
                                    go_roundw
                                    case rel => exact ⟨ik + 1, jl - 1, Go.Sort.swp e ik jl, by omega, by omega, by omega, by go_num, by go_num, by rw [swp_size]; exact hes, hc1, HRR.out, hc2⟩
                                    case measure => simp [intOf]; omega
                              · have hgo2 : ik ≤ jl ∧ (!lt32 e[jl]! e[a]!) = true := by have := HCB.out; simp at this; exact ⟨this.1, by simp [this.2]⟩
                                have hnx := HSD.out
                                rw [if_pos hgo2] at hnx
                                have HNX : Hid (Go.Sort.scanDown (fun x => !lt32 x e[a]!) e ik (jl - 1) = j3) := hnx
                                clear hnx HSD
                                go_wp2
                                go_roundw
                                case rel => exact ⟨jl - 1, by omega, by go_num, HNX.out, herl, heol⟩
                                case measure => simp [intOf]; omega
                        · have hgo2 : ik ≤ j ∧ (lt32 e[ik]! e[a]!) = true := by have := HCB.out; simp at this; exact ⟨this.1, by simp [this.2]⟩
                          have hnx := HSC.out
                          rw [if_pos hgo2] at hnx
                          have HNX : Hid (Go.Sort.scanUp (fun x => lt32 x e[a]!) e j (ik + 1) = i3) := hnx
                          clear hnx HSC
                          go_wp2
                          go_roundw
                          case rel => exact ⟨ik + 1, by omega, by omega, by go_num, HNX.out, herk, heok⟩
                          case measure => simp [intOf]; omega
            · have hgo2 : ip ≤ jq ∧ (!lt32 e[jq]! e[a]!) = true := by have := HCB.out; simp at this; exact ⟨this.1, by simp [this.2]⟩
              have hnx := HSD.out
              rw [if_pos hgo2] at hnx
              have HNX : Hid (Go.Sort.scanDown (fun x => !lt32 x e[a]!) e ip (jq - 1) = j2) := hnx
              clear hnx HSD
              go_wp2
              go_roundw
              case rel => exact ⟨jq - 1, by omega, by go_num, HNX.out, herq, heoq⟩
              case measure => simp [intOf]; omega
      · have hgo2 : ip ≤ bm ∧ (lt32 e[ip]! e[a]!) = true := by have := HCB.out; simp at this; exact ⟨this.1, by simp [this.2]⟩
        have hnx := HSC.out
        rw [if_pos hgo2] at hnx
        have HNX : Hid (Go.Sort.scanUp (fun x => lt32 x e[a]!) e bm (ip + 1) = i2) := hnx
        clear hnx HSC
        go_wp2
        go_roundw
        case rel => exact ⟨ip + 1, by omega, by omega, by go_num, HNX.out, herp, heop⟩
        case measure => simp [intOf]; omega
end Go.Proofs.Yboneofkt
