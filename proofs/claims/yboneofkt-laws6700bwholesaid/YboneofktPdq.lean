/-
  pdqsortOrdered[int32], slices.Sort[int32] (the kit's worked walk at int, turned to this program).
-/
import Derived.Test.YboneofktBrk
import Derived.Sort.Walk13a
import Derived.Sort.LotD4
import Derived.Deep.Cut
namespace Go.Proofs.Yboneofkt
open Go.RowKit Go.Sort

def AtR (w : World) (blk : Nat) (d : Array Int) (wr : World) : Prop := RH wr blk d ∧ Only blk w wr
theorem AtR.trans {w w1 w2 : World} {blk : Nat} {d d' : Array Int} (h : AtR w blk d w1) (k : RH w2 blk d' ∧ Only blk w1 w2) : AtR w blk d' w2 := ⟨k.1, h.2.trans k.2⟩
theorem AtR.drewN {w w1 : World} {blk : Nat} {d : Array Int} (h : AtR w blk d w1) (q : Nat) : AtR w blk d (w1.drewN q) := ⟨h.1.below (below_drewN (Below.refl _ _) _), h.2.drewN q⟩
theorem lt32_eq : lt32 = ltInt := rfl
theorem hintv_eq : hintv = hintCode := by funext h; cases h <;> rfl
theorem hintCode_two {h : Hint} (e : hintCode h = 2) : h = .decreasing := by cases h <;> simp [hintCode] at e ⊢
theorem eighth {x y p q : Nat} (h1 : q ≤ p) (h2 : y ≤ x) : decide (((x : Int) - (y : Int)) / 8 ≤ (p : Int) - (q : Int)) = decide (p - q ≥ (x - y) / 8) :=
  decide_eq_decide.2 ⟨fun h => by omega, fun h => by omega⟩

set_option maxHeartbeats 6400000 in
set_option maxRecDepth 1000000 in
theorem pdq_go : ∀ (N blk cap a b limit : Nat) (d : Array Int) (w : World), b - a < N → RH w blk d → a ≤ b → b ≤ d.size → d.size ≤ 1000000 → limit < 4611686018427387904 → Sort.Below ltInt a b d →
    Calls Ybgt.prog 15 #[.slice (some ⟨blk, 0, none⟩) d.size cap, .int .i64 a, .int .i64 b, .int .i64 limit] w fun e w' => e = .returned (.tuple #[]) ∧ AtR w blk (pdq ltInt d a b limit true true) w' := by
  intro N
  induction N with
  | zero => intro _ _ _ _ _ _ _ h; exact absurd h (Nat.not_lt_zero _)
  | succ N ih =>
    intro blk cap a b limit d w hN hH hab hb hsz hlimit hBel0
    go_enter Ybgt.func15, Ybgt.ntmps15
    go_wp2
    go_loopg [1, 2, 3, 8, 9] (b - a) (fun k s1 s2 s3 s8 s9 wr => ∃ (a' b' lim : Nat) (wb wp : Bool) (dk : Array Int), s1 = .int .i64 a' ∧ s2 = .int .i64 b' ∧ s3 = .int .i64 lim ∧ s8 = .bool wb ∧ s9 = .bool wp ∧
      a' ≤ b' ∧ b' ≤ d.size ∧ b' - a' ≤ k ∧ k ≤ b - a ∧ lim ≤ limit ∧ dk.size = d.size ∧ Sort.Below ltInt a' b' dk ∧ AtR w blk dk wr ∧ pdq ltInt dk a' b' lim wb wp = pdq ltInt d a b limit true true)
    case atStart => exact ⟨a, b, limit, true, true, d, rfl, rfl, rfl, rfl, rfl, hab, hb, Nat.le_refl _, Nat.le_refl _, Nat.le_refl _, rfl, hBel0, ⟨hH, Only.refl _ _⟩, rfl⟩
    case round =>
      obtain ⟨a', b', lim, wb, wp, dk, rfl, rfl, rfl, rfl, rfl, hab', hb', hk, hkN, hlim, hds, hBel, hAt, heq⟩ := hrel
      have hHk := hAt.1
      have A : Hid (pdq ltInt dk a' b' lim wb wp = pdq ltInt d a b limit true true) := heq
      clear heq
      by_cases h12 : b' - a' ≤ 12
      ·
        have h12z : (b' : Int) - (a' : Int) ≤ 12 := by omega
        have hc := insertion_any blk d.size cap a' b' dk wr hds hab' (by omega) (by omega) hHk
        go_wp2_with (go_at_call 19; refine hc.mono ?_; rintro e w1 ⟨rfl, hw1⟩)
        (try simp only [Exit.inBlock, Exit.then]); refine bodyPost_ret (results_none rfl _ _ _) rfl ?_
        refine ⟨rfl, ?_⟩
        rw [← A.out, pdq_small h12]
        exact hAt.trans hw1
      · have h12z : ¬ ((b' : Int) - (a' : Int) ≤ 12) := by omega
        by_cases hl0 : lim = 0
        ·
          subst hl0
          have hc := heap_any blk d.size cap a' b' dk wr hds (by omega) (by omega) (by omega) hHk
          go_wp2_with (go_at_call 20; refine hc.mono ?_; rintro e w1 ⟨rfl, hw1⟩)
          (try simp only [Exit.inBlock, Exit.then]); refine bodyPost_ret (results_none rfl _ _ _) rfl ?_
          refine ⟨rfl, ?_⟩
          rw [← A.out, pdq_heap h12 rfl]
          exact hAt.trans hw1
        · have hl0z : ¬ ((lim : Int) = 0) := by omega
          obtain ⟨s1, B1, hc1, s2, B2, hpv, s3, B3⟩ := rd_facts (limit := lim) (wb := wb) (wp := wp) swo_ltInt partialInsertionSort_holds reverseRange_holds (show a' < b' by omega) (show b' ≤ dk.size by omega) hBel
          go_upto_if 35 with fail
          go_cut [3] from 19 (fun s3 wc => s3 = .int .i64 (rd ltInt dk a' b' lim wb wp).lim ∧ AtR w blk (rd ltInt dk a' b' lim wb wp).d1 wc)
          case first =>
            cases wb
            · have hc := brk_any blk d.size cap a' b' dk wr hds hab' (by omega) (by omega) hHk
              go_wp2_with (go_at_call 21; refine hc.mono ?_; rintro e w1 ⟨rfl, hw1⟩)
              go_meet
              case rel =>
                refine ⟨?_, hAt.trans hw1⟩
                show Value.int .i64 ((lim : Int) - 1) = Value.int .i64 ((lim - 1 : Nat) : Int)
                congr 1
                omega
            · go_wp2_with fail
              go_meet
              case rel => exact ⟨rfl, hAt⟩
          case rest =>
            obtain ⟨rfl, hAt1⟩ := hcut
            have hH1 := hAt1.1
            have hc17 : Calls Ybgt.prog 22 #[.slice (some ⟨blk, 0, none⟩) d.size cap, .int .i64 a', .int .i64 b'] wc fun e w' => e = .returned (.tuple #[.int .i64 (rd ltInt dk a' b' lim wb wp).c.1, .int .i64 (hintCode (rd ltInt dk a' b' lim wb wp).c.2)]) ∧ Go.RowKit.Below wc.heap.size wc w' := by
              have := pivot_any blk d.size cap a' b' (rd ltInt dk a' b' lim wb wp).d1 wc (s1.trans hds) (by omega) (by omega) (by omega) hH1
              rw [hintv_eq] at this
              exact this
            go_upto_if 50 with (go_at_call 22; refine hc17.mono ?_; rintro e w2 ⟨rfl, hw2⟩)
            have hAt2 : AtR w blk (rd ltInt dk a' b' lim wb wp).d1 w2 := ⟨hAt1.1.below hw2, hAt1.2.below hw2⟩
            have hH2 := hAt2.1
            go_cut [11, 12] from 19 (fun s11 s12 wc => s11 = .int .i64 (rd ltInt dk a' b' lim wb wp).pivot ∧ s12 = .int .i64 (hintCode (rd ltInt dk a' b' lim wb wp).hint) ∧ AtR w blk (rd ltInt dk a' b' lim wb wp).d2 wc)
            case first =>
              by_cases hh : (rd ltInt dk a' b' lim wb wp).c.2 = .decreasing
              · have hcode : hintCode (rd ltInt dk a' b' lim wb wp).c.2 = 2 := by rw [hh]; rfl
                obtain ⟨e2, epv, eht⟩ := rd_dec hh
                have hc18 := reverse_any blk d.size cap a' b' (rd ltInt dk a' b' lim wb wp).d1 w2 (s1.trans hds) (by omega) (by omega) (by omega) hH2
                go_wp2_with (go_at_call 23; refine hc18.mono ?_; rintro e w3 ⟨rfl, hw3⟩)
                go_meet
                case rel =>
                  refine ⟨?_, by rw [eht]; rfl, by rw [e2]; exact hAt2.trans hw3⟩
                  rw [epv]
                  congr 1
                  omega
              · have hcode : ¬ (hintCode (rd ltInt dk a' b' lim wb wp).c.2 = 2) := fun h => hh (hintCode_two h)
                obtain ⟨e2, epv, eht⟩ := rd_not hh
                go_wp2_with fail
                go_meet
                case rel => exact ⟨by rw [epv], by rw [eht], by rw [e2]; exact hAt2⟩
            case rest =>
              obtain ⟨rfl, rfl, hAt3⟩ := hcut
              have hH3 := hAt3.1
              go_upto_region 15 with fail
              go_cut [12, 68] from 19 (fun s12 s68 wx => s12 = .int .i64 (hintCode (rd ltInt dk a' b' lim wb wp).hint) ∧ s68 = .bool (wb && wp && decide ((rd ltInt dk a' b' lim wb wp).hint = .increasing)) ∧ wx = wc)
              case first =>
                cases wb <;> cases wp <;> cases hh3 : (rd ltInt dk a' b' lim _ _).hint <;>
                  (have hcode3 := congrArg hintCode hh3
                   simp only [hintCode] at hcode3
                   go_wp2_with fail
                   go_meet
                   exact ⟨by simp [hh3, hintCode], by simp [hh3, hintCode], rfl⟩)
              case rest =>
                obtain ⟨rfl, rfl, rfl⟩ := hcut
                go_upto_if 68 with fail
                go_cut [] from 19 (fun wx => (rd ltInt dk a' b' lim wb wp).pi.2 = false ∧ AtR w blk (rd ltInt dk a' b' lim wb wp).pi.1 wx)
                case first =>
                  cases h68 : (wb && wp && decide ((rd ltInt dk a' b' lim wb wp).hint = .increasing))
                  · have epi := rd_pi_no h68
                    go_wp2_with fail
                    go_meet
                    case rel => exact ⟨by rw [epi], by rw [epi]; exact hAt3⟩
                  · have epi := rd_pi_yes h68
                    have hc19 := pis_any blk d.size cap a' b' (rd ltInt dk a' b' lim wb wp).d2 wc (s2.trans hds) (by omega) (by omega) (by omega) hH3
                    rw [lt32_eq, ← epi] at hc19
                    go_wp2_with (go_at_call 24; refine hc19.mono ?_; rintro e w4 ⟨rfl, hw4⟩)
                    all_goals first
                      | (have hp2 : (rd ltInt dk a' b' lim wb wp).pi.2 = false := by rw [epi]; assumption
                         go_meet
                         exact ⟨hp2, hAt3.trans hw4⟩)
                      | (have hp2 : (rd ltInt dk a' b' lim wb wp).pi.2 = true := by rw [epi]; assumption
                         (try simp only [Exit.inBlock, Exit.then]); refine bodyPost_ret (results_none rfl _ _ _) rfl ?_
                         refine ⟨rfl, ?_⟩
                         rw [← A.out, pdq_done h12 hl0 hp2]
                         exact hAt3.trans hw4)
                case rest =>
                  obtain ⟨hp2, hAt5⟩ := hcut
                  have hH5 := hAt5.1.holds
                  go_upto_region 17 with fail
                  go_cut [87] from 19 (fun s87 wx => s87 = .bool (decide (a' > 0) && !ltInt (rd ltInt dk a' b' lim wb wp).pi.1[a' - 1]! (rd ltInt dk a' b' lim wb wp).pi.1[(rd ltInt dk a' b' lim wb wp).pivot]!) ∧ AtR w blk (rd ltInt dk a' b' lim wb wp).pi.1 wx)
                  case first =>
                    rcases Nat.eq_zero_or_pos a' with ha0 | ha0
                    · have ha0z : decide ((a' : Int) > 0) = false := decide_eq_false (by omega)
                      go_big_quiet (first | (go_at_call 25; refine Calls.quiet_of_same (less25L _ _ _)))
                      go_wp2_with fail
                      go_meet
                      case rel => exact ⟨by simp [ha0], hAt5.drewN nq⟩
                    · have ha0z : (a' : Int) > 0 := by omega
                      obtain ⟨am, ham⟩ : ∃ am : Nat, (a' : Int) - 1 = am := ⟨a' - 1, by omega⟩
                      have haml : am < d.size := by omega
                      have hpvl : (rd ltInt dk a' b' lim wb wp).pivot < d.size := by omega
                      have c1 := hAt5.1.cell (i := am) (by omega)
                      have c2 := hAt5.1.cell (i := (rd ltInt dk a' b' lim wb wp).pivot) (by omega)
                      obtain ⟨x, hx⟩ : ∃ x, x = (rd ltInt dk a' b' lim wb wp).pi.1[am]! := ⟨_, rfl⟩
                      obtain ⟨y, hy⟩ : ∃ y, y = (rd ltInt dk a' b' lim wb wp).pi.1[(rd ltInt dk a' b' lim wb wp).pivot]! := ⟨_, rfl⟩
                      rw [← hx] at c1
                      rw [← hy] at c2
                      have HXY : Hid (x = (rd ltInt dk a' b' lim wb wp).pi.1[a' - 1]! ∧ y = (rd ltInt dk a' b' lim wb wp).pi.1[(rd ltInt dk a' b' lim wb wp).pivot]!) := ⟨by rw [hx, show a' - 1 = am by omega], hy⟩
                      clear hx hy
                      go_big_quiet (first | (go_at_call 25; refine Calls.quiet_of_same (less25L _ _ _)))
                      go_wp2_with fail
                      go_meet
                      case rel => exact ⟨by rw [← HXY.out.1, ← HXY.out.2]; simp [ha0], hAt5.drewN nq⟩
                  case rest =>
                    obtain ⟨rfl, hAt6⟩ := hcut
                    have hH6 := hAt6.1
                    cases h87 : (decide (a' > 0) && !ltInt (rd ltInt dk a' b' lim wb wp).pi.1[a' - 1]! (rd ltInt dk a' b' lim wb wp).pi.1[(rd ltInt dk a' b' lim wb wp).pivot]!)
                    ·
                      obtain ⟨mid, ap, d4, hx⟩ : ∃ mid ap d4, partition ltInt (rd ltInt dk a' b' lim wb wp).pi.1 a' b' (rd ltInt dk a' b' lim wb wp).pivot = (mid, ap, d4) := ⟨(partition ltInt (rd ltInt dk a' b' lim wb wp).pi.1 a' b' (rd ltInt dk a' b' lim wb wp).pivot).1, (partition ltInt (rd ltInt dk a' b' lim wb wp).pi.1 a' b' (rd ltInt dk a' b' lim wb wp).pivot).2.1, (partition ltInt (rd ltInt dk a' b' lim wb wp).pi.1 a' b' (rd ltInt dk a' b' lim wb wp).pivot).2.2, rfl⟩
                      obtain ⟨r1, r2, r3, r4, r5, r6, r7⟩ := round_part swo_ltInt (partition_holds _) hpv.1 hpv.2 (show b' ≤ (rd ltInt dk a' b' lim wb wp).pi.1.size by omega) B3 hx
                      have hc22 := part_any blk d.size cap a' b' (rd ltInt dk a' b' lim wb wp).pivot (rd ltInt dk a' b' lim wb wp).pi.1 wc (s3.trans hds) hpv.1 hpv.2 (by omega) (by omega) hH6
                      rw [lt32_eq, hx] at hc22
                      have X : Hid (partition ltInt (rd ltInt dk a' b' lim wb wp).pi.1 a' b' (rd ltInt dk a' b' lim wb wp).pivot = (mid, ap, d4)) := hx
                      clear hx
                      go_upto_if 113 with (go_at_call 27; refine hc22.mono ?_; rintro e w7 ⟨rfl, hw7⟩)
                      have hx := X.out
                      have hAt7 : AtR w blk d4 w7 := hAt6.trans hw7
                      have hH7 := hAt7.1
                      by_cases h4 : mid - a' < b' - mid
                      · have h4z : (mid : Int) - (a' : Int) < (b' : Int) - (mid : Int) := by omega
                        have hih := ih blk cap a' mid (rd ltInt dk a' b' lim wb wp).lim d4 w7 (by omega) hH7 (by omega) (by omega) (by omega) (Nat.lt_of_le_of_lt (Nat.le_trans rd_lim_le hlim) hlimit) r4
                        rw [r3, s3, hds] at hih
                        obtain ⟨pL, sL⟩ := pdq_sorts _ swo_ltInt d4 a' mid (rd ltInt dk a' b' lim wb wp).lim true true (by omega) (by omega) r4
                        go_wp2_with (go_at_call 15; refine hih.mono ?_; rintro e w8 ⟨rfl, hw8⟩)
                        go_roundg (b' - (mid + 1))
                        case measure => omega
                        case rel =>
                          refine ⟨mid + 1, b', (rd ltInt dk a' b' lim wb wp).lim, decide (mid - a' ≥ (b' - a') / 8), ap, pdq ltInt d4 a' mid (rd ltInt dk a' b' lim wb wp).lim true true, by simp, rfl, rfl, ?_, rfl, by omega, by omega, Nat.le_refl _, by omega, Nat.le_trans rd_lim_le hlim, by rw [pL.1, r3, s3, hds], (r6 _ pL sL).1, hAt7.trans hw8, ?_⟩
                          · exact congrArg Value.bool (eighth (by omega) (by omega))
                          · rw [← A.out, pdq_left h12 hl0 hp2 h87 (by rw [hx]; exact ⟨r1, r2⟩) (by rw [hx]; exact h4), hx]
                      · have h4z : ¬ ((mid : Int) - (a' : Int) < (b' : Int) - (mid : Int)) := by omega
                        have hih := ih blk cap (mid + 1) b' (rd ltInt dk a' b' lim wb wp).lim d4 w7 (by omega) hH7 (by omega) (by omega) (by omega) (Nat.lt_of_le_of_lt (Nat.le_trans rd_lim_le hlim) hlimit) r5
                        rw [r3, s3, hds] at hih
                        obtain ⟨pL, sL⟩ := pdq_sorts _ swo_ltInt d4 (mid + 1) b' (rd ltInt dk a' b' lim wb wp).lim true true (by omega) (by omega) r5
                        go_wp2_with (go_at_call 15; refine hih.mono ?_; rintro e w8 ⟨rfl, hw8⟩)
                        go_roundg (mid - a')
                        case measure => omega
                        case rel =>
                          refine ⟨a', mid, (rd ltInt dk a' b' lim wb wp).lim, decide (b' - mid ≥ (b' - a') / 8), ap, pdq ltInt d4 (mid + 1) b' (rd ltInt dk a' b' lim wb wp).lim true true, rfl, rfl, rfl, ?_, rfl, by omega, by omega, Nat.le_refl _, by omega, Nat.le_trans rd_lim_le hlim, by rw [pL.1, r3, s3, hds], (r7 _ pL sL).1, hAt7.trans hw8, ?_⟩
                          · exact congrArg Value.bool (eighth (by omega) (by omega))
                          · rw [← A.out, pdq_right h12 hl0 hp2 h87 (by rw [hx]; exact ⟨r1, r2⟩) (by rw [hx]; exact h4), hx]
                    ·
                      have h87' := h87
                      simp only [Bool.and_eq_true, decide_eq_true_eq, Bool.not_eq_true'] at h87'
                      obtain ⟨mid, d4, hx⟩ : ∃ mid d4, partitionEqual ltInt (rd ltInt dk a' b' lim wb wp).pi.1 a' b' (rd ltInt dk a' b' lim wb wp).pivot = (mid, d4) := ⟨(partitionEqual ltInt (rd ltInt dk a' b' lim wb wp).pi.1 a' b' (rd ltInt dk a' b' lim wb wp).pivot).1, (partitionEqual ltInt (rd ltInt dk a' b' lim wb wp).pi.1 a' b' (rd ltInt dk a' b' lim wb wp).pivot).2, rfl⟩
                      obtain ⟨r1, r2, r3, r4, _⟩ := round_eq swo_ltInt (partitionEqual_holds _) h87'.1 hpv.1 hpv.2 (show b' ≤ (rd ltInt dk a' b' lim wb wp).pi.1.size by omega) B3 h87'.2 hx
                      have hc21 := peq_any blk d.size cap a' b' (rd ltInt dk a' b' lim wb wp).pivot (rd ltInt dk a' b' lim wb wp).pi.1 wc (s3.trans hds) hpv.1 hpv.2 (by omega) (by omega) hH6
                      rw [lt32_eq, hx] at hc21
                      have X : Hid (partitionEqual ltInt (rd ltInt dk a' b' lim wb wp).pi.1 a' b' (rd ltInt dk a' b' lim wb wp).pivot = (mid, d4)) := hx
                      clear hx
                      go_wp2_with (go_at_call 26; refine hc21.mono ?_; rintro e w7 ⟨rfl, hw7⟩)
                      go_roundg (b' - mid)
                      case measure => omega
                      case rel =>
                        have hx := X.out
                        exact ⟨mid, b', (rd ltInt dk a' b' lim wb wp).lim, wb, wp, d4, rfl, rfl, rfl, rfl, rfl, r2, hb', Nat.le_refl _, by omega, Nat.le_trans rd_lim_le hlim, by rw [r3, s3, hds], r4, hAt6.trans hw7, by rw [← A.out, pdq_eq h12 hl0 hp2 h87 (by rw [hx]; exact ⟨r1, r2⟩), hx]⟩

set_option maxRecDepth 100000 in
theorem sort_any (blk n cap : Nat) (d : Array Int) (w : World) (hn : d.size = n) (hbig : n ≤ 1000000) (h : RH w blk d) :
    Calls Ybgt.prog 8 #[.slice (some ⟨blk, 0, none⟩) n cap] w fun e w' => e = .returned (.tuple #[]) ∧ RH w' blk (Sort.sort ltInt d) ∧ Only blk w w' := by
  subst hn
  have HH : Hid (RH w blk d) := h
  clear h
  have hLen : ∀ w, Calls Ybgt.prog 16 #[.int .u64 (d.size : Int)] w fun e w' => e = .returned (.int .i64 (bitsLen d.size : Nat)) ∧ w' = w := fun w => by
    have h := bitsLen16 (d.size : Int) w (by omega) (by omega)
    rwa [Int.toNat_natCast, bitLen_eq _ (by omega)] at h
  have hk : bitsLen d.size ≤ 62 := (bitsLen_le_iff d.size 62).2 (by omega)
  go_enter Ybgt.func8, Ybgt.ntmps8
  go_wp2_with (first
    | (go_at_call 16; refine (hLen _).mono ?_; rintro e w' ⟨rfl, rfl⟩)
    | (go_at_call 15; refine (pdq_go _ blk cap 0 d.size (bitsLen d.size) d _ (Nat.lt_succ_self _) (by exact HH.out) (Nat.zero_le _) (Nat.le_refl _) hbig (by omega) (Or.inl rfl)).mono ?_; rintro e w' ⟨rfl, hat⟩))
  go_end0
  exact ⟨rfl, hat⟩
end Go.Proofs.Yboneofkt
