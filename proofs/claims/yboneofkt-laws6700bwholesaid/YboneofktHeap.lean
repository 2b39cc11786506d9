/-
  siftDownOrdered, heapSortOrdered.
-/
import Derived.Test.YboneofktPiv
namespace Go.Proofs.Yboneofkt
open Go.RowKit

theorem wrapN (x : Nat) (h : x ≤ 100000000) : IntKind.i64.wrap (x : Int) = (x : Int) := by
  unfold IntKind.wrap
  simp [IntKind.signed, IntKind.bits]
  omega

/-- the child that is looked at. -/
def chld (hi first root : Nat) (e : Array Int) : Nat := if 2 * root + 1 + 1 < hi && lt32 e[first + (2 * root + 1)]! e[first + (2 * root + 1) + 1]! then 2 * root + 2 else 2 * root + 1

theorem chld_lt {hi first root : Nat} {e : Array Int} (h : 2 * root + 1 < hi) : chld hi first root e < hi ∧ root < chld hi first root e := by
  unfold chld
  split
  · rename_i hc
    simp at hc
    omega
  · omega

theorem siftDown_out {hi first root : Nat} {e : Array Int} (h : hi ≤ 2 * root + 1) : Go.Sort.siftDown lt32 hi first root e = e := by
  unfold Go.Sort.siftDown
  rw [dif_pos h]

theorem siftDown_step {hi first root : Nat} {e : Array Int} (h : 2 * root + 1 < hi) : Go.Sort.siftDown lt32 hi first root e =
    if lt32 e[first + root]! e[first + chld hi first root e]! then Go.Sort.siftDown lt32 hi first (chld hi first root e) (Go.Sort.swp e (first + root) (first + chld hi first root e)) else e := by
  conv => lhs; unfold Go.Sort.siftDown
  rw [dif_neg (by omega)]
  unfold chld
  by_cases hc : (decide (2 * root + 1 + 1 < hi) && lt32 e[first + (2 * root + 1)]! e[first + (2 * root + 1) + 1]!) = true
  · rw [if_pos hc, if_pos hc]
    have h2 : 2 * root + 2 < hi := by simp at hc; omega
    cases lt32 e[first + root]! e[first + (2 * root + 2)]!
    · simp
    · simp [h2]
  · rw [if_neg hc, if_neg hc]
    cases lt32 e[first + root]! e[first + (2 * root + 1)]!
    · simp
    · simp

set_option maxHeartbeats 4000000 in
theorem sift_any (blk n cap lo hi first : Nat) (d : Array Int) (w : World) (hn : d.size = n) (hf : first + hi ≤ n) (hbig : n ≤ 1000000) (hlo : lo ≤ n) (h : RH w blk d) :
    Calls Ybgt.prog 38 #[.slice (some ⟨blk, 0, none⟩) n cap, .int .i64 lo, .int .i64 hi, .int .i64 first] w fun r w' => r = .returned (.tuple #[]) ∧ RH w' blk (Go.Sort.siftDown lt32 hi first lo d) ∧ Only blk w w' := by
  go_enter Ybgt.func38, Ybgt.ntmps38
  go_wp2
  go_loopw [8] (fun v wr => ∃ (root : Nat) (e : Array Int), root ≤ n ∧ v = .int .i64 root ∧ e.size = n ∧ RH wr blk e ∧ Go.Sort.siftDown lt32 hi first root e = Go.Sort.siftDown lt32 hi first lo d ∧ Only blk w wr) (fun v _ => hi - (intOf v).toNat)
  case atStart => exact ⟨lo, d, hlo, rfl, hn, h, rfl, Only.refl _ _⟩
  case round =>
    obtain ⟨root, e, hrn, rfl, hes, her, hee, heo⟩ := hrel
    obtain ⟨c, hc⟩ : ∃ c : Nat, 2 * (root : Int) + 1 = c := ⟨2 * root + 1, by omega⟩
    have hcn : 2 * root + 1 = c := by omega
    by_cases hch : c < hi
    · have hch' : (c : Int) < (hi : Int) := by omega
      have hstep := siftDown_step (hi := hi) (first := first) (root := root) (e := e) (by omega)
      have hcl := chld_lt (hi := hi) (first := first) (root := root) (e := e) (by omega)
      obtain ⟨ch, hchd⟩ : ∃ ch, ch = chld hi first root e := ⟨_, rfl⟩
      rw [← hchd] at hstep hcl
      rw [hee] at hstep
      have HST : Hid (Go.Sort.siftDown lt32 hi first lo d = if lt32 e[first + root]! e[first + ch]! then Go.Sort.siftDown lt32 hi first ch (Go.Sort.swp e (first + root) (first + ch)) else e) := hstep
      unfold chld at hchd
      rw [hcn] at hchd
      have hchd2 : ch = if decide (c + 1 < hi) && lt32 e[first + c]! e[first + c + 1]! then c + 1 else c := by rw [hchd, show 2 * root + 2 = c + 1 by omega]
      have HCH : Hid (ch = if decide (c + 1 < hi) && lt32 e[first + c]! e[first + c + 1]! then c + 1 else c) := hchd2
      clear hstep hchd hchd2 hee h
      go_upto_region 3 with (fail)
      obtain ⟨fc, hfc⟩ : ∃ fc : Nat, (first : Int) + (c : Int) = fc := ⟨first + c, by omega⟩
      obtain ⟨c1, hc1⟩ : ∃ c1 : Nat, (c : Int) + 1 = c1 := ⟨c + 1, by omega⟩
      obtain ⟨fc1, hfc1⟩ : ∃ fc1 : Nat, (fc : Int) + 1 = fc1 := ⟨fc + 1, by omega⟩
      have w1 := wrapN fc (by omega)
      have w2 := wrapN c1 (by omega)
      have w3 := wrapN fc1 (by omega)
      have cfc := her.cell (i := fc) (by omega)
      obtain ⟨x, hx⟩ : ∃ x, x = e[fc]! := ⟨_, rfl⟩
      rw [← hx] at cfc
      have HFC : Hid (first + c = fc ∧ c + 1 = c1 ∧ fc + 1 = fc1 ∧ x = e[fc]!) := ⟨by omega, by omega, by omega, hx⟩
      have hfn : fc < n := by omega
      clear hc hcn hx
      go_cut [36] (fun v wc => v = .bool (decide (c + 1 < hi) && lt32 e[first + c]! e[first + c + 1]!) ∧ ∃ q, wc = wr.drewN q)
      case first =>
        by_cases hc2 : c1 < hi
        · have hc2' : (c1 : Int) < (hi : Int) := by omega
          have hfn1 : fc1 < n := by omega
          have cfc1 := her.cell (i := fc1) (by omega)
          obtain ⟨y, hy⟩ : ∃ y, y = e[fc1]! := ⟨_, rfl⟩
          rw [← hy] at cfc1
          have HY : Hid (y = e[fc1]!) := hy
          clear hy
          go_region_held3 (fun w' => w'.cell? ⟨blk, fc, none⟩ = some (.int .i32 x) ∧ w'.cell? ⟨blk, fc1, none⟩ = some (.int .i32 y)) (go_keep) (first | (go_at_call 25; refine (less25 _ _ _).mono ?_; rintro r w' ⟨rfl, rfl⟩))
          go_wp2
          go_meet
          case rel =>
            refine ⟨?_, 1, rfl⟩
            have e1 := HFC.out
            rw [e1.1, e1.2.2.1, e1.2.1]
            simp [hc2, lt32, e1.2.2.2, HY.out]
        · have hc2' : ¬ (c1 : Int) < (hi : Int) := by omega
          go_quiet (fail)
          go_wp2
          go_meet
          case rel =>
            refine ⟨?_, _, rfl⟩
            have e1 := HFC.out
            rw [e1.2.1]
            simp [hc2]
      case rest =>
        obtain ⟨rfl, q, rfl⟩ := hcut
        have her2 : RH (wr.drewN q) blk e := her.below (below_drewN (Below.refl _ _) _)
        have heo2 : Only blk w (wr.drewN q) := heo.drewN q
        obtain ⟨cb, hcb⟩ : ∃ cb, cb = (decide (c + 1 < hi) && lt32 e[first + c]! e[first + c + 1]!) := ⟨_, rfl⟩
        rw [← hcb]
        have HC2 : Hid (ch = if cb = true then c1 else c) := by rw [hcb, ← HFC.out.2.1]; exact HCH.out
        clear hcb HCH her heo cfc hfc1 hfc
        generalize wr.drewN q = w4 at *
        go_upto_if 36 with (fail)
        go_cut [9] (fun v wc => v = .int .i64 ch ∧ wc = w4)
        case first =>
          cases cb
          · have e1 := HC2.out
            simp only [Bool.false_eq_true, if_false] at e1
            subst e1
            go_wp2
            go_meet
            case rel => exact ⟨rfl, rfl⟩
          · have e1 := HC2.out
            simp only [if_true] at e1
            subst e1
            go_wp2
            go_meet
            case rel => exact ⟨rfl, rfl⟩
        case rest =>
          obtain ⟨rfl, rfl⟩ := hcut
          rename World => w4
          obtain ⟨fr, hfr⟩ : ∃ fr : Nat, (first : Int) + (root : Int) = fr := ⟨first + root, by omega⟩
          obtain ⟨fh, hfh⟩ : ∃ fh : Nat, (first : Int) + (ch : Int) = fh := ⟨first + ch, by omega⟩
          have v1 := wrapN fr (by omega)
          have v2 := wrapN fh (by omega)
          have hfrn : fr < n := by omega
          have hfhn : fh < n := by omega
          have cr := her2.cell (i := fr) (by omega)
          have chh := her2.cell (i := fh) (by omega)
          have f0 := her2.frozen
          obtain ⟨y, hy⟩ : ∃ y, y = e[fr]! := ⟨_, rfl⟩
          obtain ⟨z, hz⟩ : ∃ z, z = e[fh]! := ⟨_, rfl⟩
          rw [← hy] at cr
          rw [← hz] at chh
          have HYZ : Hid (y = e[fr]! ∧ z = e[fh]! ∧ first + root = fr ∧ first + ch = fh) := ⟨hy, hz, by omega, by omega⟩
          have hll : decide (y < z) = lt32 e[first + root]! e[first + ch]! := by rw [HYZ.out.2.2.1, HYZ.out.2.2.2, ← hy, ← hz]; rfl
          clear hy hz w1 w2 w3
          cases hl : lt32 e[first + root]! e[first + ch]!
          · rw [hl] at hll
            have hE : Go.Sort.siftDown lt32 hi first lo d = e := by rw [HST.out, hl]; simp
            have HE : Hid (Go.Sort.siftDown lt32 hi first lo d = e) := hE
            clear hE HST
            go_wp2
            go_region_held3 (fun w' => w'.cell? ⟨blk, fr, none⟩ = some (.int .i32 y) ∧ w'.cell? ⟨blk, fh, none⟩ = some (.int .i32 z)) (go_keep) (first | (go_at_call 25; refine (less25 _ _ _).mono ?_; rintro r w' ⟨rfl, rfl⟩))
            go_wp2
            first | go_end0 | refine bodyPost_ret (results_none rfl _ _ _) rfl ?_
            exact ⟨rfl, by rw [HE.out]; exact her2.drew, heo2.drew⟩
          · rw [hl] at hll
            have hE : Go.Sort.siftDown lt32 hi first ch (Go.Sort.swp e fr fh) = Go.Sort.siftDown lt32 hi first lo d := by rw [HST.out, hl, if_pos rfl, HYZ.out.2.2.1, HYZ.out.2.2.2]
            have HE : Hid (Go.Sort.siftDown lt32 hi first ch (Go.Sort.swp e fr fh) = Go.Sort.siftDown lt32 hi first lo d) := hE
            clear hE HST
            go_wp2
            go_cut [52] (fun v wc => v = .bool false ∧ wc = w4.drew)
            case first =>
              go_region_held3 (fun w' => w'.cell? ⟨blk, fr, none⟩ = some (.int .i32 y) ∧ w'.cell? ⟨blk, fh, none⟩ = some (.int .i32 z)) (go_keep) (first | (go_at_call 25; refine (less25 _ _ _).mono ?_; rintro r w' ⟨rfl, rfl⟩))
              go_wp2
              go_meet
              case rel => exact ⟨rfl, rfl⟩
            case rest =>
              obtain ⟨rfl, rfl⟩ := hcut
              go_wp2
              go_region
              go_wp2
              go_roundw
              case rel =>
                refine ⟨ch, Go.Sort.swp e fr fh, by omega, rfl, by rw [swp_size]; exact hes, ?_, HE.out, ((heo2.setCell fr (.int .i32 z)).setCell fh (.int .i32 y)).drewN 2⟩
                have hr2 := (her2.set (i := fr) (by omega) z).set (i := fh) (by simp; omega) y
                have hsw : (e.setIfInBounds fr z).setIfInBounds fh y = Go.Sort.swp e fr fh := by rw [HYZ.out.1, HYZ.out.2.1]; rfl
                rw [hsw] at hr2
                exact hr2
              case measure => simp [intOf]; omega
    · have hch' : ¬ (c : Int) < (hi : Int) := by omega
      have hE : e = Go.Sort.siftDown lt32 hi first lo d := by rw [← hee, siftDown_out (by omega)]
      have hci : hi ≤ c := by omega
      clear hee h
      go_wp2
      first | go_end0 | refine bodyPost_ret (results_none rfl _ _ _) rfl ?_
      exact ⟨rfl, by rw [← hE]; exact her, heo⟩
end Go.Proofs.Yboneofkt
