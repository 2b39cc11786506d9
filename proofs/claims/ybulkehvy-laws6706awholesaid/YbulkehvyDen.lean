/-
  denominator.
-/
import Derived.Test.YbulkehvyLeaf
namespace Go.Proofs.Ybulkehvy
open Go.RowKit

/-- a Decimal of scale 0. -/
abbrev decv (n : Int) (q : Option Addr) : Value := .agg #[.int .i64 n, .pointer q, .int .i32 0]

/-- its sign, asked in whatever world comes after w. -/
def SignIs (w : World) (v : Value) (k : Int) : Prop := ∀ W, Below w.heap.size w W → Calls Yba.prog 6 #[v] W fun e w' => e = .returned (.int .i64 k) ∧ Below W.heap.size W w'

/-- the answer. -/
def denv (kb km b0 : Int) (qb : Option Addr) : Value × Bool := if 0 < kb then (decv b0 qb, true) else if kb = 0 ∧ km = 0 then (decv 1 none, true) else (decv 0 none, false)

theorem res_den (tmps : Array Value) (w : World) (g : Nat) (cs : Array Value) (hp : tmps.getD 4 undef = .pointer (some ⟨g, 0, none⟩)) (hg : w.heap[g]? = some (.cells cs 24)) (hi : (Yba.prog.info? 24).map (·.size) = some cs.size) : (results Yba.f5 tmps).run Yba.prog w = .ok (.tuple #[.agg cs, tmps.getD 5 undef]) w := by
  rw [results_cell_tmp (p := 4) (u := 5) (ty := 24) rfl, hp]
  simp [asAddr, run_loadVar_row w g 24 24 cs (0, 0) _ hg Yba.underlying24 rfl hi]

set_option maxHeartbeats 2000000 in
theorem den_any (m0 b0 km kb : Int) (qm qb : Option Addr) (w : World) (hm : SignIs w (decv m0 qm) km) (hb : SignIs w (decv b0 qb) kb) :
    Calls Yba.prog 5 #[decv m0 qm, decv b0 qb] w fun e w' => e = .returned (.tuple #[(denv kb km b0 qb).1, .bool (denv kb km b0 qb).2]) ∧ Below w.heap.size w w' := by
  obtain ⟨W0, hW0⟩ : ∃ W0, W0 = ((w.alloc (.cells #[.int .i64 m0, .pointer qm, .int .i32 0] 24)).alloc (.cells #[.int .i64 b0, .pointer qb, .int .i32 0] 24)).alloc (.cells #[.int .i64 0, .pointer none, .int .i32 0] 24) := ⟨_, rfl⟩
  have hB0 : Below w.heap.size w W0 := by rw [hW0]; exact (((Below.refl _ _).alloc (Nat.le_refl _) _).alloc (by simp) _).alloc (by simp; omega) _
  have hs0 : W0.heap.size = w.heap.size + 3 := by rw [hW0]; simp
  have e0 : W0.heap[w.heap.size]? = some (.cells #[.int .i64 m0, .pointer qm, .int .i32 0] 24) := by rw [hW0, Below.heap_alloc _ _ _ (by simp; omega), Below.heap_alloc _ _ _ (by simp)]; exact heap_alloc_new _ _
  have e1 : W0.heap[w.heap.size + 1]? = some (.cells #[.int .i64 b0, .pointer qb, .int .i32 0] 24) := by
    rw [hW0, Below.heap_alloc _ _ _ (by simp)]
    have := heap_alloc_new (w.alloc (.cells #[.int .i64 m0, .pointer qm, .int .i32 0] 24)) (.cells #[.int .i64 b0, .pointer qb, .int .i32 0] 24)
    rw [World.size_alloc] at this
    exact this
  have e2 : W0.heap[w.heap.size + 1 + 1]? = some (.cells #[.int .i64 0, .pointer none, .int .i32 0] 24) := by
    rw [hW0]
    have := heap_alloc_new ((w.alloc (.cells #[.int .i64 m0, .pointer qm, .int .i32 0] 24)).alloc (.cells #[.int .i64 b0, .pointer qb, .int .i32 0] 24)) (.cells #[.int .i64 0, .pointer none, .int .i32 0] 24)
    rw [World.size_alloc, World.size_alloc] at this
    exact this
  have HH : Hid (∀ X, Below W0.heap.size W0 X → X.heap[w.heap.size]? = some (.cells #[.int .i64 m0, .pointer qm, .int .i32 0] 24) ∧ X.heap[w.heap.size + 1]? = some (.cells #[.int .i64 b0, .pointer qb, .int .i32 0] 24) ∧ X.heap[w.heap.size + 1 + 1]? = some (.cells #[.int .i64 0, .pointer none, .int .i32 0] 24) ∧ Below w.heap.size w X) := fun X hX =>
    ⟨(hX.block _ (by omega)).trans e0, (hX.block _ (by omega)).trans e1, (hX.block _ (by omega)).trans e2, hB0.trans (hX.mono (by omega))⟩
  have HM : Hid (SignIs w (decv m0 qm) km) := hm
  have HB : Hid (SignIs w (decv b0 qb) kb) := hb
  have hb1 := hb W0 hB0
  have HW0 : Hid (W0 = ((w.alloc (.cells #[.int .i64 m0, .pointer qm, .int .i32 0] 24)).alloc (.cells #[.int .i64 b0, .pointer qb, .int .i32 0] 24)).alloc (.cells #[.int .i64 0, .pointer none, .int .i32 0] 24)) := hW0
  have c0 : W0.cell? ⟨w.heap.size + 1, 0, none⟩ = some (.int .i64 b0) := by rw [cell_of e1]; rfl
  have c1 : W0.cell? ⟨w.heap.size + 1, 1, none⟩ = some (.pointer qb) := by rw [cell_of e1]; rfl
  have c2 : W0.cell? ⟨w.heap.size + 1, 2, none⟩ = some (.int .i32 0) := by rw [cell_of e1]; rfl
  clear hm hb hW0 e0 e1 e2
  go_enter Yba.func5, Yba.ntmps5
  go_upto_region 1 with (fail)
  rw [← HW0.out]
  go_cut [6] (fun v wc => v = .bool (decide (0 < kb)) ∧ Below W0.heap.size W0 wc)
  case first =>
    go_wp2_with (go_at_call 6; refine hb1.mono ?_; rintro e w' ⟨rfl, hbel⟩)
    go_meet
    case rel => exact ⟨rfl, hbel⟩
  case rest =>
    obtain ⟨rfl, hc1⟩ := hcut
    rename World => w1
    clear c0 c1 c2 hb1
    have t := HH.out _ hc1
    have xb := t.1
    have yb := t.2.1
    have zb := t.2.2.1
    have hbw := t.2.2.2
    clear t
    have x0 : w1.cell? ⟨w.heap.size, 0, none⟩ = some (.int .i64 m0) := by rw [cell_of xb]; rfl
    have x1 : w1.cell? ⟨w.heap.size, 1, none⟩ = some (.pointer qm) := by rw [cell_of xb]; rfl
    have x2 : w1.cell? ⟨w.heap.size, 2, none⟩ = some (.int .i32 0) := by rw [cell_of xb]; rfl
    have y0 : w1.cell? ⟨w.heap.size + 1, 0, none⟩ = some (.int .i64 b0) := by rw [cell_of yb]; rfl
    have y1 : w1.cell? ⟨w.heap.size + 1, 1, none⟩ = some (.pointer qb) := by rw [cell_of yb]; rfl
    have y2 : w1.cell? ⟨w.heap.size + 1, 2, none⟩ = some (.int .i32 0) := by rw [cell_of yb]; rfl
    have z0 : w1.cell? ⟨w.heap.size + 1 + 1, 0, none⟩ = some (.int .i64 0) := by rw [cell_of zb]; rfl
    have z1 : w1.cell? ⟨w.heap.size + 1 + 1, 1, none⟩ = some (.pointer none) := by rw [cell_of zb]; rfl
    have z2 : w1.cell? ⟨w.heap.size + 1 + 1, 2, none⟩ = some (.int .i32 0) := by rw [cell_of zb]; rfl
    have zf : ∀ q, w1.frozen? ⟨w.heap.size + 1 + 1, q, none⟩ = false := frozen_of zb
    have HZ : Hid (w1.heap[w.heap.size + 1 + 1]? = some (.cells #[.int .i64 0, .pointer none, .int .i32 0] 24)) := zb
    clear xb yb zb
    by_cases hk : 0 < kb
    · have hd : denv kb km b0 qb = (decv b0 qb, true) := by unfold denv; rw [if_pos hk]
      have HD : Hid (denv kb km b0 qb = (decv b0 qb, true)) := hd
      clear hd
      go_wp2
      refine bodyPost_ret_by (res_den _ _ (w.heap.size + 1 + 1) #[.int .i64 b0, .pointer qb, .int .i32 0] rfl (heap_set (heap_set (heap_set HZ.out 0 _) 1 _) 2 _) (by kernel_rfl)) rfl ⟨by rw [HD.out]; rfl, ?_⟩
      exact ((hbw.setCell (by show w.heap.size ≤ w.heap.size + 1 + 1; omega) _).setCell (by show w.heap.size ≤ w.heap.size + 1 + 1; omega) _).setCell (by show w.heap.size ≤ w.heap.size + 1 + 1; omega) _
    · have hb2 := HB.out w1 hbw
      rw [show decide (0 < kb) = false by simpa using hk]
      go_upto_region 3 with (fail)
      go_cut [11] (fun v wc => v = .bool (decide (kb = 0) && decide (km = 0)) ∧ Below W0.heap.size W0 wc)
      case first =>
        have hw1 : W0.heap.size ≤ w1.heap.size := hc1.size
        by_cases hk0 : kb = 0
        · have HX : Hid (∀ X, Below w1.heap.size w1 X → X.cell? ⟨w.heap.size, 0, none⟩ = some (.int .i64 m0) ∧ X.cell? ⟨w.heap.size, 1, none⟩ = some (.pointer qm) ∧ X.cell? ⟨w.heap.size, 2, none⟩ = some (.int .i32 0) ∧ Below w.heap.size w X) := fun X hX =>
            ⟨(hX.cell (p := ⟨w.heap.size, 0, none⟩) (by show w.heap.size < _; omega)).trans x0, (hX.cell (p := ⟨w.heap.size, 1, none⟩) (by show w.heap.size < _; omega)).trans x1, (hX.cell (p := ⟨w.heap.size, 2, none⟩) (by show w.heap.size < _; omega)).trans x2, hbw.trans (hX.mono (by omega))⟩
          have hk0' : (kb == 0) = true := by simpa using hk0
          go_wp2_with (go_at_call 6; first | (refine hm2.mono ?_; rintro e w'' ⟨rfl, hbel3⟩) | (refine hb2.mono ?_; rintro e w' ⟨rfl, hbel2⟩; have kk := HX.out _ hbel2; have k0 := kk.1; have k1 := kk.2.1; have k2 := kk.2.2.1; have hm2 := HM.out _ kk.2.2.2; clear kk))
          go_meet
          case rel => exact ⟨by simp [hk0]; first | rfl | (cases h : decide (km = 0) <;> simp_all), hc1.trans ((hbel2.mono hw1).trans (hbel3.mono (by have := hbel2.size; omega)))⟩
        · have hk0' : (kb == 0) = false := by simpa using hk0
          go_wp2_with (go_at_call 6; refine hb2.mono ?_; rintro e w' ⟨rfl, hbel2⟩)
          go_meet
          case rel => exact ⟨by simp [hk0], hc1.trans (hbel2.mono hw1)⟩
      case rest =>
        obtain ⟨rfl, hc2⟩ := hcut
        rename World => w2
        clear x0 x1 x2 y0 y1 y2 z0 z1 z2 zf HZ hbw
        have t := HH.out _ hc2
        have xb := t.1
        have yb := t.2.1
        have zb := t.2.2.1
        have hbw := t.2.2.2
        clear t
        have x0 : w2.cell? ⟨w.heap.size, 0, none⟩ = some (.int .i64 m0) := by rw [cell_of xb]; rfl
        have x1 : w2.cell? ⟨w.heap.size, 1, none⟩ = some (.pointer qm) := by rw [cell_of xb]; rfl
        have x2 : w2.cell? ⟨w.heap.size, 2, none⟩ = some (.int .i32 0) := by rw [cell_of xb]; rfl
        have y0 : w2.cell? ⟨w.heap.size + 1, 0, none⟩ = some (.int .i64 b0) := by rw [cell_of yb]; rfl
        have y1 : w2.cell? ⟨w.heap.size + 1, 1, none⟩ = some (.pointer qb) := by rw [cell_of yb]; rfl
        have y2 : w2.cell? ⟨w.heap.size + 1, 2, none⟩ = some (.int .i32 0) := by rw [cell_of yb]; rfl
        have z0 : w2.cell? ⟨w.heap.size + 1 + 1, 0, none⟩ = some (.int .i64 0) := by rw [cell_of zb]; rfl
        have z1 : w2.cell? ⟨w.heap.size + 1 + 1, 1, none⟩ = some (.pointer none) := by rw [cell_of zb]; rfl
        have z2 : w2.cell? ⟨w.heap.size + 1 + 1, 2, none⟩ = some (.int .i32 0) := by rw [cell_of zb]; rfl
        have zf : ∀ q, w2.frozen? ⟨w.heap.size + 1 + 1, q, none⟩ = false := frozen_of zb
        have HZ : Hid (w2.heap[w.heap.size + 1 + 1]? = some (.cells #[.int .i64 0, .pointer none, .int .i32 0] 24)) := zb
        clear xb yb zb
        by_cases hk2 : kb = 0 ∧ km = 0
        · have hd : denv kb km b0 qb = (decv 1 none, true) := by unfold denv; rw [if_neg hk, if_pos hk2]
          have HD : Hid (denv kb km b0 qb = (decv 1 none, true)) := hd
          have hkk : (decide (kb = 0) && decide (km = 0)) = true := by simp [hk2]
          clear hd
          have h1 := from_small 1 (by omega) w2
          have hw2 : W0.heap.size ≤ w2.heap.size := hc2.size
          have HX : Hid (∀ X, Below w2.heap.size w2 X → X.heap[w.heap.size + 1 + 1]? = some (.cells #[.int .i64 0, .pointer none, .int .i32 0] 24) ∧ Below w.heap.size w X) := fun X hX => ⟨(hX.block _ (by omega)).trans HZ.out, hbw.trans (hX.mono (by omega))⟩
          go_wp2_with (go_at_call 4; refine h1.mono ?_; rintro e w' ⟨rfl, hbel4⟩; have kk := HX.out _ hbel4; have k0 : w'.cell? ⟨w.heap.size + 1 + 1, 0, none⟩ = some (.int .i64 0) := (by rw [cell_of kk.1]; rfl); have k1 : w'.cell? ⟨w.heap.size + 1 + 1, 1, none⟩ = some (.pointer none) := (by rw [cell_of kk.1]; rfl); have k2 : w'.cell? ⟨w.heap.size + 1 + 1, 2, none⟩ = some (.int .i32 0) := (by rw [cell_of kk.1]; rfl); have kf : ∀ q, w'.frozen? ⟨w.heap.size + 1 + 1, q, none⟩ = false := frozen_of kk.1; clear kk)
          have kk := HX.out _ hbel4
          refine bodyPost_ret_by (res_den _ _ (w.heap.size + 1 + 1) #[.int .i64 1, .pointer none, .int .i32 0] rfl (heap_set (heap_set (heap_set kk.1 0 _) 1 _) 2 _) (by kernel_rfl)) rfl ⟨by rw [HD.out]; rfl, ?_⟩
          exact ((kk.2.setCell (by show w.heap.size ≤ w.heap.size + 1 + 1; omega) _).setCell (by show w.heap.size ≤ w.heap.size + 1 + 1; omega) _).setCell (by show w.heap.size ≤ w.heap.size + 1 + 1; omega) _
        · have hd : denv kb km b0 qb = (decv 0 none, false) := by unfold denv; rw [if_neg hk, if_neg hk2]
          have HD : Hid (denv kb km b0 qb = (decv 0 none, false)) := hd
          clear hd
          have hkk : (decide (kb = 0) && decide (km = 0)) = false := by simp; omega
          go_wp2
          refine bodyPost_ret_by (res_den _ _ (w.heap.size + 1 + 1) #[.int .i64 0, .pointer none, .int .i32 0] rfl (heap_set (heap_set (heap_set HZ.out 0 _) 1 _) 2 _) (by kernel_rfl)) rfl ⟨by rw [HD.out]; rfl, ?_⟩
          exact ((hbw.setCell (by show w.heap.size ≤ w.heap.size + 1 + 1; omega) _).setCell (by show w.heap.size ≤ w.heap.size + 1 + 1; omega) _).setCell (by show w.heap.size ≤ w.heap.size + 1 + 1; omega) _
end Go.Proofs.Ybulkehvy
