/-
  retime where a shorter interval holds: a gap is drawn.
-/
import Derived.Test.YbulkehseTx
import Derived.Deep.DrawnRows
namespace Go.Proofs.Ybulkehse
open Go.RowKit
attribute [local go_sem ↓] Go.wp_at_zero Go.wp_at_succ

theorem wrapEq (x : Int) : IntKind.i64.wrap x = wrap64 x := by simp only [wrap64, IntKind.wrap_i64]

/-- when the next packet is due then. -/
def nextv (now next last g : Int) : Int := if now < (if wrap64 (last + g) < next then wrap64 (last + g) else next) then (if wrap64 (last + g) < next then wrap64 (last + g) else next) else now

set_option maxHeartbeats 1000000 in
theorem retime_draw (sb jb : Nat) (T r rs dm lat last next now bg rnd : Int) (w : World) (hp : Paced w sb T r rs dm lat last next jb) (hT : 1000000000 ≤ T) (hT2 : T ≤ 9223372036854775807) (hr : r ≠ 0) (hr2 : r ≤ 9223372036854775807) (hlt : bg = 0 ∨ txv T r < bg)
    (h3 : -9223372036854775808 ≤ lat) (h4 : lat ≤ 9223372036854775807) (h5 : 0 ≤ rnd) (h6 : rnd ≤ 18446744073709551615) (hu : ∀ q, Draws jb rnd (w.drewN q)) :
    Calls Yba.prog 12 #[.pointer (some ⟨sb, 0, none⟩), .int .i64 now, .int .i64 bg, .bool true] w fun e w' => e = .returned (.tuple #[]) ∧ ∃ q, w' = ((w.setCell ⟨jb, 1, none⟩ (.int .i64 1)).setCell ⟨sb, 22, none⟩ (.int .i64 (nextv now next last (gapd (txv T r) dm lat rnd)))).drewN q := by
  obtain ⟨c4, c6, c7, c8, c10, c12, c16, c17, c21, c22, f22⟩ := hp
  have hpos : 0 < txv T r ∧ txv T r ≤ 9223372036854775807 := by unfold txv; rw [if_neg hr]; split <;> omega
  have hg := fun q => gapI_any sb 1 false T r rs (w.drewN q) (by simpa using c8) (by simpa using c10) (by simpa using c12) (by simpa using c16) (by simpa using c17)
  have ht := fun q => txI_any sb T r (w.drewN q) (by simpa using c10) (by simpa using c17)
  have hx : ∀ q, Calls Yba.prog 15 #[.pointer (some ⟨sb, 0, none⟩), .int .i64 (txv T r)] (w.drewN q) fun e w' => e = .returned (.int .i64 (gapd (txv T r) dm lat rnd)) ∧ ∃ q', w' = (w.setCell ⟨jb, 1, none⟩ (.int .i64 1)).drewN q' := fun q =>
    (txGap_any sb jb (txv T r) dm lat rnd (w.drewN q) (by omega) (by omega) h3 h4 h5 h6 (by simpa using c4) (by simpa using c6) (by simpa using c7) (fun q' => by rw [World.drewN_drewN]; exact hu _)).mono
      fun e w' ⟨he, q', hw⟩ => ⟨he, q + q', by rw [hw, ← World.drewN_drewN]; rfl⟩
  rw [gapv_tx _ _ _ _ _ hpos.1] at hg
  generalize hG : gapd (txv T r) dm lat rnd = G at *
  clear hG hu
  generalize txv T r = g at *
  have hg0 : (g == 0) = false := by simp; omega
  have s21 := (World.cell?_setCell_other w ⟨jb, 1, none⟩ ⟨sb, 21, none⟩ (.int .i64 1) (by simp)).trans c21
  have s22 := (World.cell?_setCell_other w ⟨jb, 1, none⟩ ⟨sb, 22, none⟩ (.int .i64 1) (by simp)).trans c22
  have sf := (World.frozen?_setCell w ⟨jb, 1, none⟩ ⟨sb, 22, none⟩ (.int .i64 1)).trans f22
  obtain ⟨m, hm⟩ : ∃ m, (if IntKind.i64.wrap (last + G) < next then IntKind.i64.wrap (last + G) else next) = m := ⟨_, rfl⟩
  obtain ⟨N, hN⟩ : ∃ N, (if now < m then m else now) = N := ⟨_, rfl⟩
  have eN : nextv now next last G = N := by unfold nextv; rw [← wrapEq, hm, hN]
  rw [eN]
  clear eN
  rcases (show bg = 0 ∨ (bg ≠ 0 ∧ g < bg) by omega) with rfl | ⟨hb, hlt'⟩
  · skip
    go_enter Yba.func12, Yba.ntmps12
    go_wp2_with (first | (go_at_call 10; refine (hg 0).mono ?_; rintro e w' ⟨rfl, q, rfl⟩) | (go_at_call 13; refine (ht _).mono ?_; rintro e w' ⟨rfl, q', rfl⟩))
    go_region_with (first | (go_at_call 15; refine (hx _).mono ?_; rintro e w' ⟨rfl, q2, rfl⟩))
    all_goals
      go_wp2
      go_end0
      exact ⟨rfl, q2, rfl⟩
  · have hb0 : (bg == 0) = false := by simpa using hb
    go_enter Yba.func12, Yba.ntmps12
    go_wp2_with (first | (go_at_call 10; refine (hg 0).mono ?_; rintro e w' ⟨rfl, q, rfl⟩) | (go_at_call 13; refine (ht _).mono ?_; rintro e w' ⟨rfl, q', rfl⟩))
    go_region_with (first | (go_at_call 15; refine (hx _).mono ?_; rintro e w' ⟨rfl, q2, rfl⟩))
    all_goals
      go_wp2
      go_end0
      exact ⟨rfl, q2, rfl⟩
end Go.Proofs.Ybulkehse
