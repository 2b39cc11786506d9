/-
  txGap, paceForState, retime: their walks.
-/
import Derived.Test.YbulkehseJit
import Derived.Deep.RegionHeld3
namespace Go.Proofs.Ybulkehse
open Go.RowKit

/-- what the jitter source answers in w, and what it leaves. -/
def Draws (jb : Nat) (r : Int) (w : World) : Prop :=
  Calls Yba.prog 34 #[.pointer (some ⟨jb, 0, none⟩)] w fun e w' => e = .returned (.int .u64 r) ∧ ∃ q, w' = (w.setCell ⟨jb, 1, none⟩ (.int .i64 1)).drewN q

set_option maxHeartbeats 1000000 in
theorem txGap_any (sb jb : Nat) (iv dm lat r : Int) (w : World) (h1 : 1 ≤ iv) (h2 : iv ≤ 9223372036854775807) (h3 : -9223372036854775808 ≤ lat) (h4 : lat ≤ 9223372036854775807) (h5 : 0 ≤ r) (h6 : r ≤ 18446744073709551615)
    (c4 : w.cell? ⟨sb, 4, none⟩ = some (.int .u8 dm)) (c6 : w.cell? ⟨sb, 6, none⟩ = some (.iface 28 (.pointer (some ⟨jb, 0, none⟩)))) (c7 : w.cell? ⟨sb, 7, none⟩ = some (.int .i64 lat)) (hu : ∀ q, Draws jb r (w.drewN q)) :
    Calls Yba.prog 15 #[.pointer (some ⟨sb, 0, none⟩), .int .i64 iv] w fun e w' => e = .returned (.int .i64 (gapd iv dm lat r)) ∧ ∃ q, w' = (w.setCell ⟨jb, 1, none⟩ (.int .i64 1)).drewN q := by
  have hg := gapD_any jb iv dm lat r w.drew h1 h2 h3 h4 h5 h6 (hu 1)
  have s4 := (World.cell?_setCell_other w ⟨jb, 1, none⟩ ⟨sb, 4, none⟩ (.int .i64 1) (by simp)).trans c4
  have s6 := (World.cell?_setCell_other w ⟨jb, 1, none⟩ ⟨sb, 6, none⟩ (.int .i64 1) (by simp)).trans c6
  have s7 := (World.cell?_setCell_other w ⟨jb, 1, none⟩ ⟨sb, 7, none⟩ (.int .i64 1) (by simp)).trans c7
  clear hu
  generalize gapd iv dm lat r = g at *
  go_enter Yba.func15, Yba.ntmps15
  go_wp2
  go_region_held3 (fun w' => w'.cell? ⟨sb, 4, none⟩ = some (.int .u8 dm) ∧ w'.cell? ⟨sb, 6, none⟩ = some (.iface 28 (.pointer (some ⟨jb, 0, none⟩))) ∧ w'.cell? ⟨sb, 7, none⟩ = some (.int .i64 lat)) (go_keep)
    (first | (go_at_call 16; refine hg.mono ?_; rintro e w' ⟨rfl, q, rfl⟩))
  go_wp2
  go_ret
  exact ⟨rfl, _, rfl⟩

set_option maxHeartbeats 1000000 in
theorem pace_any (sb : Nat) (cT cR : Int) (slow : Bool) (w : World) (hf : ∀ i, w.frozen? ⟨sb, i, none⟩ = false) (c1 : w.cell? ⟨sb, 1, none⟩ = some (.int .i64 cT)) (c2 : w.cell? ⟨sb, 2, none⟩ = some (.int .i64 cR)) (c3 : w.cell? ⟨sb, 3, none⟩ = some (.bool slow)) (c8 : w.cell? ⟨sb, 8, none⟩ = some (.int .u8 1))
    (x10 : ∃ v, w.cell? ⟨sb, 10, none⟩ = some v) (x11 : ∃ v, w.cell? ⟨sb, 11, none⟩ = some v) (x12 : ∃ v, w.cell? ⟨sb, 12, none⟩ = some v) (x14 : ∃ v, w.cell? ⟨sb, 14, none⟩ = some v) :
    Calls Yba.prog 11 #[.pointer (some ⟨sb, 0, none⟩)] w fun e w' => e = .returned (.tuple #[]) ∧ ∃ q, w' = ((((w.setCell ⟨sb, 12, none⟩ (.bool false)).setCell ⟨sb, 14, none⟩ (.int .i64 (rxv slow cR))).setCell ⟨sb, 10, none⟩ (.int .i64 (slowv cT))).setCell ⟨sb, 11, none⟩ (.int .i64 (rxv slow cR))).drewN q := by
  obtain ⟨v10, x10⟩ := x10
  obtain ⟨v11, x11⟩ := x11
  obtain ⟨v12, x12⟩ := x12
  obtain ⟨v14, x14⟩ := x14
  have eT : (if cT < 1000000000 then 1000000000 else cT) = slowv cT := rfl
  have eR : (if cR < 1000000000 then 1000000000 else cR) = slowv cR := rfl
  rcases rx_cases slow cR with ⟨rfl, hx⟩ | ⟨rfl, rfl, hx⟩ | ⟨rfl, hr, hx⟩
  · rw [hx]
    clear hx
    generalize slowv cT = T at *
    go_enter Yba.func11, Yba.ntmps11
    go_wp2
    go_quiet (fail)
    go_wp2
    go_end0
    exact ⟨rfl, _, rfl⟩
  · rw [hx]
    clear hx
    generalize slowv cT = T at *
    go_enter Yba.func11, Yba.ntmps11
    go_wp2
    go_quiet (fail)
    go_wp2
    go_end0
    exact ⟨rfl, _, rfl⟩
  · rw [hx]
    clear hx
    have hb : (cR != 0) = true := by simpa using hr
    generalize slowv cT = T at *
    generalize slowv cR = X at *
    go_enter Yba.func11, Yba.ntmps11
    go_wp2
    go_quiet (fail)
    go_wp2
    go_end0
    exact ⟨rfl, _, rfl⟩

/-- the session's cells that 'retime' reads, and that it may write. -/
structure Paced (w : World) (sb : Nat) (T r rs dm lat last next : Int) (jb : Nat) : Prop where
  c4 : w.cell? ⟨sb, 4, none⟩ = some (.int .u8 dm)
  c6 : w.cell? ⟨sb, 6, none⟩ = some (.iface 28 (.pointer (some ⟨jb, 0, none⟩)))
  c7 : w.cell? ⟨sb, 7, none⟩ = some (.int .i64 lat)
  c8 : w.cell? ⟨sb, 8, none⟩ = some (.int .u8 1)
  c10 : w.cell? ⟨sb, 10, none⟩ = some (.int .i64 T)
  c12 : w.cell? ⟨sb, 12, none⟩ = some (.bool false)
  c16 : w.cell? ⟨sb, 16, none⟩ = some (.int .u8 rs)
  c17 : w.cell? ⟨sb, 17, none⟩ = some (.int .i64 r)
  c21 : w.cell? ⟨sb, 21, none⟩ = some (.int .i64 last)
  c22 : w.cell? ⟨sb, 22, none⟩ = some (.int .i64 next)
  f22 : w.frozen? ⟨sb, 22, none⟩ = false

set_option maxHeartbeats 1000000 in
/-- the far end asks for no periodic packets: at once. -/
theorem retime_zero (sb jb : Nat) (T rs dm lat last next now bg : Int) (w : World) (hp : Paced w sb T 0 rs dm lat last next jb) :
    Calls Yba.prog 12 #[.pointer (some ⟨sb, 0, none⟩), .int .i64 now, .int .i64 bg, .bool true] w fun e w' => e = .returned (.tuple #[]) ∧ ∃ q, w' = (w.setCell ⟨sb, 22, none⟩ (.int .i64 now)).drewN q := by
  obtain ⟨c4, c6, c7, c8, c10, c12, c16, c17, c21, c22, f22⟩ := hp
  have hg := fun q => gapI_any sb 1 false T 0 rs (w.drewN q) (by simpa using c8) (by simpa using c10) (by simpa using c12) (by simpa using c16) (by simpa using c17)
  have ht := fun q => txI_any sb T 0 (w.drewN q) (by simpa using c10) (by simpa using c17)
  have e0 : txv T 0 = 0 := rfl
  rw [e0] at ht
  generalize gapv 1 false T 0 rs = g at *
  go_enter Yba.func12, Yba.ntmps12
  go_wp2_with (first | (go_at_call 10; refine (hg 0).mono ?_; rintro e w' ⟨rfl, q, rfl⟩) | (go_at_call 13; refine (ht _).mono ?_; rintro e w' ⟨rfl, q', rfl⟩))
  go_end0
  exact ⟨rfl, _, rfl⟩

set_option maxHeartbeats 1000000 in
/-- the agreed interval is no shorter: nothing moves. -/
theorem retime_keep (sb jb : Nat) (T r rs dm lat last next now bg : Int) (w : World) (hp : Paced w sb T r rs dm lat last next jb) (hT : 1000000000 ≤ T) (hr : r ≠ 0) (hb : bg ≠ 0) (hlt : ¬ txv T r < bg) :
    Calls Yba.prog 12 #[.pointer (some ⟨sb, 0, none⟩), .int .i64 now, .int .i64 bg, .bool true] w fun e w' => e = .returned (.tuple #[]) ∧ ∃ q, w' = w.drewN q := by
  obtain ⟨c4, c6, c7, c8, c10, c12, c16, c17, c21, c22, f22⟩ := hp
  have hpos : 0 < txv T r := by unfold txv; rw [if_neg hr]; split <;> omega
  have hg := fun q => gapI_any sb 1 false T r rs (w.drewN q) (by simpa using c8) (by simpa using c10) (by simpa using c12) (by simpa using c16) (by simpa using c17)
  have ht := fun q => txI_any sb T r (w.drewN q) (by simpa using c10) (by simpa using c17)
  rw [gapv_tx _ _ _ _ _ hpos] at hg
  generalize txv T r = g at *
  have hg0 : (g == 0) = false := by simp; omega
  have hb0 : (bg == 0) = false := by simpa using hb
  go_enter Yba.func12, Yba.ntmps12
  go_wp2_with (first | (go_at_call 10; refine (hg 0).mono ?_; rintro e w' ⟨rfl, q, rfl⟩) | (go_at_call 13; refine (ht _).mono ?_; rintro e w' ⟨rfl, q', rfl⟩))
  go_end0
  exact ⟨rfl, _, rfl⟩
end Go.Proofs.Ybulkehse
