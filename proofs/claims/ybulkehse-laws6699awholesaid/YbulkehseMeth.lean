/-
  The session's reading methods: TxInterval, repeating, gapInterval.
-/
import Derived.Test.YbulkehseGap
import Derived.RegionTactic
import Derived.ChangeAlike
namespace Go.Proofs.Ybulkehse
open Go.RowKit

set_option maxHeartbeats 400000 in
theorem txI_any (sb : Nat) (d r : Int) (w : World) (h10 : w.cell? ⟨sb, 10, none⟩ = some (.int .i64 d)) (h17 : w.cell? ⟨sb, 17, none⟩ = some (.int .i64 r)) :
    Calls Yba.prog 13 #[.pointer (some ⟨sb, 0, none⟩)] w fun e w' => e = .returned (.int .i64 (txv d r)) ∧ ∃ q, w' = w.drewN q := by
  by_cases h0 : r = 0
  · subst h0
    go_enter Yba.func13, Yba.ntmps13
    go_wp2
    go_ret
    exact ⟨rfl, 0, rfl⟩
  · have hb : (r == 0) = false := by simpa using h0
    have e : (if d < r then r else d) = txv d r := by unfold txv; rw [if_neg h0]; repeat' split
                                                      all_goals omega
    go_enter Yba.func13, Yba.ntmps13
    go_wp2
    go_region
    all_goals
      go_wp2
      go_ret
      exact ⟨rfl, 1, rfl⟩

set_option maxHeartbeats 1000000 in
theorem rep_any (sb : Nat) (st : Int) (pol : Bool) (rs : Int) (w : World) (h8 : w.cell? ⟨sb, 8, none⟩ = some (.int .u8 st)) (h12 : w.cell? ⟨sb, 12, none⟩ = some (.bool pol)) (h16 : w.cell? ⟨sb, 16, none⟩ = some (.int .u8 rs)) :
    Calls Yba.prog 14 #[.pointer (some ⟨sb, 0, none⟩)] w fun e w' => e = .returned (.bool (repv st pol rs)) ∧ w' = w := by
  rcases rep_cases st pol rs with ⟨rfl, hr⟩ | ⟨rfl, ⟨hs, ⟨h3, hr⟩ | ⟨h3, hr⟩⟩ | ⟨⟨hs3, hs2⟩, ⟨h1, hr⟩ | ⟨h1, h0, hr⟩ | ⟨h1, h0, hr⟩⟩⟩
  all_goals rw [hr]; clear hr
  · go_enter Yba.func14, Yba.ntmps14
    go_wp2
    go_ret
    exact ⟨rfl, rfl⟩
  · rcases hs with rfl | ⟨hn, rfl⟩
    all_goals
      subst h3
      go_enter Yba.func14, Yba.ntmps14
      go_wp2
      go_ret
      exact ⟨rfl, rfl⟩
  · have hb3 : (rs != 3) = true := by simpa using h3
    rcases hs with rfl | ⟨hn, rfl⟩
    all_goals
      go_enter Yba.func14, Yba.ntmps14
      go_wp2
      go_ret
      exact ⟨rfl, rfl⟩
  · subst h1
    have b3 : (st == 3) = false := by simpa using hs3
    have b2 : (st == 2) = false := by simpa using hs2
    go_enter Yba.func14, Yba.ntmps14
    go_wp2
    go_ret
    exact ⟨rfl, rfl⟩
  · subst h0
    have b3 : (st == 3) = false := by simpa using hs3
    have b2 : (st == 2) = false := by simpa using hs2
    go_enter Yba.func14, Yba.ntmps14
    go_wp2
    go_ret
    exact ⟨rfl, rfl⟩
  · have b3 : (st == 3) = false := by simpa using hs3
    have b2 : (st == 2) = false := by simpa using hs2
    have c1 : (rs != 1) = true := by simpa using h1
    have c0 : (rs != 0) = true := by simpa using h0
    go_enter Yba.func14, Yba.ntmps14
    go_wp2
    go_ret
    exact ⟨rfl, rfl⟩

set_option maxHeartbeats 1000000 in
theorem gapI_any (sb : Nat) (st : Int) (pol : Bool) (d r rs : Int) (w : World) (h8 : w.cell? ⟨sb, 8, none⟩ = some (.int .u8 st)) (h10 : w.cell? ⟨sb, 10, none⟩ = some (.int .i64 d)) (h12 : w.cell? ⟨sb, 12, none⟩ = some (.bool pol)) (h16 : w.cell? ⟨sb, 16, none⟩ = some (.int .u8 rs)) (h17 : w.cell? ⟨sb, 17, none⟩ = some (.int .i64 r)) :
    Calls Yba.prog 10 #[.pointer (some ⟨sb, 0, none⟩)] w fun e w' => e = .returned (.int .i64 (gapv st pol d r rs)) ∧ ∃ q, w' = w.drewN q := by
  have htx := txI_any sb d r w h10 h17
  have hrp := fun q => rep_any sb st pol rs (w.drewN q) (by simpa using h8) (by simpa using h12) (by simpa using h16)
  by_cases h : 0 < txv d r
  · rw [gapv_tx _ _ _ _ _ h]
    generalize txv d r = t at *
    go_enter Yba.func10, Yba.ntmps10
    go_wp2_with (go_at_call 13; refine htx.mono ?_; rintro e w' ⟨rfl, q, rfl⟩)
    go_ret
    exact ⟨rfl, _, rfl⟩
  · cases hr : repv st pol rs with
    | true =>
      rw [gapv_yes _ _ _ _ _ h hr]
      rw [hr] at hrp
      generalize txv d r = t at *
      clear hr
      go_enter Yba.func10, Yba.ntmps10
      go_wp2_with (first | (go_at_call 13; refine htx.mono ?_; rintro e w' ⟨rfl, q, rfl⟩) | (go_at_call 14; refine (hrp _).mono ?_; rintro e w' ⟨rfl, rfl⟩))
      go_ret
      exact ⟨rfl, _, rfl⟩
    | false =>
      rw [gapv_no _ _ _ _ _ h hr]
      rw [hr] at hrp
      generalize txv d r = t at *
      clear hr
      go_enter Yba.func10, Yba.ntmps10
      go_wp2_with (first | (go_at_call 13; refine htx.mono ?_; rintro e w' ⟨rfl, q, rfl⟩) | (go_at_call 14; refine (hrp _).mono ?_; rintro e w' ⟨rfl, rfl⟩))
      go_ret
      exact ⟨rfl, _, rfl⟩
end Go.Proofs.Ybulkehse
