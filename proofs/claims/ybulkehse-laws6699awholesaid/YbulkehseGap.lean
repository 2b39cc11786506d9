/-
  The interval a gap is drawn at: the law's helper and the session's own methods.
-/
import Derived.Test.YbulkehseLeaf
import Derived.Deep.QuietTactic
import Derived.BigQuiet
namespace Go.Proofs.Ybulkehse
open Go.RowKit

/-- the ways through 'repeats'. -/
theorem rep_cases (st : Int) (pol : Bool) (rs : Int) : (pol = true ∧ repv st pol rs = true) ∨ (pol = false ∧
    ((((st = 3 ∨ (st ≠ 3 ∧ st = 2)) ∧ ((rs = 3 ∧ repv st pol rs = false) ∨ (rs ≠ 3 ∧ repv st pol rs = true)))) ∨
     ((st ≠ 3 ∧ st ≠ 2) ∧ ((rs = 1 ∧ repv st pol rs = false) ∨ (rs ≠ 1 ∧ rs = 0 ∧ repv st pol rs = false) ∨ (rs ≠ 1 ∧ rs ≠ 0 ∧ repv st pol rs = true))))) := by
  cases pol with
  | true => exact Or.inl ⟨rfl, by simp [repv]⟩
  | false =>
    refine Or.inr ⟨rfl, ?_⟩
    by_cases h : st = 3 ∨ st = 2
    · refine Or.inl ⟨by omega, ?_⟩
      by_cases h3 : rs = 3
      · exact Or.inl ⟨h3, by simp [repv, h, h3]⟩
      · exact Or.inr ⟨h3, by simp [repv, h, h3]⟩
    · refine Or.inr ⟨by omega, ?_⟩
      by_cases h1 : rs = 1
      · exact Or.inl ⟨h1, by simp [repv, h, h1]⟩
      · by_cases h0 : rs = 0
        · exact Or.inr (Or.inl ⟨h1, h0, by simp [repv, h, h0]⟩)
        · exact Or.inr (Or.inr ⟨h1, h0, by simp [repv, h, h1, h0]⟩)

theorem gapv_tx (st : Int) (pol : Bool) (d r rs : Int) (h : 0 < txv d r) : gapv st pol d r rs = txv d r := by unfold gapv; rw [if_pos h]
theorem gapv_yes (st : Int) (pol : Bool) (d r rs : Int) (h : ¬ 0 < txv d r) (hr : repv st pol rs = true) : gapv st pol d r rs = 1000000000 := by unfold gapv; rw [if_neg h, if_pos hr]
theorem gapv_no (st : Int) (pol : Bool) (d r rs : Int) (h : ¬ 0 < txv d r) (hr : repv st pol rs = false) : gapv st pol d r rs = 0 := by unfold gapv; rw [if_neg h, if_neg (by rw [hr]; decide)]

set_option maxHeartbeats 1000000 in
theorem gap_any (st : Int) (pol : Bool) (d r rs : Int) (w : World) : Calls Yba.prog 5 #[.int .u8 st, .bool pol, .int .i64 d, .int .i64 r, .int .u8 rs] w fun e w' => e = .returned (.int .i64 (gapv st pol d r rs)) ∧ w' = w := by
  have htx := fun W => tx_any d r W
  by_cases h : 0 < txv d r
  · rw [gapv_tx _ _ _ _ _ h]
    generalize txv d r = t at *
    go_enter Yba.func5, Yba.ntmps5
    go_wp2_with (go_at_call 6; refine (htx _).mono ?_; rintro e w' ⟨rfl, rfl⟩)
    go_ret
    exact ⟨rfl, rfl⟩
  · rcases rep_cases st pol rs with ⟨rfl, hr⟩ | ⟨rfl, ⟨hs, ⟨h3, hr⟩ | ⟨h3, hr⟩⟩ | ⟨⟨hs3, hs2⟩, ⟨h1, hr⟩ | ⟨h1, h0, hr⟩ | ⟨h1, h0, hr⟩⟩⟩
    · rw [gapv_yes _ _ _ _ _ h hr]
      generalize txv d r = t at *
      clear hr
      go_enter Yba.func5, Yba.ntmps5
      go_wp2_with (go_at_call 6; refine (htx _).mono ?_; rintro e w' ⟨rfl, rfl⟩)
      go_ret
      exact ⟨rfl, rfl⟩
    · rw [gapv_no _ _ _ _ _ h hr]
      generalize txv d r = t at *
      clear hr
      rcases hs with rfl | ⟨hn, rfl⟩
      all_goals
        subst h3
        go_enter Yba.func5, Yba.ntmps5
        go_wp2_with (go_at_call 6; refine (htx _).mono ?_; rintro e w' ⟨rfl, rfl⟩)
        go_ret
        exact ⟨rfl, rfl⟩
    · rw [gapv_yes _ _ _ _ _ h hr]
      generalize txv d r = t at *
      clear hr
      have hb3 : (rs != 3) = true := by simpa using h3
      rcases hs with rfl | ⟨hn, rfl⟩
      all_goals
        go_enter Yba.func5, Yba.ntmps5
        go_wp2_with (go_at_call 6; refine (htx _).mono ?_; rintro e w' ⟨rfl, rfl⟩)
        go_ret
        exact ⟨rfl, rfl⟩
    · rw [gapv_no _ _ _ _ _ h hr]
      generalize txv d r = t at *
      clear hr
      subst h1
      have b3 : (st == 3) = false := by simpa using hs3
      have b2 : (st == 2) = false := by simpa using hs2
      go_enter Yba.func5, Yba.ntmps5
      go_wp2_with (go_at_call 6; refine (htx _).mono ?_; rintro e w' ⟨rfl, rfl⟩)
      go_ret
      exact ⟨rfl, rfl⟩
    · rw [gapv_no _ _ _ _ _ h hr]
      generalize txv d r = t at *
      clear hr
      subst h0
      have b3 : (st == 3) = false := by simpa using hs3
      have b2 : (st == 2) = false := by simpa using hs2
      go_enter Yba.func5, Yba.ntmps5
      go_wp2_with (go_at_call 6; refine (htx _).mono ?_; rintro e w' ⟨rfl, rfl⟩)
      go_ret
      exact ⟨rfl, rfl⟩
    · rw [gapv_yes _ _ _ _ _ h hr]
      generalize txv d r = t at *
      clear hr
      have b3 : (st == 3) = false := by simpa using hs3
      have b2 : (st == 2) = false := by simpa using hs2
      have c1 : (rs != 1) = true := by simpa using h1
      have c0 : (rs != 0) = true := by simpa using h0
      go_enter Yba.func5, Yba.ntmps5
      go_wp2_with (go_at_call 6; refine (htx _).mono ?_; rintro e w' ⟨rfl, rfl⟩)
      go_ret
      exact ⟨rfl, rfl⟩
end Go.Proofs.Ybulkehse
