/-
  The law's own helpers: their walks.
-/
import Derived.Test.YbulkehsePlain
import Derived.Test.YbulkehseRows
import Derived.WalkSpells
import Derived.Deep.Light
import Derived.WalkLawsBesides
namespace Go.Proofs.Ybulkehse
open Go.RowKit

theorem tx_any (d r : Int) (w : World) : Calls Yba.prog 6 #[.int .i64 d, .int .i64 r] w fun e w' => e = .returned (.int .i64 (txv d r)) ∧ w' = w := by
  by_cases h0 : r = 0
  · subst h0
    go_enter Yba.func6, Yba.ntmps6
    go_wp2
    go_ret
    exact ⟨rfl, rfl⟩
  · have hb : (r == 0) = false := by simpa using h0
    by_cases h1 : r < d
    · have e : txv d r = d := by unfold txv; rw [if_neg h0, if_pos h1]
      rw [e]
      go_enter Yba.func6, Yba.ntmps6
      go_wp2
      go_ret
      exact ⟨rfl, rfl⟩
    · have e : txv d r = r := by unfold txv; rw [if_neg h0, if_neg h1]
      rw [e]
      go_enter Yba.func6, Yba.ntmps6
      go_wp2
      go_ret
      exact ⟨rfl, rfl⟩

set_option maxHeartbeats 1000000 in
theorem txgap_any (iv dm lat r : Int) (w : World) (h1 : 1 ≤ iv) (h2 : iv ≤ 9223372036854775807) (h3 : -9223372036854775808 ≤ lat) (h4 : lat ≤ 9223372036854775807) (h5 : 0 ≤ r) (h6 : r ≤ 18446744073709551615) :
    Calls Yba.prog 7 #[.int .i64 iv, .int .u8 dm, .int .i64 lat, .int .u64 r] w fun e w' => e = .returned (.int .i64 (gapd iv dm lat r)) ∧ w' = w := by
  by_cases hdm : dm = 1
  · subst hdm
    by_cases hl : lat < 0
    · have hd := tdiv_nonpos lat hl
      by_cases ht : lat.tdiv 1000 < 0
      · clear hd
        go_enter Yba.func7, Yba.ntmps7
        go_wp2
        all_goals
          go_ret
          refine ⟨ret_int ?_, rfl⟩
          first
          | with_reducible refine gap_endA iv _ lat r ?_
          | with_reducible refine gap_endB iv _ lat r _ h1 h2 ?_
          | with_reducible refine gap_endC iv _ lat r h1 h2 ?_
          go_light
          obtain ⟨l, lu, t, k1, k2, k3, k4⟩ := leastv_spec iv 1 lat
          omega
      · have e0 : lat.tdiv 1000 = 0 := by omega
        clear hd ht
        go_enter Yba.func7, Yba.ntmps7
        go_wp2
        all_goals
          go_ret
          refine ⟨ret_int ?_, rfl⟩
          first
          | with_reducible refine gap_endA iv _ lat r ?_
          | with_reducible refine gap_endB iv _ lat r _ h1 h2 ?_
          | with_reducible refine gap_endC iv _ lat r h1 h2 ?_
          go_light
          obtain ⟨l, lu, t, k1, k2, k3, k4⟩ := leastv_spec iv 1 lat
          omega
    · skip
      go_enter Yba.func7, Yba.ntmps7
      go_wp2
      all_goals
        go_ret
        refine ⟨ret_int ?_, rfl⟩
        first
        | with_reducible refine gap_endA iv _ lat r ?_
        | with_reducible refine gap_endB iv _ lat r _ h1 h2 ?_
        | with_reducible refine gap_endC iv _ lat r h1 h2 ?_
        go_light
        obtain ⟨l, lu, t, k1, k2, k3, k4⟩ := leastv_spec iv 1 lat
        omega
  · by_cases hl : lat < 0
    · have hd := tdiv_nonpos lat hl
      by_cases ht : lat.tdiv 1000 < 0
      · clear hd
        go_enter Yba.func7, Yba.ntmps7
        go_wp2
        all_goals
          go_ret
          refine ⟨ret_int ?_, rfl⟩
          first
          | with_reducible refine gap_endA iv _ lat r ?_
          | with_reducible refine gap_endB iv _ lat r _ h1 h2 ?_
          | with_reducible refine gap_endC iv _ lat r h1 h2 ?_
          go_light
          obtain ⟨l, lu, t, k1, k2, k3, k4⟩ := leastv_spec iv dm lat
          omega
      · have e0 : lat.tdiv 1000 = 0 := by omega
        clear hd ht
        go_enter Yba.func7, Yba.ntmps7
        go_wp2
        all_goals
          go_ret
          refine ⟨ret_int ?_, rfl⟩
          first
          | with_reducible refine gap_endA iv _ lat r ?_
          | with_reducible refine gap_endB iv _ lat r _ h1 h2 ?_
          | with_reducible refine gap_endC iv _ lat r h1 h2 ?_
          go_light
          obtain ⟨l, lu, t, k1, k2, k3, k4⟩ := leastv_spec iv dm lat
          omega
    · skip
      go_enter Yba.func7, Yba.ntmps7
      go_wp2
      all_goals
        go_ret
        refine ⟨ret_int ?_, rfl⟩
        first
        | with_reducible refine gap_endA iv _ lat r ?_
        | with_reducible refine gap_endB iv _ lat r _ h1 h2 ?_
        | with_reducible refine gap_endC iv _ lat r h1 h2 ?_
        go_light
        obtain ⟨l, lu, t, k1, k2, k3, k4⟩ := leastv_spec iv dm lat
        omega
end Go.Proofs.Ybulkehse
