/-
  The jitter source and the gap drawn from it.
-/
import Derived.Test.YbulkehseMeth
namespace Go.Proofs.Ybulkehse
open Go.RowKit

set_option maxHeartbeats 400000 in
theorem u64_some (jb b off n c : Nat) (r : Int) (w : World) (hn : 1 ≤ n) (hn2 : n ≤ 1048576) (h0 : w.cell? ⟨jb, 0, none⟩ = some (.slice (some ⟨b, off, none⟩) n c)) (h1 : w.cell? ⟨jb, 1, none⟩ = some (.int .i64 0)) (hf : w.frozen? ⟨jb, 1, none⟩ = false) (hr : w.cell? ⟨b, off, none⟩ = some (.int .u64 r)) :
    Calls Yba.prog 34 #[.pointer (some ⟨jb, 0, none⟩)] w fun e w' => e = .returned (.int .u64 r) ∧ ∃ q, w' = (w.setCell ⟨jb, 1, none⟩ (.int .i64 1)).drewN q := by
  have hi : (0 : Int) < (n : Int) := by omega
  go_enter Yba.func34, Yba.ntmps34
  go_wp2
  go_quiet (fail)
  go_wp2
  go_quiet (fail)
  go_wp2
  go_ret
  exact ⟨rfl, _, rfl⟩

set_option maxHeartbeats 400000 in
theorem u64_none (jb : Nat) (a : Option Addr) (c : Nat) (w : World) (h0 : w.cell? ⟨jb, 0, none⟩ = some (.slice a 0 c)) (h1 : w.cell? ⟨jb, 1, none⟩ = some (.int .i64 0)) (hf : w.frozen? ⟨jb, 1, none⟩ = false) :
    Calls Yba.prog 34 #[.pointer (some ⟨jb, 0, none⟩)] w fun e w' => e = .returned (.int .u64 0) ∧ ∃ q, w' = (w.setCell ⟨jb, 1, none⟩ (.int .i64 1)).drewN q := by
  go_enter Yba.func34, Yba.ntmps34
  go_wp2
  go_quiet (fail)
  go_wp2
  go_ret
  exact ⟨rfl, _, rfl⟩

theorem meth (a : Addr) (w : World) : (method 184 28 (.pointer (some a)) "Uint64").run Yba.prog w = .ok (34, .pointer (some a)) w := by kernel_rfl

set_option maxHeartbeats 4000000 in
theorem gapD_any (jb : Nat) (iv dm lat r : Int) (w : World) (h1 : 1 ≤ iv) (h2 : iv ≤ 9223372036854775807) (h3 : -9223372036854775808 ≤ lat) (h4 : lat ≤ 9223372036854775807) (h5 : 0 ≤ r) (h6 : r ≤ 18446744073709551615)
    (hu : Calls Yba.prog 34 #[.pointer (some ⟨jb, 0, none⟩)] w fun e w' => e = .returned (.int .u64 r) ∧ ∃ q, w' = (w.setCell ⟨jb, 1, none⟩ (.int .i64 1)).drewN q) :
    Calls Yba.prog 16 #[.int .i64 iv, .int .u8 dm, .int .i64 lat, .iface 28 (.pointer (some ⟨jb, 0, none⟩))] w fun e w' => e = .returned (.int .i64 (gapd iv dm lat r)) ∧ ∃ q, w' = (w.setCell ⟨jb, 1, none⟩ (.int .i64 1)).drewN q := by
  have hme := meth
  by_cases hdm : dm = 1
  · subst hdm
    by_cases hl : lat < 0
    · have hd := tdiv_nonpos lat hl
      by_cases ht : lat.tdiv 1000 < 0
      · clear hd
        go_enter Yba.func16, Yba.ntmps16
        go_wp2_with (first | (go_at_call 34; refine hu.mono ?_; rintro e w' ⟨rfl, q, rfl⟩) | go_in)
        all_goals
          go_ret
          refine ⟨ret_int ?_, _, rfl⟩
          first
          | with_reducible refine gap_endA iv _ lat r ?_
          | with_reducible refine gap_endB iv _ lat r _ h1 h2 ?_
          | with_reducible refine gap_endC iv _ lat r h1 h2 ?_
          | with_reducible refine gap_endD iv _ lat r h1 h2 ?_
          go_light
          obtain ⟨l, lu, t, k1, k2, k3, k4⟩ := leastv_spec iv 1 lat
          omega
      · have e0 : lat.tdiv 1000 = 0 := by omega
        clear hd ht
        go_enter Yba.func16, Yba.ntmps16
        go_wp2_with (first | (go_at_call 34; refine hu.mono ?_; rintro e w' ⟨rfl, q, rfl⟩) | go_in)
        all_goals
          go_ret
          refine ⟨ret_int ?_, _, rfl⟩
          first
          | with_reducible refine gap_endA iv _ lat r ?_
          | with_reducible refine gap_endB iv _ lat r _ h1 h2 ?_
          | with_reducible refine gap_endC iv _ lat r h1 h2 ?_
          | with_reducible refine gap_endD iv _ lat r h1 h2 ?_
          go_light
          obtain ⟨l, lu, t, k1, k2, k3, k4⟩ := leastv_spec iv 1 lat
          omega
    · skip
      go_enter Yba.func16, Yba.ntmps16
      go_wp2_with (first | (go_at_call 34; refine hu.mono ?_; rintro e w' ⟨rfl, q, rfl⟩) | go_in)
      all_goals
        go_ret
        refine ⟨ret_int ?_, _, rfl⟩
        first
        | with_reducible refine gap_endA iv _ lat r ?_
        | with_reducible refine gap_endB iv _ lat r _ h1 h2 ?_
        | with_reducible refine gap_endC iv _ lat r h1 h2 ?_
        | with_reducible refine gap_endD iv _ lat r h1 h2 ?_
        go_light
        obtain ⟨l, lu, t, k1, k2, k3, k4⟩ := leastv_spec iv 1 lat
        omega
  · by_cases hl : lat < 0
    · have hd := tdiv_nonpos lat hl
      by_cases ht : lat.tdiv 1000 < 0
      · clear hd
        go_enter Yba.func16, Yba.ntmps16
        go_wp2_with (first | (go_at_call 34; refine hu.mono ?_; rintro e w' ⟨rfl, q, rfl⟩) | go_in)
        all_goals
          go_ret
          refine ⟨ret_int ?_, _, rfl⟩
          first
          | with_reducible refine gap_endA iv _ lat r ?_
          | with_reducible refine gap_endB iv _ lat r _ h1 h2 ?_
          | with_reducible refine gap_endC iv _ lat r h1 h2 ?_
          | with_reducible refine gap_endD iv _ lat r h1 h2 ?_
          go_light
          obtain ⟨l, lu, t, k1, k2, k3, k4⟩ := leastv_spec iv dm lat
          omega
      · have e0 : lat.tdiv 1000 = 0 := by omega
        clear hd ht
        go_enter Yba.func16, Yba.ntmps16
        go_wp2_with (first | (go_at_call 34; refine hu.mono ?_; rintro e w' ⟨rfl, q, rfl⟩) | go_in)
        all_goals
          go_ret
          refine ⟨ret_int ?_, _, rfl⟩
          first
          | with_reducible refine gap_endA iv _ lat r ?_
          | with_reducible refine gap_endB iv _ lat r _ h1 h2 ?_
          | with_reducible refine gap_endC iv _ lat r h1 h2 ?_
          | with_reducible refine gap_endD iv _ lat r h1 h2 ?_
          go_light
          obtain ⟨l, lu, t, k1, k2, k3, k4⟩ := leastv_spec iv dm lat
          omega
    · skip
      go_enter Yba.func16, Yba.ntmps16
      go_wp2_with (first | (go_at_call 34; refine hu.mono ?_; rintro e w' ⟨rfl, q, rfl⟩) | go_in)
      all_goals
        go_ret
        refine ⟨ret_int ?_, _, rfl⟩
        first
        | with_reducible refine gap_endA iv _ lat r ?_
        | with_reducible refine gap_endB iv _ lat r _ h1 h2 ?_
        | with_reducible refine gap_endC iv _ lat r h1 h2 ?_
        | with_reducible refine gap_endD iv _ lat r h1 h2 ?_
        go_light
        obtain ⟨l, lu, t, k1, k2, k3, k4⟩ := leastv_spec iv dm lat
        omega
end Go.Proofs.Ybulkehse
