/-
  The counter of open operations: its walk.
-/
import Derived.Test.YbulkehrqRows
import Derived.Test.YbulkehrqPlain
import Derived.WalkKit
import Derived.WalkSpells
import Derived.WalkLawsBesides
namespace Go.Proofs.Ybulkehrq
open Go.RowKit

set_option maxHeartbeats 400000 in
theorem open_any (b o n c : Nat) (C R : Nat → Int) (t : Int) (w : World) (hbig : n ≤ 2048)
    (hC : ∀ j, j < n → w.cell? ⟨b, o + j * 6 + 1, none⟩ = some (.int .i64 (C j)))
    (hR : ∀ j, j < n → w.cell? ⟨b, o + j * 6 + 2, none⟩ = some (.int .i64 (R j))) :
    Calls Yba.prog 6 #[.slice (some ⟨b, o, none⟩) n c, .int .i64 t] w fun e w' => e = .returned (.int .i64 (cnt C R t n)) ∧ w' = w := by
  go_enter Yba.func6, Yba.ntmps6
  go_wp2
  go_loop [5, 6] (fun s i => ∃ k : Nat, k ≤ n ∧ i = .int .i64 k ∧ s = .int .i64 (cnt C R t k)) (fun _ i => n - (intOf i).toNat)
  case atStart => exact ⟨0, Nat.zero_le _, rfl, rfl⟩
  case round =>
    obtain ⟨k, hk, rfl, rfl⟩ := hrel
    have hb := cnt_bd C R t k
    by_cases hlt : k < n
    · have h1 := hC k hlt
      have h2 := hR k hlt
      go_wp2
      all_goals
        go_round
        case rel => exact ⟨k + 1, by omega, by go_num, by congr 1; rw [cnt_succ]; (repeat' split) <;> omega⟩
        case measure => simp [intOf]; omega
    · have hkn : k = n := by omega
      go_wp2
      go_ret
      exact ⟨rfl, rfl⟩
end Go.Proofs.Ybulkehrq
