/-
  The comparison of two places: the law's own and the program's.
-/
import Derived.Test.YboneofkuRows
import Derived.WalkKit
import Derived.WalkSpells
import Derived.Deep.Light
import Derived.WalkLawsBesides
import Derived.Deep.QuietTactic
import Derived.BigQuiet
import Derived.Deep.DrawnRows
import Derived.Lib.Strings
import Derived.Lib.Walk
import Derived.Lib.Bytealg
import Derived.Below
namespace Go.Proofs.Yboneofku
open Go.RowKit

/-- is the first place older than the second? -/
def olderv (s1 : ByteArray) (n1 t1 : Int) (s2 : ByteArray) (n2 t2 : Int) : Bool :=
  if t1 ≠ t2 then decide (t1 < t2) else if s1.toList ≠ s2.toList then !Op.bytesLess s1.toList s2.toList else decide (n1 < n2)

set_option maxHeartbeats 1000000 in
theorem older_any (s1 s2 : ByteArray) (n1 t1 n2 t2 : Int) (w : World) :
    Calls Ybgu.prog 5 #[.agg #[.string s1, .int .i64 n1, .int .i64 t1], .agg #[.string s2, .int .i64 n2, .int .i64 t2]] w fun e w' => e = .returned (.bool (olderv s1 n1 t1 s2 n2 t2)) ∧ Below w.heap.size w w' := by
  have hb : ∀ o1 o2 : Obj, Below w.heap.size w ((w.alloc o1).alloc o2) := fun o1 o2 => ((Below.refl _ w).alloc (Nat.le_refl _) _).alloc (by simp) _
  unfold olderv
  by_cases ht : t1 = t2
  · rw [if_neg (by simpa using ht)]
    have ht' : (t1 != t2) = false := by simpa using ht
    by_cases hs : s1.toList = s2.toList
    · rw [if_neg (by simpa using hs)]
      have hs' : (s1.toList == s2.toList) = true := by simpa using hs
      go_enter Ybgu.func5, Ybgu.ntmps5
      go_wp2
      go_ret
      exact ⟨rfl, hb _ _⟩
    · rw [if_pos hs]
      have hs' : (s1.toList == s2.toList) = false := by simpa using hs
      go_enter Ybgu.func5, Ybgu.ntmps5
      go_wp2
      go_ret
      exact ⟨rfl, hb _ _⟩
  · rw [if_pos ht]
    have ht' : (t1 != t2) = true := by simpa using ht
    go_enter Ybgu.func5, Ybgu.ntmps5
    go_wp2
    go_ret
    exact ⟨rfl, hb _ _⟩

theorem isNaN_any (x : Int) (w : World) : Calls Ybgu.prog 13 #[.int .i64 x] w fun e w' => e = .returned (.bool false) ∧ w' = w := by
  go_enter Ybgu.func13, Ybgu.ntmps13
  go_wp2
  go_ret
  exact ⟨by simp, rfl⟩

/-- cmp.Compare. -/
def cmpv (x y : Int) : Int := if x < y then -1 else if y < x then 1 else 0

theorem cmpI_any (x y : Int) (w : World) : Calls Ybgu.prog 10 #[.int .i64 x, .int .i64 y] w fun e w' => e = .returned (.int .i64 (cmpv x y)) ∧ w' = w := by
  unfold cmpv
  by_cases h1 : x < y
  · rw [if_pos h1]
    go_enter Ybgu.func10, Ybgu.ntmps10
    go_wp2_with (go_at_call 13; refine (isNaN_any _ _).mono ?_; rintro e w' ⟨rfl, rfl⟩)
    go_ret
    exact ⟨rfl, rfl⟩
  · rw [if_neg h1]
    by_cases h2 : y < x
    · rw [if_pos h2]
      go_enter Ybgu.func10, Ybgu.ntmps10
      go_wp2_with (go_at_call 13; refine (isNaN_any _ _).mono ?_; rintro e w' ⟨rfl, rfl⟩)
      go_ret
      exact ⟨rfl, rfl⟩
    · rw [if_neg h2]
      go_enter Ybgu.func10, Ybgu.ntmps10
      go_wp2_with (go_at_call 13; refine (isNaN_any _ _).mono ?_; rintro e w' ⟨rfl, rfl⟩)
      go_ret
      exact ⟨rfl, rfl⟩

set_option maxHeartbeats 1000000 in
theorem cmpS0_any (a b : ByteArray) (w : World) :
    Calls Ybgu.prog 14 #[.string a, .string b] w fun e w' => e = .returned (.int .i64 (Lib.compareBytes a.data.toList b.data.toList)) ∧ w' = w := by
  go_enter Ybgu.func14, Ybgu.ntmps14
  go_wp2
  rw [run_callFunc_extern Ybgu.func15 (by kernel_rfl) (by kernel_rfl) (by kernel_rfl) (e := Extern.BytealgCompare.compare) (by kernel_rfl), Lib.run_compareString]
  simp only [Result.andThen]
  rw [Oper.upon_value]
  go_wp2
  go_ret
  exact ⟨rfl, rfl⟩

theorem cmpS_any (a b : ByteArray) (w : World) :
    Calls Ybgu.prog 11 #[.string a, .string b] w fun e w' => e = .returned (.int .i64 (Lib.compareBytes a.data.toList b.data.toList)) ∧ w' = w := by
  go_enter Ybgu.func11, Ybgu.ntmps11
  go_wp2_with (go_at_call 14; refine (cmpS0_any _ _ _).mono ?_; rintro e w' ⟨rfl, rfl⟩)
  go_ret
  exact ⟨rfl, rfl⟩

/-- cmp.Or of three. -/
def orv (a b c : Int) : Int := if a ≠ 0 then a else if b ≠ 0 then b else c

set_option maxHeartbeats 1000000 in
theorem or_any (rb cap : Nat) (a b c : Int) (w : World) (h0 : w.cell? ⟨rb, 0, none⟩ = some (.int .i64 a)) (h1 : w.cell? ⟨rb, 1, none⟩ = some (.int .i64 b)) (h2 : w.cell? ⟨rb, 2, none⟩ = some (.int .i64 c)) :
    Calls Ybgu.prog 9 #[.slice (some ⟨rb, 0, none⟩) 3 cap] w fun e w' => e = .returned (.int .i64 (orv a b c)) ∧ w' = w := by
  unfold orv
  by_cases ha : a = 0
  · rw [if_neg (by simpa using ha)]
    have ha' : (a != 0) = false := by simpa using ha
    by_cases hb : b = 0
    · rw [if_neg (by simpa using hb)]
      have hb' : (b != 0) = false := by simpa using hb
      by_cases hc : c = 0
      · have hc' : (c != 0) = false := by simpa using hc
        go_enter Ybgu.func9, Ybgu.ntmps9
        go_wp2
        refine wp_loop_rounds 4 ?_
        rw [rounds_succ]
        go_wp2
        rw [rounds_succ]
        go_wp2
        rw [rounds_succ]
        go_wp2
        rw [rounds_succ]
        go_wp2
        go_ret
        exact ⟨by simp [hc], rfl⟩
      · have hc' : (c != 0) = true := by simpa using hc
        go_enter Ybgu.func9, Ybgu.ntmps9
        go_wp2
        refine wp_loop_rounds 4 ?_
        rw [rounds_succ]
        go_wp2
        rw [rounds_succ]
        go_wp2
        rw [rounds_succ]
        go_wp2
        go_ret
        exact ⟨rfl, rfl⟩
    · rw [if_pos hb]
      have hb' : (b != 0) = true := by simpa using hb
      go_enter Ybgu.func9, Ybgu.ntmps9
      go_wp2
      refine wp_loop_rounds 4 ?_
      rw [rounds_succ]
      go_wp2
      rw [rounds_succ]
      go_wp2
      go_ret
      exact ⟨rfl, rfl⟩
  · rw [if_pos ha]
    have ha' : (a != 0) = true := by simpa using ha
    go_enter Ybgu.func9, Ybgu.ntmps9
    go_wp2
    refine wp_loop_rounds 4 ?_
    rw [rounds_succ]
    go_wp2
    go_ret
    exact ⟨rfl, rfl⟩

/-! ### what the comparison's sign says -/
theorem cmpB_pos : ∀ a b : List UInt8, (0 < Lib.compareBytes a b ↔ a ≠ b ∧ Op.bytesLess a b = false) ∧ (Lib.compareBytes a b = 0 ↔ a = b)
  | [], [] => by simp [Lib.compareBytes]
  | [], _ :: _ => by simp [Lib.compareBytes, Op.bytesLess]
  | _ :: _, [] => by simp [Lib.compareBytes, Op.bytesLess]
  | x :: a, y :: b => by
    have ih := cmpB_pos a b
    unfold Lib.compareBytes Op.bytesLess
    by_cases h1 : x < y
    · have hne : x ≠ y := fun e => by rw [e] at h1; exact UInt8.lt_irrefl y h1
      simp [h1, hne]
    · by_cases h2 : y < x
      · have hne : x ≠ y := fun e => by rw [e] at h2; exact UInt8.lt_irrefl y h2
        simp [h1, h2, hne]
      · have he : x = y := UInt8.le_antisymm (UInt8.not_lt.1 h2) (UInt8.not_lt.1 h1)
        subst he
        simp [h1]
        exact ih

theorem older_cmp (s1 : ByteArray) (n1 t1 : Int) (s2 : ByteArray) (n2 t2 : Int) :
    decide (0 < orv (cmpv t2 t1) (Lib.compareBytes s1.data.toList s2.data.toList) (cmpv n2 n1)) = olderv s1 n1 t1 s2 n2 t2 := by
  have hB := cmpB_pos s1.data.toList s2.data.toList
  unfold olderv orv
  rw [ByteArray.toList_eq, ByteArray.toList_eq]
  generalize s1.data.toList = a at *
  generalize s2.data.toList = b at *
  by_cases ht : t1 = t2
  · subst ht
    have e : cmpv t1 t1 = 0 := by simp [cmpv]
    rw [e]
    by_cases hs : a = b
    · have e2 : Lib.compareBytes a b = 0 := hB.2.2 hs
      rw [e2]
      simp only [ne_eq, not_true_eq_false, if_false, hs]
      unfold cmpv
      by_cases h1 : n2 < n1
      · have : ¬ n1 < n2 := by omega
        simp [h1, this]
      · by_cases h2 : n1 < n2
        · simp [h1, h2]
        · simp [h1, h2]
    · have e2 : Lib.compareBytes a b ≠ 0 := fun h => hs (hB.2.1 h)
      simp only [ne_eq, not_true_eq_false, if_false, hs, e2, not_false_eq_true, if_true]
      by_cases h : Op.bytesLess a b = false
      · have := hB.1.2 ⟨hs, h⟩
        simp [this, h]
      · have h' : Op.bytesLess a b = true := by simpa using h
        have : ¬ 0 < Lib.compareBytes a b := fun h2 => h (hB.1.1 h2).2
        simp [this, h']
  · unfold cmpv
    by_cases h1 : t2 < t1
    · have : ¬ t1 < t2 := by omega
      simp [h1, ht, this]
    · have h2 : t1 < t2 := by omega
      simp [h1, ht, h2]
end Go.Proofs.Yboneofku
