/-
  What the session's functions compute, as plain functions of numbers.
-/
import Derived.WalkKit
namespace Go.Proofs.Ybulkehse
open Go.RowKit

/-- the agreed transmit interval. -/
def txv (d r : Int) : Int := if r = 0 then 0 else if r < d then d else r
/-- is the state repeated? -/
def repv (st : Int) (pol : Bool) (rs : Int) : Bool := if pol = true then true else if st = 3 ∨ st = 2 then decide (rs ≠ 3) else decide (rs ≠ 1 ∧ rs ≠ 0)
/-- the interval a gap is drawn at. -/
def gapv (st : Int) (pol : Bool) (d r rs : Int) : Int := if 0 < txv d r then txv d r else if repv st pol rs = true then 1000000000 else 0

/-- the least reduction, in microseconds. -/
def leastv (iv dm lat : Int) : Int :=
  let l := if iv / 8 < lat then iv / 8 else lat
  let lu := if l < 0 then 0 else l / 1000
  let t := if dm = 1 ∧ lu < (iv / 1000 + 9) / 10 then (iv / 1000 + 9) / 10 else lu
  if iv / 1000 / 4 < t then iv / 1000 / 4 else t
/-- the gap. -/
def gapd (iv dm lat r : Int) : Int := (iv / 1000 - (leastv iv dm lat + r % (iv / 1000 / 4 - leastv iv dm lat + 1))) * 1000

theorem leastv_spec (iv dm lat : Int) : ∃ l lu t : Int, ((iv / 8 < lat ∧ l = iv / 8) ∨ (lat ≤ iv / 8 ∧ l = lat)) ∧ ((l < 0 ∧ lu = 0) ∨ (0 ≤ l ∧ lu = l / 1000)) ∧
    ((dm = 1 ∧ lu < (iv / 1000 + 9) / 10 ∧ t = (iv / 1000 + 9) / 10) ∨ ((dm ≠ 1 ∨ (iv / 1000 + 9) / 10 ≤ lu) ∧ t = lu)) ∧ ((iv / 1000 / 4 < t ∧ leastv iv dm lat = iv / 1000 / 4) ∨ (t ≤ iv / 1000 / 4 ∧ leastv iv dm lat = t)) := by
  refine ⟨if iv / 8 < lat then iv / 8 else lat, if (if iv / 8 < lat then iv / 8 else lat) < 0 then 0 else (if iv / 8 < lat then iv / 8 else lat) / 1000,
    if dm = 1 ∧ (if (if iv / 8 < lat then iv / 8 else lat) < 0 then 0 else (if iv / 8 < lat then iv / 8 else lat) / 1000) < (iv / 1000 + 9) / 10 then (iv / 1000 + 9) / 10 else (if (if iv / 8 < lat then iv / 8 else lat) < 0 then 0 else (if iv / 8 < lat then iv / 8 else lat) / 1000), ?_, ?_, ?_, ?_⟩
  · split <;> omega
  · generalize (if iv / 8 < lat then iv / 8 else lat) = l
    split <;> omega
  · generalize (if (if iv / 8 < lat then iv / 8 else lat) < 0 then 0 else (if iv / 8 < lat then iv / 8 else lat) / 1000) = lu
    split <;> omega
  · unfold leastv
    simp only
    generalize (if dm = 1 ∧ (if (if iv / 8 < lat then iv / 8 else lat) < 0 then 0 else (if iv / 8 < lat then iv / 8 else lat) / 1000) < (iv / 1000 + 9) / 10 then (iv / 1000 + 9) / 10 else (if (if iv / 8 < lat then iv / 8 else lat) < 0 then 0 else (if iv / 8 < lat then iv / 8 else lat) / 1000)) = t
    split <;> omega

theorem leastv_bd (iv dm lat : Int) (h : 0 ≤ iv) : 0 ≤ leastv iv dm lat ∧ leastv iv dm lat ≤ iv / 1000 / 4 := by
  unfold leastv
  simp only
  repeat' split
  all_goals omega

theorem tdiv_nonpos (x : Int) (h : x < 0) : x.tdiv 1000 = -(-x / 1000) := by
  obtain ⟨m, rfl⟩ : ∃ m, x = -m := ⟨-x, by omega⟩
  rw [Int.neg_tdiv, Int.tdiv_eq_ediv_of_nonneg (by omega), Int.neg_neg]

theorem wrapU (x : Int) (h0 : 0 ≤ x) (h1 : x < 18446744073709551616) : IntKind.u64.wrap x = x := by
  simp [IntKind.wrap, IntKind.bits, IntKind.signed]; omega

theorem mod_bd (r m : Int) (h : 1 ≤ m) : 0 ≤ r % m ∧ r % m < m := ⟨Int.emod_nonneg _ (by omega), Int.emod_lt_of_pos _ (by omega)⟩

/-- how the two texts spell the gap: the least reduction is all that there is. -/
theorem gap_endA (iv dm lat r : Int) (h : leastv iv dm lat = iv / 1000 / 4) : (iv / 1000 - iv / 1000 / 4) * 1000 = gapd iv dm lat r := by
  unfold gapd
  rw [h, show iv / 1000 / 4 - iv / 1000 / 4 + 1 = 1 by omega, show r % 1 = 0 by omega]
  omega
/-- in general. -/
theorem gap_endB (iv dm lat r ls : Int) (h1 : 1 ≤ iv) (h2 : iv ≤ 9223372036854775807) (h : leastv iv dm lat = ls) :
    wrap64 (wrap64 (IntKind.u64.wrap (iv / 1000 - IntKind.u64.wrap (ls + r % (iv / 1000 / 4 - ls + 1)))) * 1000) = gapd iv dm lat r := by
  have hb := leastv_bd iv dm lat (by omega)
  have hm := mod_bd r (iv / 1000 / 4 - ls + 1) (by omega)
  unfold gapd
  rw [h] at hb ⊢
  generalize r % (iv / 1000 / 4 - ls + 1) = q at *
  rw [wrapU (ls + q) (by omega) (by omega), wrapU (iv / 1000 - (ls + q)) (by omega) (by omega), IntWalk.wrap64_in (iv / 1000 - (ls + q)) ⟨by omega, by omega⟩, IntWalk.wrap64_in ((iv / 1000 - (ls + q)) * 1000) ⟨by omega, by omega⟩]
/-- nothing is asked for. -/
theorem gap_endC (iv dm lat r : Int) (h1 : 1 ≤ iv) (h2 : iv ≤ 9223372036854775807) (h : leastv iv dm lat = 0) :
    wrap64 (wrap64 (IntKind.u64.wrap (iv / 1000 - IntKind.u64.wrap (r % (iv / 1000 / 4 + 1)))) * 1000) = gapd iv dm lat r := by
  have := gap_endB iv dm lat r 0 h1 h2 h
  simpa using this

/-- as the first, the wraps left standing. -/
theorem gap_endD (iv dm lat r : Int) (h1 : 1 ≤ iv) (h2 : iv ≤ 9223372036854775807) (h : leastv iv dm lat = iv / 1000 / 4) :
    wrap64 (wrap64 (IntKind.u64.wrap (iv / 1000 - IntKind.u64.wrap (iv / 1000 / 4))) * 1000) = gapd iv dm lat r := by
  rw [← gap_endA iv dm lat r h, wrapU (iv / 1000 / 4) (by omega) (by omega), wrapU (iv / 1000 - iv / 1000 / 4) (by omega) (by omega), IntWalk.wrap64_in (iv / 1000 - iv / 1000 / 4) ⟨by omega, by omega⟩, IntWalk.wrap64_in ((iv / 1000 - iv / 1000 / 4) * 1000) ⟨by omega, by omega⟩]

/-- the interval that a state other than Up calls for. -/
def slowv (x : Int) : Int := if x < 1000000000 then 1000000000 else x
/-- the required interval likewise. -/
def rxv (slow : Bool) (x : Int) : Int := if slow = true ∧ x ≠ 0 ∧ x < 1000000000 then 1000000000 else x

theorem rx_cases (slow : Bool) (x : Int) : (slow = false ∧ rxv slow x = x) ∨ (slow = true ∧ x = 0 ∧ rxv slow x = x) ∨ (slow = true ∧ x ≠ 0 ∧ rxv slow x = slowv x) := by
  cases slow with
  | false => exact Or.inl ⟨rfl, by simp [rxv]⟩
  | true =>
    by_cases h : x = 0
    · exact Or.inr (Or.inl ⟨rfl, h, by simp [rxv, h]⟩)
    · exact Or.inr (Or.inr ⟨rfl, h, by simp [rxv, slowv, h]⟩)

theorem slowv_bd (x : Int) : 1000000000 ≤ slowv x ∧ x ≤ slowv x := by unfold slowv; split <;> omega

theorem ret_int {k : IntKind} {a b : Int} (h : a = b) : Ending.returned (.int k a) = .returned (.int k b) := by rw [h]

end Go.Proofs.Ybulkehse
