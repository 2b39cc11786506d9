/-
  The plain law: no Go in sight. The sweep over the stamps in ascending order finds what counting finds.
-/
import Derived.Sort.LotA
namespace Go.Proofs.Ybulkehrq

/-- calls at or before t minus returns at or before t, among the first k operations. -/
def cnt (C R : Nat → Int) (t : Int) : Nat → Int
  | 0 => 0
  | k + 1 => cnt C R t k + (if C k ≤ t then 1 else 0) - (if R k ≤ t then 1 else 0)

theorem cnt_succ (C R : Nat → Int) (t : Int) (k : Nat) : cnt C R t (k + 1) = cnt C R t k + (if C k ≤ t then 1 else 0) - (if R k ≤ t then 1 else 0) := rfl

theorem cnt_bd (C R : Nat → Int) (t : Int) : ∀ k : Nat, -(k : Int) ≤ cnt C R t k ∧ cnt C R t k ≤ k
  | 0 => by simp [cnt]
  | k + 1 => by
    have := cnt_bd C R t k
    unfold cnt
    split <;> split <;> omega

/-- what the law's second loop has after k rounds. -/
def best (C R : Nat → Int) (n : Nat) : Nat → Int
  | 0 => 0
  | k + 1 => max (max (best C R n k) (cnt C R (C k) n)) (cnt C R (R k) n)

theorem best_succ (C R : Nat → Int) (n k : Nat) : best C R n (k + 1) = max (max (best C R n k) (cnt C R (C k) n)) (cnt C R (R k) n) := rfl

/-- the stamps, in the order in which they are appended. -/
def stamps (C R : Nat → Int) : Nat → List (Int × Int)
  | 0 => []
  | k + 1 => stamps C R k ++ [(C k, 1), (R k, -1)]

theorem stamps_length (C R : Nat → Int) : ∀ k, (stamps C R k).length = 2 * k
  | 0 => rfl
  | k + 1 => by simp [stamps, stamps_length C R k]; omega

def sumLe : List (Int × Int) → Int → Int
  | [], _ => 0
  | x :: r, t => (if x.1 ≤ t then x.2 else 0) + sumLe r t
def tot : List (Int × Int) → Int
  | [] => 0
  | x :: r => x.2 + tot r

theorem sumLe_append (l r : List (Int × Int)) (t : Int) : sumLe (l ++ r) t = sumLe l t + sumLe r t := by
  induction l with
  | nil => simp [sumLe]
  | cons x l ih => simp only [List.cons_append, sumLe, ih]; omega
theorem tot_append (l r : List (Int × Int)) : tot (l ++ r) = tot l + tot r := by
  induction l with
  | nil => simp [tot]
  | cons x l ih => simp only [List.cons_append, tot, ih]; omega

theorem sumLe_perm {l r : List (Int × Int)} (h : l.Perm r) (t : Int) : sumLe l t = sumLe r t := by
  induction h with
  | nil => rfl
  | cons x _ ih => simp only [sumLe, ih]
  | swap x y l => simp only [sumLe]; omega
  | trans _ _ h1 h2 => exact h1.trans h2

theorem sumLe_all (l : List (Int × Int)) (t : Int) (h : ∀ x ∈ l, x.1 ≤ t) : sumLe l t = tot l := by
  induction l with
  | nil => rfl
  | cons x l ih =>
    simp only [sumLe, tot]
    rw [if_pos (h x (by simp)), ih (fun y hy => h y (by simp [hy]))]
theorem sumLe_none (l : List (Int × Int)) (t : Int) (h : ∀ x ∈ l, t < x.1) : sumLe l t = 0 := by
  induction l with
  | nil => rfl
  | cons x l ih =>
    have := h x (by simp)
    simp only [sumLe]
    rw [if_neg (by omega), ih (fun y hy => h y (by simp [hy]))]
    rfl

theorem cnt_sumLe (C R : Nat → Int) (t : Int) : ∀ k, cnt C R t k = sumLe (stamps C R k) t
  | 0 => rfl
  | k + 1 => by
    rw [cnt_succ, stamps, sumLe_append, cnt_sumLe C R t k]
    simp only [sumLe]
    split <;> split <;> omega

/-- m is the greatest of 0 and the counts at the stamps. -/
def IsBest (S : List (Int × Int)) (m : Int) : Prop :=
  (m = 0 ∨ ∃ x ∈ S, m = sumLe S x.1) ∧ 0 ≤ m ∧ ∀ x ∈ S, sumLe S x.1 ≤ m

theorem IsBest.unique {S : List (Int × Int)} {m m' : Int} (h : IsBest S m) (h' : IsBest S m') : m = m' := by
  obtain ⟨h1, h2, h3⟩ := h
  obtain ⟨g1, g2, g3⟩ := h'
  have a : m ≤ m' := by
    rcases h1 with rfl | ⟨x, hx, rfl⟩
    · exact g2
    · exact g3 x hx
  have b : m' ≤ m := by
    rcases g1 with rfl | ⟨x, hx, rfl⟩
    · exact h2
    · exact h3 x hx
  omega

theorem IsBest.perm {S S' : List (Int × Int)} {m : Int} (h : IsBest S m) (hp : S.Perm S') : IsBest S' m := by
  obtain ⟨h1, h2, h3⟩ := h
  refine ⟨?_, h2, fun x hx => ?_⟩
  · rcases h1 with h1 | ⟨x, hx, h1⟩
    · exact Or.inl h1
    · exact Or.inr ⟨x, hp.mem_iff.1 hx, by rw [h1, sumLe_perm hp]⟩
  · rw [← sumLe_perm hp]
    exact h3 x (hp.mem_iff.2 hx)

theorem best_is (C R : Nat → Int) (n : Nat) : ∀ k, k ≤ n →
    (best C R n k = 0 ∨ ∃ i, i < k ∧ (best C R n k = cnt C R (C i) n ∨ best C R n k = cnt C R (R i) n)) ∧ 0 ≤ best C R n k ∧ ∀ i, i < k → cnt C R (C i) n ≤ best C R n k ∧ cnt C R (R i) n ≤ best C R n k
  | 0, _ => ⟨Or.inl rfl, Int.le_refl _, fun i hi => by omega⟩
  | k + 1, hk => by
    obtain ⟨h1, h2, h3⟩ := best_is C R n k (by omega)
    have hs := best_succ C R n k
    refine ⟨?_, by omega, fun i hi => ?_⟩
    · by_cases a : cnt C R (R k) n ≥ max (best C R n k) (cnt C R (C k) n)
      · exact Or.inr ⟨k, by omega, Or.inr (by omega)⟩
      · by_cases b : cnt C R (C k) n ≥ best C R n k
        · exact Or.inr ⟨k, by omega, Or.inl (by omega)⟩
        · rcases h1 with h1 | ⟨i, hi, h1⟩
          · exact Or.inl (by omega)
          · refine Or.inr ⟨i, by omega, ?_⟩
            rcases h1 with h1 | h1
            · exact Or.inl (by omega)
            · exact Or.inr (by omega)
    · by_cases e : i = k
      · subst e; omega
      · have := h3 i (by omega); omega

theorem mem_stamps (C R : Nat → Int) (x : Int × Int) : ∀ k, x ∈ stamps C R k ↔ ∃ i, i < k ∧ (x = (C i, 1) ∨ x = (R i, -1))
  | 0 => by simp [stamps]
  | k + 1 => by
    rw [stamps, List.mem_append, mem_stamps C R x k]
    constructor
    · rintro (⟨i, hi, h⟩ | h)
      · exact ⟨i, by omega, h⟩
      · exact ⟨k, by omega, by simpa using h⟩
    · rintro ⟨i, hi, h⟩
      by_cases e : i = k
      · subst e; exact Or.inr (by simpa using h)
      · exact Or.inl ⟨i, by omega, h⟩

theorem best_isBest (C R : Nat → Int) (n : Nat) : IsBest (stamps C R n) (best C R n n) := by
  obtain ⟨h1, h2, h3⟩ := best_is C R n n (Nat.le_refl _)
  refine ⟨?_, h2, fun x hx => ?_⟩
  · rcases h1 with h1 | ⟨i, hi, h1 | h1⟩
    · exact Or.inl h1
    · exact Or.inr ⟨(C i, 1), (mem_stamps C R _ n).2 ⟨i, hi, Or.inl rfl⟩, by rw [h1, cnt_sumLe]⟩
    · exact Or.inr ⟨(R i, -1), (mem_stamps C R _ n).2 ⟨i, hi, Or.inr rfl⟩, by rw [h1, cnt_sumLe]⟩
  · obtain ⟨i, hi, rfl | rfl⟩ := (mem_stamps C R x n).1 hx
    · have := (h3 i hi).1; rw [cnt_sumLe] at this; exact this
    · have := (h3 i hi).2; rw [cnt_sumLe] at this; exact this

/-- what the sweep has after k rounds. -/
def mx (D : List (Int × Int)) : Nat → Int
  | 0 => 0
  | k + 1 => max (mx D k) (tot (D.take (k + 1)))

theorem mx_succ (D : List (Int × Int)) (k : Nat) : mx D (k + 1) = max (mx D k) (tot (D.take (k + 1))) := rfl

theorem tot_take (D : List (Int × Int)) (k : Nat) (h : k < D.length) (hD : D.Pairwise fun x y => x.1 < y.1) : tot (D.take (k + 1)) = sumLe D (D[k]).1 := by
  have e : D = D.take (k + 1) ++ D.drop (k + 1) := (List.take_append_drop _ _).symm
  conv => rhs; arg 1; rw [e]
  rw [sumLe_append, sumLe_all, sumLe_none]
  · omega
  · intro x hx
    obtain ⟨j, hj, rfl⟩ := List.mem_iff_getElem.1 hx
    rw [List.getElem_drop]
    exact List.pairwise_iff_getElem.1 hD k (k + 1 + j) h (by simp at hj; omega) (by omega)
  · intro x hx
    obtain ⟨j, hj, rfl⟩ := List.mem_iff_getElem.1 hx
    rw [List.getElem_take]
    have hj' : j < k + 1 := by simp at hj; omega
    by_cases e : j = k
    · subst e; exact Int.le_refl _
    · exact Int.le_of_lt (List.pairwise_iff_getElem.1 hD j k (by omega) h (by omega))

theorem mx_is (D : List (Int × Int)) (hD : D.Pairwise fun x y => x.1 < y.1) : ∀ k, k ≤ D.length →
    (mx D k = 0 ∨ ∃ x ∈ D, mx D k = sumLe D x.1) ∧ 0 ≤ mx D k ∧ ∀ i (h : i < D.length), i < k → sumLe D (D[i]).1 ≤ mx D k
  | 0, _ => ⟨Or.inl rfl, Int.le_refl _, fun i _ hi => by omega⟩
  | k + 1, hk => by
    obtain ⟨h1, h2, h3⟩ := mx_is D hD k (by omega)
    have hs := mx_succ D k
    have ht := tot_take D k (by omega) hD
    rw [ht] at hs
    refine ⟨?_, by omega, fun i hi hik => ?_⟩
    · by_cases a : sumLe D (D[k]).1 ≥ mx D k
      · exact Or.inr ⟨D[k], List.getElem_mem _, by omega⟩
      · have e : mx D (k + 1) = mx D k := by omega
        rw [e]; exact h1
    · by_cases e : i = k
      · subst e; omega
      · have := h3 i hi (by omega); omega

theorem mx_isBest (D : List (Int × Int)) (hD : D.Pairwise fun x y => x.1 < y.1) : IsBest D (mx D D.length) := by
  obtain ⟨h1, h2, h3⟩ := mx_is D hD D.length (Nat.le_refl _)
  refine ⟨h1, h2, fun x hx => ?_⟩
  obtain ⟨j, hj, rfl⟩ := List.mem_iff_getElem.1 hx
  exact h3 j hj hj

/-- No stamp stands twice. -/
def Apart (C R : Nat → Int) (n : Nat) : Prop := ∀ i j, i < n → j < n → C i ≠ R j ∧ (i ≠ j → C i ≠ C j ∧ R i ≠ R j)

theorem stamps_nodup (C R : Nat → Int) (n : Nat) (h : Apart C R n) : ∀ k, k ≤ n → ((stamps C R k).map Prod.fst).Nodup
  | 0, _ => by simp [stamps]
  | k + 1, hk => by
    rw [stamps, List.map_append, List.nodup_append]
    refine ⟨stamps_nodup C R n h k (by omega), by simpa using (h k k (by omega) (by omega)).1, ?_⟩
    intro a ha b hb
    obtain ⟨x, hx, rfl⟩ := List.mem_map.1 ha
    obtain ⟨i, hi, rfl | rfl⟩ := (mem_stamps C R x k).1 hx <;> simp at hb <;> rcases hb with rfl | rfl
    · exact ((h i k (by omega) (by omega)).2 (by omega)).1
    · exact (h i k (by omega) (by omega)).1
    · exact fun e => (h k i (by omega) (by omega)).1 e.symm
    · exact ((h i k (by omega) (by omega)).2 (by omega)).2

/-- THE LAW: a permutation of the stamps that ascends, swept, gives what counting gives. -/
theorem sweep_eq (C R : Nat → Int) (n : Nat) (D : List (Int × Int)) (h : Apart C R n) (hp : D.Perm (stamps C R n)) (hs : D.Pairwise fun x y => x.1 ≤ y.1) : mx D D.length = best C R n n := by
  have hn : (D.map Prod.fst).Nodup := (hp.map Prod.fst).nodup_iff.2 (stamps_nodup C R n h n (Nat.le_refl _))
  have hlt : D.Pairwise fun x y => x.1 < y.1 := by
    have hn' : D.Pairwise fun x y => x.1 ≠ y.1 := by
      rw [List.Nodup, List.pairwise_map] at hn; exact hn
    rw [List.pairwise_iff_getElem] at hs hn' ⊢
    intro i j hi hj hij
    have h1 := hs i j hi hj hij
    have h2 := hn' i j hi hj hij
    omega
  exact IsBest.unique ((mx_isBest D hlt).perm hp) (best_isBest C R n)

theorem tot_bd (D : List (Int × Int)) (h : ∀ x ∈ D, -1 ≤ x.2 ∧ x.2 ≤ 1) : -(D.length : Int) ≤ tot D ∧ tot D ≤ D.length := by
  induction D with
  | nil => simp [tot]
  | cons x D ih =>
    have h1 := h x (by simp)
    have h2 := ih (fun y hy => h y (by simp [hy]))
    simp only [tot, List.length_cons]
    omega

/-- The stamps that the law lays: no two alike. -/
theorem apart_of (A B : Nat → Int) (n : Nat) : Apart (fun i => A i * (2 * n + 2) + 2 * i) (fun i => B i * (2 * n + 2) + (2 * i + 1)) n := by
  have key : ∀ a b r s : Int, 0 ≤ r → r < 2 * n + 2 → 0 ≤ s → s < 2 * n + 2 → a * (2 * n + 2) + r = b * (2 * n + 2) + s → r = s := by
    intro a b r s h1 h2 h3 h4 h5
    have e1 : (a * (2 * n + 2) + r) % (2 * n + 2) = r := by rw [Int.add_comm, Int.add_mul_emod_self_right, Int.emod_eq_of_lt h1 h2]
    have e2 : (b * (2 * n + 2) + s) % (2 * n + 2) = s := by rw [Int.add_comm, Int.add_mul_emod_self_right, Int.emod_eq_of_lt h3 h4]
    rw [← e1, ← e2, h5]
  intro i j hi hj
  refine ⟨fun e => ?_, fun hne => ⟨fun e => ?_, fun e => ?_⟩⟩
  · have := key _ _ _ _ (by omega) (by omega) (by omega) (by omega) e; omega
  · have := key _ _ _ _ (by omega) (by omega) (by omega) (by omega) e; omega
  · have := key _ _ _ _ (by omega) (by omega) (by omega) (by omega) e; omega

end Go.Proofs.Ybulkehrq
