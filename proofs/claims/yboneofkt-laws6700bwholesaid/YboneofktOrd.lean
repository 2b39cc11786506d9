/-
  The plain side: the order of the gets by session.
-/
namespace Go.Proofs.Yboneofkt

/-- the gets below g of session s. -/
def ros (ss : Nat → Nat) (s g : Nat) : List Nat := (List.range g).filter fun i => ss i == s
theorem ros_succ (ss : Nat → Nat) (s g : Nat) : ros ss s (g + 1) = if ss g = s then ros ss s g ++ [g] else ros ss s g := by
  unfold ros
  rw [List.range_succ, List.filter_append]
  by_cases h : ss g = s
  · simp [h]
  · simp [h]
theorem ros_len (ss : Nat → Nat) (s g : Nat) : (ros ss s g).length ≤ g := by
  have := List.length_filter_le (fun i => ss i == s) (List.range g)
  simpa [ros] using this
/-- the gets of the sessions below s. -/
def RO (ss : Nat → Nat) (m : Nat) : Nat → List Nat
  | 0 => []
  | s + 1 => RO ss m s ++ ros ss s m
def cnt (ss : Nat → Nat) (m s : Nat) : Nat := (ros ss s m).length
def fst (ss : Nat → Nat) (m s : Nat) : Nat := (RO ss m s).length
theorem fst_succ (ss : Nat → Nat) (m s : Nat) : fst ss m (s + 1) = fst ss m s + cnt ss m s := by simp [fst, RO, cnt]
theorem cnt_succ (ss : Nat → Nat) (m s : Nat) : cnt ss (m + 1) s = cnt ss m s + if ss m = s then 1 else 0 := by
  unfold cnt
  rw [ros_succ]
  split <;> simp
theorem fst_grow (ss : Nat → Nat) (m : Nat) : ∀ s, fst ss (m + 1) s = fst ss m s + if ss m < s then 1 else 0
  | 0 => by simp [fst, RO]
  | s + 1 => by
    rw [fst_succ, fst_succ, fst_grow ss m s, cnt_succ]
    by_cases h1 : ss m < s
    · rw [if_pos h1, if_neg (by omega), if_pos (by omega)]; omega
    · by_cases h2 : ss m = s
      · rw [if_neg h1, if_pos h2, if_pos (by omega)]; omega
      · rw [if_neg h1, if_neg h2, if_neg (by omega)]; omega
theorem fst_all (ss : Nat → Nat) (S : Nat) : ∀ m, (∀ g, g < m → ss g < S) → fst ss m S = m
  | 0, _ => by
    have : ∀ s, fst ss 0 s = 0 := by
      intro s
      induction s with
      | zero => rfl
      | succ s ih => rw [fst_succ, ih]; simp [cnt, ros]
    exact this S
  | m + 1, h => by rw [fst_grow, fst_all ss S m (fun g hg => h g (by omega)), if_pos (h m (by omega))]
theorem fst_le (ss : Nat → Nat) (m : Nat) : ∀ s t, s ≤ t → fst ss m s ≤ fst ss m t := by
  intro s t h
  induction t with
  | zero => rw [Nat.le_zero.1 h]; exact Nat.le_refl _
  | succ t ih =>
    by_cases e : s = t + 1
    · rw [e]; exact Nat.le_refl _
    · rw [fst_succ]; exact Nat.le_trans (ih (by omega)) (Nat.le_add_right _ _)
theorem RO_lt (ss : Nat → Nat) (m : Nat) : ∀ s, ∀ x ∈ RO ss m s, x < m
  | 0, x, h => by simp [RO] at h
  | s + 1, x, h => by
    rcases List.mem_append.1 h with h | h
    · exact RO_lt ss m s x h
    · unfold ros at h
      have := (List.mem_filter.1 h).1
      exact List.mem_range.1 this
end Go.Proofs.Yboneofkt
