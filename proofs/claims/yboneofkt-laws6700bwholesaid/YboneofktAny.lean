/-
  A drawn region by an invariant on what has come up.
-/
import Derived.Test.YboneofktLeaf
namespace Go.Proofs.Yboneofkt
open Go.RowKit

section
variable {P : Program} {ops : Array Oper} {Q : Exit → Act → World → Prop} {md : Region.Mode} {S : World → Prop}

theorem ready_unlisted {l : Array Bool} {i : Nat} (h : i ∈ Region.ready md ops l) : l[i]? = some false := by
  have h0 := (mem_ready.1 h).1
  rcases Nat.lt_or_ge i l.size with h' | h'
  · simp [h'] at h0 ⊢; exact h0
  · simp [Array.getElem?_eq_none h'] at h0

theorem count_set {l : Array Bool} {i : Nat} (h : l[i]? = some false) : (l.setIfInBounds i true).toList.count false + 1 = l.toList.count false := by
  obtain ⟨hi, hv⟩ := Array.getElem?_eq_some_iff.1 h
  have hi' : i < l.toList.length := by simpa using hi
  have hv' : l.toList[i] = false := by simpa using hv
  rw [Array.toList_setIfInBounds]
  have := List.count_set (a := true) (b := false) (l := l.toList) (i := i) hi'
  have hp : 0 < l.toList.count false := List.count_pos_iff.2 (by rw [← hv']; exact List.getElem_mem hi')
  have e1 : (if (l.toList[i] == false) = true then 1 else 0) = 1 := by rw [hv']; rfl
  have e2 : (if (true == false) = true then 1 else 0) = 0 := rfl
  rw [this, e1, e2]
  omega

/-- whatever comes up keeps the invariant: whatever order. -/
theorem wpAnyH_inv (I : Array Bool → Act → World → Prop)
    (hstep : ∀ l a w, I l a w → ∀ i ∈ Region.ready md ops l, wpOp P ops Q i (fun a' w' => S w' ∧ I (l.setIfInBounds i true) a' w') a w)
    (hend : ∀ l a w, I l a w → Region.ready md ops l = [] → Q .normal a w) :
    ∀ fuel l a w, I l a w → l.toList.count false ≤ fuel → wpAnyH P md ops Q S fuel l a w
  | 0, l, a, w, h, hc => by
    have hr : Region.ready md ops l = [] := by
      cases hr : Region.ready md ops l with
      | nil => rfl
      | cons i rs =>
        have := count_set (ready_unlisted (md := md) (ops := ops) (l := l) (i := i) (by rw [hr]; simp))
        omega
    exact ⟨hr, hend l a w h hr⟩
  | fuel + 1, l, a, w, h, hc => ⟨hend l a w h, fun i hi => wpOp_mono (fun a' w' h' => ⟨h'.1, wpAnyH_inv I hstep hend fuel _ a' w' h'.2 (by have := count_set (ready_unlisted hi); omega)⟩) (hstep l a w h i hi)⟩
end
end Go.Proofs.Yboneofkt
