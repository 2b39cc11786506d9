/-
  The law's own walk.
-/
import Derived.Test.YbulkehrqOpen
import Derived.Test.YbulkehrqParts
import Derived.Test.YbulkehrqCalls
namespace Go.Proofs.Ybulkehrq
open Go.RowKit

set_option maxHeartbeats 1000000 in
theorem law_any (hmax : ∀ (md : Int) (bk n c : Nat) (G C R : Nat → Int) (Rm Em : Nat → Bool) (V : Nat → Int) (W : World), 1 ≤ n → n ≤ 2048 → bk < W.heap.size → Apart C R n → (∀ j, j < n * 6 → W.cell? ⟨bk, j, none⟩ = some (opCell G C R Rm Em V (j / 6) (j % 6))) →
    Calls Yba.prog 5 #[.agg #[.int .u8 md, .slice (some ⟨bk, 0, none⟩) n c]] W fun e w' => e = .returned (.int .i64 (best C R n n)) ∧ Below W.heap.size W w')
    (md : Int) (b off n cap : Nat) (G A B : Nat → Int) (Rm Em : Nat → Bool) (V : Nat → Int) (w : World) (hmd : 0 ≤ md ∧ md ≤ 255) (hn1 : 1 ≤ n) (hn : n ≤ 2048) (hb : b < w.heap.size)
    (hA : ∀ j, j < n → -32768 ≤ A j ∧ A j ≤ 32767) (hB : ∀ j, j < n → -32768 ≤ B j ∧ B j ≤ 32767)
    (h0 : ∀ j, j < n → w.cell? ⟨b, off + j * 6, none⟩ = some (.int .i64 (G j)))
    (h1 : ∀ j, j < n → w.cell? ⟨b, off + j * 6 + 1, none⟩ = some (.int .i16 (A j)))
    (h2 : ∀ j, j < n → w.cell? ⟨b, off + j * 6 + 2, none⟩ = some (.int .i16 (B j)))
    (h3 : ∀ j, j < n → w.cell? ⟨b, off + j * 6 + 3, none⟩ = some (.bool (Rm j)))
    (h4 : ∀ j, j < n → w.cell? ⟨b, off + j * 6 + 4, none⟩ = some (.bool (Em j)))
    (h5 : ∀ j, j < n → w.cell? ⟨b, off + j * 6 + 5, none⟩ = some (.int .i64 (V j))) :
    Calls Yba.prog 3 #[.int .u8 md, .slice (some ⟨b, off, none⟩) n cap] w fun e w' => e = .returned (.bool true) ∧ Below w.heap.size w w' := by
  have hmk := make_ops n hn
  have hneq : ∀ (W : World) (n' c' : Nat), (binOp .neq 22 (.slice (some ⟨b, off, none⟩) n cap) (.slice none n' c')).run Yba.prog W = .ok (.bool true) W := fun W n' c' => run_neq_slice_nil_any W _ _ _ _ _ _ _ Yba.underlying22
  go_enter Yba.func3, Yba.ntmps3
  go_wp2
  go_loopw [8] (fun i wr => ∃ k : Nat, k ≤ n ∧ i = .int .i64 k ∧ wr.rowIs w.heap.size 28 (n * 6) (filled (opCell G (fun i => A i * (2 * n + 2) + 2 * i) (fun i => B i * (2 * n + 2) + (2 * i + 1)) Rm Em V) k) ∧ Below w.heap.size w wr)
    (fun i _ => n - (intOf i).toNat)
  case atStart => exact ⟨0, Nat.zero_le _, rfl, made_row _ _ _, (Below.refl _ _).alloc (Nat.le_refl _) _⟩
  case round =>
    obtain ⟨k, hk, rfl, hrow, hbel⟩ := hrel
    by_cases hlt : k < n
    · have c0 := (hbel.cell (p := ⟨b, off + k * 6, none⟩) hb).trans (h0 k hlt)
      have c1 := (hbel.cell (p := ⟨b, off + k * 6 + 1, none⟩) hb).trans (h1 k hlt)
      have c2 := (hbel.cell (p := ⟨b, off + k * 6 + 2, none⟩) hb).trans (h2 k hlt)
      have c3 := (hbel.cell (p := ⟨b, off + k * 6 + 3, none⟩) hb).trans (h3 k hlt)
      have c4 := (hbel.cell (p := ⟨b, off + k * 6 + 4, none⟩) hb).trans (h4 k hlt)
      have c5 := (hbel.cell (p := ⟨b, off + k * 6 + 5, none⟩) hb).trans (h5 k hlt)
      have d0 := hrow.cell (i := k * 6) (by omega)
      have d1 := hrow.cell (i := k * 6 + 1) (by omega)
      have d2 := hrow.cell (i := k * 6 + 2) (by omega)
      have d3 := hrow.cell (i := k * 6 + 3) (by omega)
      have d4 := hrow.cell (i := k * 6 + 4) (by omega)
      have d5 := hrow.cell (i := k * 6 + 5) (by omega)
      have f0 := hrow.frozen
      have hA' := hA k hlt
      have hB' := hB k hlt
      have hsz := hrow.lt
      clear h0 h1 h2 h3 h4 h5 hA hB
      go_wp2
      go_roundw
      case rel =>
        exact ⟨k + 1, by omega, by go_num, row_fill hrow _ _ _ _ _ _ _ rfl (congrArg (Value.int .i64) (wrap_stamp _ _ n hn hA'.1 hA'.2 (by omega) (by omega))) (congrArg (Value.int .i64) (wrap_stamp _ _ n hn hB'.1 hB'.2 (by omega) (by omega))) rfl rfl rfl, below_fill hbel _ _ _ _ _ _ _⟩
      case measure => simp [intOf]; omega
    · have hkn : k = n := by omega
      subst hkn
      have hrow' := hrow.congr (g := fun i => opCell G (fun i => A i * (2 * k + 2) + 2 * i) (fun i => B i * (2 * k + 2) + (2 * i + 1)) Rm Em V (i / 6) (i % 6)) (fun i hi => by unfold filled; rw [if_pos (by omega)])
      have hsz := hrow.lt
      have hmd : 0 ≤ md ∧ md ≤ 255 := hmd
      clear hmk hneq hrow h0 h1 h2 h3 h4 h5
      go_wp2_with fail
      refine (clone_any _ _ _ _ (fun i => opCell_one G _ _ Rm Em V _ _) wr hn hrow').mono ?_
      rintro e w1 ⟨g, capg, rfl, hg1, hg2, hgc, hbel1⟩
      have hz1 := hbel1.size
      go_wp2_with fail
      have hlc : ∀ j, j < k * 6 → (w1.alloc (.cells #[.int .u8 (md % 3), .slice (some ⟨w.heap.size, 0, none⟩) k k] 32)).cell? ⟨w.heap.size, j, none⟩ = some (opCell G (fun i => A i * (2 * k + 2) + 2 * i) (fun i => B i * (2 * k + 2) + (2 * i + 1)) Rm Em V (j / 6) (j % 6)) := fun j hj => by
        rw [World.cell?_alloc_past _ _ _ (by show w.heap.size < w1.heap.size; omega), hbel1.cell (by exact hsz)]
        exact hrow'.cell hj
      refine (hmax (md % 3) w.heap.size k k G _ _ Rm Em V _ hn1 hn (by simp; omega) (apart_of A B k) hlc).mono ?_
      rintro e w2 ⟨rfl, hbel2⟩
      have hz2 := hbel2.size
      simp only [World.size_alloc] at hz2
      have hl2 : ∀ j, j < k * 6 → w2.cell? ⟨w.heap.size, j, none⟩ = some (opCell G (fun i => A i * (2 * k + 2) + 2 * i) (fun i => B i * (2 * k + 2) + (2 * i + 1)) Rm Em V (j / 6) (j % 6)) := fun j hj => by
        rw [hbel2.cell (by simp; omega)]; exact hlc j hj
      have hg2c : ∀ j, j < k * 6 → w2.cell? ⟨g, j, none⟩ = some (opCell G (fun i => A i * (2 * k + 2) + 2 * i) (fun i => B i * (2 * k + 2) + (2 * i + 1)) Rm Em V (j / 6) (j % 6)) := fun j hj => by
        rw [hbel2.cell (by simp; omega), World.cell?_alloc_past _ _ _ (by exact hg2)]; exact hgc j hj
      have hh2 : w2.cell? ⟨w1.heap.size, 0, none⟩ = some (.int .u8 (md % 3)) := by
        rw [hbel2.cell (by simp)]; simp
      have hbelf : Below w.heap.size w w2 := hbel.trans ((hbel1.mono (by omega)).trans (((Below.refl _ w1).alloc (Nat.le_refl _) _).mono (by omega) |>.trans (hbel2.mono (by simp; omega))))
      clear hlc hbel hbel1 hbel2 hgc hrow'
      obtain ⟨C, hC⟩ : ∃ C : Nat → Int, C = fun i => A i * (2 * k + 2) + 2 * i := ⟨_, rfl⟩
      obtain ⟨R, hR⟩ : ∃ R : Nat → Int, R = fun i => B i * (2 * k + 2) + (2 * i + 1) := ⟨_, rfl⟩
      rw [← hC, ← hR] at hl2 hg2c ⊢
      clear hC hR
      have hCc : ∀ j, j < k → w2.cell? ⟨g, 0 + j * 6 + 1, none⟩ = some (.int .i64 (C j)) := fun j hj => by
        rw [Nat.zero_add, hg2c (j * 6 + 1) (by omega), show (j * 6 + 1) / 6 = j by omega, show (j * 6 + 1) % 6 = 1 by omega]; rfl
      have hRc : ∀ j, j < k → w2.cell? ⟨g, 0 + j * 6 + 2, none⟩ = some (.int .i64 (R j)) := fun j hj => by
        rw [Nat.zero_add, hg2c (j * 6 + 2) (by omega), show (j * 6 + 2) / 6 = j by omega, show (j * 6 + 2) % 6 = 2 by omega]; rfl
      go_wp2
      go_loop [14, 15] (fun s i => ∃ q : Nat, q ≤ k ∧ i = .int .i64 q ∧ s = .int .i64 (best C R k q)) (fun _ i => k - (intOf i).toNat)
      case atStart => exact ⟨0, Nat.zero_le _, rfl, rfl⟩
      case round =>
        obtain ⟨q, hq, rfl, rfl⟩ := hrel
        by_cases hlt : q < k
        · have h1 := hCc q hlt
          have h2 := hRc q hlt
          rw [Nat.zero_add] at h1 h2
          have hb1 := best_succ C R k q
          have HB : Hid (best C R k (q + 1) = max (max (best C R k q) (cnt C R (C q) k)) (cnt C R (R q) k)) := hb1
          clear hb1
          have hop := fun t => open_any g 0 k capg C R t w2 hn hCc hRc
          clear hl2 hg2c
          go_wp2_with (go_at_call 6; refine (hop _).mono ?_; rintro e w' ⟨rfl, rfl⟩)
          all_goals
            go_round
            case rel => exact ⟨q + 1, by omega, by go_num, by congr 1; rw [HB.out]; omega⟩
            case measure => simp [intOf]; omega
        · have hqk : q = k := by omega
          subst hqk
          have heq := equal_any w.heap.size q g capg q G C R Rm Em V w2 hn hl2 hg2c
          clear hCc hRc hl2 hg2c
          go_wp2_with (go_at_call 7; refine heq.mono ?_; rintro e w' ⟨rfl, nq, rfl⟩)
          go_ret
          exact ⟨rfl, below_drewN hbelf _⟩
end Go.Proofs.Ybulkehrq
