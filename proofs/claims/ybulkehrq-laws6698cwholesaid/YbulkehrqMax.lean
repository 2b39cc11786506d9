/-
  MaxOverlap: its walk.
-/
import Derived.Test.YbulkehrqPlain
import Derived.Test.YbulkehrqParts
namespace Go.Proofs.Ybulkehrq
open Go.RowKit

theorem Yba.info39 : (Yba.prog.info? 39).map (fun i => (i.zero, i.size, i.bytes)) = some (some (.agg #[.int .i64 0, .int .i64 0]), 2, 16) := by kernel_rfl

theorem make_stamps (n : Nat) (hn : n ≤ 2048) (w : World) : (Instr.makeSlice 37 (.int .i64 0) (.int .i64 (2 * (n : Int)))).run Yba.prog w =
    .ok (.slice (some ⟨w.heap.size, 0, none⟩) 0 (2 * n)) (w.alloc (.cells (madeCells #[.int .i64 0, .int .i64 0] (2 * n * 2)) 39)) := by
  obtain ⟨i0, hi, hz0, hz1, hz2⟩ := info_parts Yba.info39
  have h := run_make (P := Yba.prog) w 37 39 i0 _ Yba.underlying37 hi hz0 .i64 .i64 0 (2 * n) (by omega) (by omega) (by rw [hz2]; omega) (by omega)
  rw [hz1, show ((2 * (n : Int)).toNat) = 2 * n by omega] at h
  simpa [Value.cells] using h

/-- a stamp's two cells. -/
def encSt (x : Int × Int) : List Value := [.int .i64 x.1, .int .i64 x.2]

def stCells (l : List (Int × Int)) : List Value := l.flatMap encSt

theorem stCells_length (l : List (Int × Int)) : (stCells l).length = l.length * 2 := by
  induction l with
  | nil => rfl
  | cons x l ih => simp [stCells, encSt] at ih ⊢; omega

theorem stCells_step (C R : Nat → Int) (k : Nat) : stCells (stamps C R (k + 1)) = stCells (stamps C R k) ++ [.int .i64 (C k), .int .i64 1, .int .i64 (R k), .int .i64 (-1)] := by
  simp [stamps, stCells, encSt]

set_option maxHeartbeats 1000000 in
theorem max_any (hsort : ∀ (base blk n cap : Nat) (l : List (Int × Int)) (W : World), l.length = n → n ≤ 5000 → W.ownsRow base 39 2 (.slice (some ⟨blk, 0, none⟩) n cap) n (stCells l) →
    Calls Yba.prog 8 #[.slice (some ⟨blk, 0, none⟩) n cap, .func (.func 9) #[] #[]] W fun e w' => e = .returned (.tuple #[]) ∧ ∃ D : List (Int × Int), D.Perm l ∧ (D.Pairwise fun x y => x.1 ≤ y.1) ∧
      (∀ j, j < n → w'.cell? ⟨blk, j * 2, none⟩ = some (.int .i64 (D[j]!).1) ∧ w'.cell? ⟨blk, j * 2 + 1, none⟩ = some (.int .i64 (D[j]!).2)) ∧ ∀ B, B ≤ blk → Below B W w')
    (md : Int) (b n c : Nat) (G C R : Nat → Int) (Rm Em : Nat → Bool) (V : Nat → Int) (w : World) (hn1 : 1 ≤ n) (hn : n ≤ 2048) (hb : b < w.heap.size) (hap : Apart C R n)
    (hc : ∀ j, j < n * 6 → w.cell? ⟨b, j, none⟩ = some (opCell G C R Rm Em V (j / 6) (j % 6))) :
    Calls Yba.prog 5 #[.agg #[.int .u8 md, .slice (some ⟨b, 0, none⟩) n c]] w fun e w' => e = .returned (.int .i64 (best C R n n)) ∧ Below w.heap.size w w' := by
  have hmk := make_stamps n hn
  obtain ⟨i0, hi, hz0, hz1, hz2⟩ := info_parts Yba.info39
  go_enter Yba.func5, Yba.ntmps5
  go_wp2
  go_loopw [3, 18] (fun v i wr => ∃ k : Nat, k ≤ n ∧ i = .int .i64 k ∧ v = .slice (some ⟨w.heap.size + 1, 0, none⟩) (2 * k) (2 * n) ∧ wr.ownsRow w.heap.size 39 2 (.slice (some ⟨w.heap.size + 1, 0, none⟩) (2 * k) (2 * n)) (2 * k) (stCells (stamps C R k)) ∧ Below w.heap.size w wr)
    (fun _ i _ => n - (intOf i).toNat)
  case atStart => 
    refine ⟨0, Nat.zero_le _, rfl, rfl, ?_, ?_⟩
    · have := World.ownsRow_made (base := w.heap.size) (e := 39) (size := 2) (w.alloc (.cells #[.int .u8 md, .slice (some ⟨b, 0, none⟩) n c] 32)) (madeCells #[.int .i64 0, .int .i64 0] (2 * n * 2)) (2 * n) (by simp) (by unfold maxLen; omega) (by rw [size_madeCells])
      simpa [stamps, stCells] using this
    · exact ((Below.refl _ _).alloc (Nat.le_refl _) _).alloc (by simp) _
  case round =>
    obtain ⟨k, hk, rfl, rfl, hown, hbel⟩ := hrel
    by_cases hlt : k < n
    · have cc : ∀ q, q < 6 → wr.cell? ⟨b, k * 6 + q, none⟩ = some (opCell G C R Rm Em V k q) := fun q hq => by
        rw [hbel.cell (by exact hb), hc (k * 6 + q) (by omega), show (k * 6 + q) / 6 = k by omega, show (k * 6 + q) % 6 = q by omega]
      have c0 := cc 0 (by omega)
      have c1 := cc 1 (by omega)
      have c2 := cc 2 (by omega)
      have c3 := cc 3 (by omega)
      have c4 := cc 4 (by omega)
      have c5 := cc 5 (by omega)
      simp only [opCell, Nat.add_zero] at c0 c1 c2 c3 c4 c5
      have hsz := (hown.lt _ rfl).2
      clear cc hc
      go_wp2_with (at_builtin; refine wpList_append_fits _ rfl (.tmp 22) (.tmp 29) 37 rfl w.heap.size 39 i0 2 Yba.underlying37 hi hz1 (w.heap.size + 1) (2 * k) (2 * n) (stCells (stamps C R k)) rfl ((hown.alloc _).alloc _) ⟨wr.heap.size + 1, 0, none⟩ 2 2 [.int .i64 (C k), .int .i64 1, .int .i64 (R k), .int .i64 (-1)] rfl rfl ?c1 ?c2 (by omega) ?_)
      case c2 => exact ⟨rfl, rfl, rfl, rfl⟩
      intro w1 hown1 hgrow1
      have hbel1 : Below w.heap.size w w1 := ((hbel.alloc hbel.size _).alloc (by have := hbel.size; simp; omega) _).grown hgrow1 (by have := hbel.size; simp; omega) (fun j hj => by simp at hj; omega)
      clear hgrow1 hown hbel c0 c1 c2 c3 c4 c5
      go_wp2
      go_roundw
      case rel => exact ⟨k + 1, by omega, by go_num, rfl, by rw [stCells_step]; exact hown1, hbel1⟩
      case measure => simp [intOf]; omega
    · have hkn : k = n := by omega
      subst hkn
      go_wp2_with fail
      have hblk := (hown.lt (w.heap.size + 1) rfl).2
      refine (hsort w.heap.size (w.heap.size + 1) (2 * k) (2 * k) (stamps C R k) wr (stamps_length C R k) (by omega) hown).mono ?_
      rintro e w2 ⟨rfl, D, hperm, hpw, hcells, hbelS⟩
      have hbel2 : Below w.heap.size w w2 := hbel.trans (hbelS _ (by omega))
      have hDl : D.length = 2 * k := by rw [hperm.length_eq, stamps_length]
      have hsw : mx D (2 * k) = best C R k k := by rw [← hDl]; exact sweep_eq C R k D hap hperm hpw
      have hDall : ∀ x ∈ D, -1 ≤ x.2 ∧ x.2 ≤ 1 := by
        intro x hx
        obtain ⟨i, _, h | h⟩ := (mem_stamps C R _ k).1 (hperm.mem_iff.1 hx) <;> rw [h] <;> simp
      have hsz2 : w.heap.size + 1 < w2.heap.size := by have := (hbelS 0 (by omega)).size; omega
      have HS : Hid (mx D (2 * k) = best C R k k ∧ D.length = 2 * k) := ⟨hsw, hDl⟩
      clear hsw hDl hperm hpw hbelS hbel hown hap hc hmk
      go_wp2
      go_loopw [6, 7, 36] (fun m o i wq => ∃ q : Nat, q ≤ 2 * k ∧ i = .int .i64 q ∧ o = .int .i64 (tot (D.take q)) ∧ m = .int .i64 (mx D q) ∧ Below w.heap.size w wq ∧ Below (w.heap.size + 2) w2 wq)
        (fun _ _ i _ => 2 * k - (intOf i).toNat)
      case atStart => exact ⟨0, Nat.zero_le _, rfl, rfl, rfl, hbel2, Below.refl _ _⟩
      case round =>
        obtain ⟨q, hq, rfl, rfl, rfl, hb1, hb2⟩ := hrel
        by_cases hlt : q < 2 * k
        · have hqD : q < D.length := by rw [HS.out.2]; exact hlt
          have HT : Hid (tot (D.take (q + 1)) = tot (D.take q) + (D[q]!).2) := by
            show tot (D.take (q + 1)) = _
            rw [List.take_succ_eq_append_getElem hqD, tot_append, getElem!_pos D q hqD]
            simp [tot]
          have d1 : -1 ≤ (D[q]!).2 ∧ (D[q]!).2 ≤ 1 := hDall _ (by rw [getElem!_pos D q hqD]; exact List.getElem_mem _)
          have hbd := tot_bd (D.take q) (fun x hx => hDall x (List.mem_of_mem_take hx))
          have hln : (D.take q).length = q := by simp; omega
          rw [hln] at hbd
          have c0 := (hb2.cell (p := ⟨w.heap.size + 1, q * 2, none⟩) (by show w.heap.size + 1 < w.heap.size + 2; omega)).trans (hcells q hlt).1
          have c1 := (hb2.cell (p := ⟨w.heap.size + 1, q * 2 + 1, none⟩) (by show w.heap.size + 1 < w.heap.size + 2; omega)).trans (hcells q hlt).2
          generalize (D[q]!).1 = x1 at c0
          generalize (D[q]!).2 = x2 at c1 d1 HT
          have hzq := hb2.size
          clear hcells hDall hln
          generalize hT : tot (D.take q) = T at *
          generalize hM : mx D q = M at *
          have HM : Hid (tot (D.take q) = T ∧ mx D q = M) := ⟨hT, hM⟩
          clear hT hM
          go_wp2
          go_roundw
          case rel => exact ⟨q + 1, by omega, by go_num, by rw [HT.out], by rw [mx_succ, HT.out, HM.out.2]; congr 1; split <;> omega, hb1.alloc (by omega) _, hb2.alloc (by omega) _⟩
          case measure => simp [intOf]; omega
        · have hqk : q = 2 * k := by omega
          subst hqk
          go_wp2
          go_ret
          exact ⟨by rw [← HS.out.1]; rfl, hb1⟩
end Go.Proofs.Ybulkehrq
