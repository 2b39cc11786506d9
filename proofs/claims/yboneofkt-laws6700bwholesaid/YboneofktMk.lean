/-
  make at the types of this program.
-/
import Derived.Test.YboneofktSf
namespace Go.Proofs.Yboneofkt
open Go.RowKit

theorem Ybgt.info24 : (Ybgt.prog.info? 24).map (fun i => (i.zero, i.size, i.bytes)) = some (some (.slice none 0 0), 1, 24) := by kernel_rfl
theorem Ybgt.info2 : (Ybgt.prog.info? 2).map (fun i => (i.zero, i.size, i.bytes)) = some (some (.int .i64 0), 1, 8) := by kernel_rfl
theorem Ybgt.info30 : (Ybgt.prog.info? 30).map (fun i => (i.zero, i.size, i.bytes)) = some (some (.agg #[.int .i32 0, .int .i64 0, .int .i64 0, .int .i64 0, .int .i64 0, .int .i64 0]), 6, 48) := by kernel_rfl
theorem Ybgt.info36 : (Ybgt.prog.info? 36).map (fun i => (i.zero, i.size, i.bytes)) = some (some (.agg #[.slice none 0 0, .slice none 0 0, .slice none 0 0, .int .i32 0, .slice none 0 0]), 5, 104) := by kernel_rfl

theorem make1 {t e bytes : Nat} {z : Value} (hu : Ybgt.prog.underlying t = some (.slice e)) (hin : (Ybgt.prog.info? e).map (fun i => (i.zero, i.size, i.bytes)) = some (some z, 1, bytes)) (hz : z.cells = #[z]) (hb : bytes ≤ 200) (l n : Nat) (hl : l ≤ n) (hn : n ≤ 1000000) (w : World) :
    (Instr.makeSlice t (.int .i64 (l : Int)) (.int .i64 (n : Int))).run Ybgt.prog w = .ok (.slice (some ⟨w.heap.size, 0, none⟩) l n) (w.alloc (.cells (madeCells #[z] n) e)) := by
  obtain ⟨i0, hi, hz0, hz1, hz2⟩ := info_parts hin
  have hbb : (i0.bytes : Int) * (n : Int) ≤ 281474976710656 := by
    rw [hz2]
    have : bytes * n ≤ 200 * 1000000 := Nat.mul_le_mul hb hn
    omega
  have h := run_make (P := Ybgt.prog) w t e i0 _ hu hi hz0 .i64 .i64 l n (by omega) (by omega) hbb (by omega)
  rw [hz1, hz] at h
  simpa using h

theorem make24 (n : Nat) (hn : n ≤ 1000000) (w : World) : (Instr.makeSlice 24 (.int .i64 (n : Int)) (.int .i64 (n : Int))).run Ybgt.prog w = .ok (.slice (some ⟨w.heap.size, 0, none⟩) n n) (w.alloc (.cells (madeCells #[.int .i32 0] n) 21)) := make1 Ybgt.underlying24 Ybgt.info21 rfl (by omega) n n (Nat.le_refl _) hn w
theorem make24_0 (n : Nat) (hn : n ≤ 1000000) (w : World) : (Instr.makeSlice 24 (.int .i64 0) (.int .i64 (n : Int))).run Ybgt.prog w = .ok (.slice (some ⟨w.heap.size, 0, none⟩) 0 n) (w.alloc (.cells (madeCells #[.int .i32 0] n) 21)) := make1 Ybgt.underlying24 Ybgt.info21 rfl (by omega) 0 n (Nat.zero_le _) hn w
theorem make31 (n : Nat) (hn : n ≤ 1000000) (w : World) : (Instr.makeSlice 31 (.int .i64 (n : Int)) (.int .i64 (n : Int))).run Ybgt.prog w = .ok (.slice (some ⟨w.heap.size, 0, none⟩) n n) (w.alloc (.cells (madeCells #[.int .i64 0] n) 3)) := make1 Ybgt.underlying31 Ybgt.info3 rfl (by omega) n n (Nat.le_refl _) hn w
theorem make34 (n : Nat) (hn : n ≤ 1000000) (w : World) : (Instr.makeSlice 34 (.int .i64 (n : Int)) (.int .i64 (n : Int))).run Ybgt.prog w = .ok (.slice (some ⟨w.heap.size, 0, none⟩) n n) (w.alloc (.cells (madeCells #[.int .i64 0] n) 2)) := make1 Ybgt.underlying34 Ybgt.info2 rfl (by omega) n n (Nat.le_refl _) hn w
theorem make52 (n : Nat) (hn : n ≤ 1000000) (w : World) : (Instr.makeSlice 52 (.int .i64 (n : Int)) (.int .i64 (n : Int))).run Ybgt.prog w = .ok (.slice (some ⟨w.heap.size, 0, none⟩) n n) (w.alloc (.cells (madeCells #[.slice none 0 0] n) 24)) := make1 Ybgt.underlying52 Ybgt.info24 rfl (by omega) n n (Nat.le_refl _) hn w

/-- a row of structs is made: cell j holds the zero of its field. -/
theorem madeK (w : World) (zs : Array Value) (k n T : Nat) (hk : zs.size = k) (hk0 : 0 < k) : Rw (w.alloc (.cells (madeCells zs (n * k)) T)) w.heap.size T (n * k) (fun j => zs[j % k]?.getD default) := by
  have h := World.rowIs_alloc w (madeCells zs (n * k)) T (fun j => zs[j % k]?.getD default) ?_
  · rw [size_madeCells] at h
    exact Rw.ofIs h
  · intro i hi
    rw [size_madeCells] at hi
    simp only [madeCells, Array.getElem?_map, Array.getElem?_range, hi, if_true, Option.map_some, Option.some.injEq, hk]
    have h6 : i % k < zs.size := by rw [hk]; exact Nat.mod_lt _ hk0
    rw [getElem!_pos zs _ h6]
    simp [h6]

theorem make26 (n : Nat) (hn : n ≤ 4096) (w : World) : (Instr.makeSlice 26 (.int .i64 (n : Int)) (.int .i64 (n : Int))).run Ybgt.prog w = .ok (.slice (some ⟨w.heap.size, 0, none⟩) n n) (w.alloc (.cells (madeCells #[.int .i32 0, .int .i64 0, .int .i64 0, .int .i64 0, .int .i64 0, .int .i64 0] (n * 6)) 30)) := by
  obtain ⟨i0, hi, hz0, hz1, hz2⟩ := info_parts Ybgt.info30
  have h := run_make (P := Ybgt.prog) w 26 30 i0 _ Ybgt.underlying26 hi hz0 .i64 .i64 n n (by omega) (by omega) (by rw [hz2]; omega) (by omega)
  rw [hz1] at h
  simpa [Value.cells] using h
theorem make33 (n : Nat) (hn : n ≤ 4096) (w : World) : (Instr.makeSlice 33 (.int .i64 (n : Int)) (.int .i64 (n : Int))).run Ybgt.prog w = .ok (.slice (some ⟨w.heap.size, 0, none⟩) n n) (w.alloc (.cells (madeCells #[.slice none 0 0, .slice none 0 0, .slice none 0 0, .int .i32 0, .slice none 0 0] (n * 5)) 36)) := by
  obtain ⟨i0, hi, hz0, hz1, hz2⟩ := info_parts Ybgt.info36
  have h := run_make (P := Ybgt.prog) w 33 36 i0 _ Ybgt.underlying33 hi hz0 .i64 .i64 n n (by omega) (by omega) (by rw [hz2]; omega) (by omega)
  rw [hz1] at h
  simpa [Value.cells] using h
end Go.Proofs.Yboneofkt
