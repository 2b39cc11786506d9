/-
  place.compare, item.id, item.place.
-/
import Derived.Test.YboneofkuLeaf
import Derived.Deep.RegionHeld3
namespace Go.Proofs.Yboneofku
open Go.RowKit

set_option maxHeartbeats 2000000 in
theorem compare_any (s1 s2 : ByteArray) (n1 t1 n2 t2 : Int) (w : World) :
    Calls Ybgu.prog 7 #[.agg #[.string s1, .int .i64 n1, .int .i64 t1], .agg #[.string s2, .int .i64 n2, .int .i64 t2]] w
      fun e w' => e = .returned (.int .i64 (orv (cmpv t2 t1) (Lib.compareBytes s1.data.toList s2.data.toList) (cmpv n2 n1))) ∧ Below w.heap.size w w' := by
  have hb : ∀ o1 o2 : Obj, Below w.heap.size w ((w.alloc o1).alloc o2) := fun o1 o2 => ((Below.refl _ w).alloc (Nat.le_refl _) _).alloc (by simp) _
  have hb3 : ∀ (o1 o2 o3 : Obj) q, Below w.heap.size w ((((w.alloc o1).alloc o2).alloc o3).drewN q) := fun o1 o2 o3 q => below_drewN ((hb o1 o2).alloc (by simp; omega) _) q
  go_enter Ybgu.func7, Ybgu.ntmps7
  go_wp2
  go_region_held3 (fun w' => w'.cell? ⟨w.heap.size, 0, none⟩ = some (.string s1) ∧ w'.cell? ⟨w.heap.size, 1, none⟩ = some (.int .i64 n1) ∧ w'.cell? ⟨w.heap.size, 2, none⟩ = some (.int .i64 t1) ∧ w'.cell? ⟨w.heap.size + 1, 0, none⟩ = some (.string s2) ∧ w'.cell? ⟨w.heap.size + 1, 1, none⟩ = some (.int .i64 n2) ∧ w'.cell? ⟨w.heap.size + 1, 2, none⟩ = some (.int .i64 t2)) (go_keep)
    (first | (go_at_call 10; refine (cmpI_any _ _ _).mono ?_; rintro e w' ⟨rfl, rfl⟩) | (go_at_call 11; refine (cmpS_any _ _ _).mono ?_; rintro e w' ⟨rfl, rfl⟩) | (go_at_call 9; refine (or_any _ _ (cmpv t2 t1) (Lib.compareBytes s1.data.toList s2.data.toList) (cmpv n2 n1) _ (by simp; rw [World.cell?_alloc_at (hn := by simp)]; rfl) (by simp; rw [World.cell?_alloc_at (hn := by simp)]; rfl) (by simp; rw [World.cell?_alloc_at (hn := by simp)]; rfl)).mono ?_; rintro e w' ⟨rfl, rfl⟩))
  go_wp2
  go_ret
  exact ⟨rfl, hb3 _ _ _ _⟩

/-- an item as it is built: its twenty cells. -/
def itemv (st : Bool) (t : Int) (s : ByteArray) (n : Int) : Array Value :=
  #[.string ⟨#[]⟩, .bool st, .int .i64 t, .string s, .int .i64 n, .int .i64 0, .int .i64 0, .int .i64 0, .int .i64 0, .bool false, .int .u64 0, .int .u64 0, .int .i64 0, .slice none 0 0, .string ⟨#[]⟩, .bool false, .slice none 0 0, .slice none 0 0, .int .i64 0, .bool false]

theorem zero48 (w : World) : (zeroValue 48).run Ybgu.prog w = .ok (.agg (itemv false 0 ⟨#[]⟩ 0)) w := by kernel_rfl

theorem id_any (c : Array Value) (s : ByteArray) (n : Int) (w : World) (k3 : c[3]? = some (.string s)) (k4 : c[4]? = some (.int .i64 n)) :
    Calls Ybgu.prog 12 #[.agg c] w fun e w' => e = .returned (.agg #[.string s, .int .i64 n]) ∧ w' = (w.alloc (.cells c 48)).alloc (.cells #[.string s, .int .i64 n] 35) := by
  go_enter Ybgu.func12, Ybgu.ntmps12
  go_wp2
  refine bodyPost_ret_by (results_cell_row (p := 2) (ty := 35) rfl _ _ (w.heap.size + 1) 35 #[.string s, .int .i64 n] _ _ rfl (heap_alloc2_new _ _ _) Ybgu.underlying35 rfl (by kernel_rfl)) rfl ⟨rfl, rfl⟩

theorem info48 : (Ybgu.prog.info? 48).map (·.size) = some 20 := by kernel_rfl

set_option maxHeartbeats 2000000 in
set_option linter.unusedSimpArgs false in
theorem place_any (cs : List Value) (s : ByteArray) (n t : Int) (w : World) (hl : cs.length = 20) (k2 : cs[2]? = some (.int .i64 t)) (k3 : cs[3]? = some (.string s)) (k4 : cs[4]? = some (.int .i64 n)) :
    Calls Ybgu.prog 8 #[.agg cs.toArray] w fun e w' => e = .returned (.agg #[.string s, .int .i64 n, .int .i64 t]) ∧ Below w.heap.size w w' := by
  have hid := fun W => id_any cs.toArray s n W (by simpa using k3) (by simpa using k4)
  have hu := Ybgu.underlying48
  have hi : (Ybgu.prog.info? 48).map (·.size) = some cs.length := by rw [hl]; exact info48
  go_enter Ybgu.func8, Ybgu.ntmps8
  go_wp2
  have hr : ((w.alloc (.cells cs.toArray 48)).alloc (.cells #[.string ⟨#[]⟩, .int .i64 0, .int .i64 0] 37)).rangeAt w.heap.size 0 cs := World.rangeAt_alloc (fun j v hv => by rw [Nat.zero_add, World.cell?_alloc_at (hn := rfl)]; simpa using hv) _
  have h2 : ((w.alloc (.cells cs.toArray 48)).alloc (.cells #[.string ⟨#[]⟩, .int .i64 0, .int .i64 0] 37)).cell? ⟨w.heap.size, 2, none⟩ = some (.int .i64 t) := by rw [World.cell?_alloc_past (hn := by simp), World.cell?_alloc_at (hn := rfl)]; simpa using k2
  refine wp_region_noPanic ?_
  refine wp_region_held_drew (S := fun w' => w'.rangeAt w.heap.size 0 cs ∧ w'.cell? ⟨w.heap.size, 2, none⟩ = some (.int .i64 t)) (by kernel_rfl) ⟨by simpa using hr, by simpa using h2⟩ (fun hHeld => ?_)
  refine wpAnyH_take (i := 0) (v := .agg cs.toArray) rfl (by kernel_rfl) (by kernel_rfl) (by kernel_rfl) (fun _ _ _ h => h) (yieldsIf_load_mid (by rfl) 48 (.tmp 1) rfl w.heap.size 0 rfl cs _ (fun W hW => hW.1) Ybgu.underlying48 rfl hi) hHeld ?_
  simp only [Act.put, List.setIfInBounds_toArray, List.set_cons_zero, List.set_cons_succ]
  refine wpAnyH_take (i := 2) (v := .pointer (some ⟨w.heap.size, 1, none⟩)) rfl (by kernel_rfl) (by kernel_rfl) (by kernel_rfl) (fun _ _ _ h => h) (Or.inl ⟨by rfl, fun W hW => ?_⟩) hHeld ?_
  · go_simp
  simp only [Act.put, List.setIfInBounds_toArray, List.set_cons_zero, List.set_cons_succ]
  refine wpAnyH_take (i := 3) (v := .pointer (some ⟨w.heap.size, 2, none⟩)) rfl (by kernel_rfl) (by kernel_rfl) (by kernel_rfl) (fun _ _ _ h => h) (Or.inl ⟨by rfl, fun W hW => ?_⟩) hHeld ?_
  · go_simp
  simp only [Act.put, List.setIfInBounds_toArray, List.set_cons_zero, List.set_cons_succ]
  refine wpAnyH_take (i := 4) (v := .int .i64 t) rfl (by kernel_rfl) (by kernel_rfl) (by kernel_rfl) (fun _ _ _ h => h) (Or.inl ⟨by rfl, fun W hW => ?_⟩) hHeld ?_
  · have hW2 := hW.2
    go_simp
  simp only [Act.put, List.setIfInBounds_toArray, List.set_cons_zero, List.set_cons_succ]
  refine wpAnyH_ready (rs := [1]) (by kernel_rfl) (by simp) (AllReadyH.cons rfl (fun K hK => ?_) AllReadyH.nil)
  go_simp
  refine (hid _).mono ?_
  rintro e w1 ⟨rfl, rfl⟩
  go_wp2_with fail
  refine hK.out _ _ ⟨?_, ?_⟩ (fun hHeld2 => ?_)
  · simp [World.rangeAt_alloc, hr]
  · rw [World.cell?_drew, World.cell?_alloc_past (hn := by simp <;> omega), World.cell?_alloc_past (hn := by simp <;> omega)]
    exact h2
  refine wpAnyH_take (i := 5) (v := .agg #[.string s, .int .i64 n, .int .i64 t]) rfl (by kernel_rfl) (by kernel_rfl) (by kernel_rfl) (fun _ _ _ h => h) (Or.inl ⟨by rfl, fun W hW => ?_⟩) hHeld2 ?_
  · go_simp
  simp only [Act.put, List.setIfInBounds_toArray, List.set_cons_zero, List.set_cons_succ]
  refine wpAnyH_ready (rs := [6]) (by kernel_rfl) (by simp) (AllReadyH.cons rfl (fun K2 hK2 => ?_) AllReadyH.nil)
  go_simp
  refine hK2.out _ _ ⟨?_, ?_⟩ (fun _ => ?_)
  · have hr2 : (((w.alloc (.cells cs.toArray 48)).alloc (.cells #[.string s, .int .i64 n, .int .i64 t] 37))).rangeAt w.heap.size 0 cs := World.rangeAt_alloc (fun j v hv => by rw [Nat.zero_add, World.cell?_alloc_at (hn := rfl)]; simpa using hv) _
    simp [World.rangeAt_alloc, hr2]
  · rw [World.cell?_drew, World.cell?_alloc_past (hn := by simp <;> omega), World.cell?_alloc_past (hn := by simp <;> omega), World.cell?_alloc_past (hn := by simp), World.cell?_alloc_at (hn := rfl)]
    simpa using k2
  refine wpAnyH_done (by kernel_rfl) ?_ _
  refine NoPanic.normal ?_
  go_wp2
  have hh : (World.drew ((((w.alloc (.cells cs.toArray 48)).alloc (.cells #[.string s, .int .i64 n, .int .i64 t] 37)).alloc (.cells cs.toArray 48)).alloc (.cells #[.string s, .int .i64 n] 35))).heap[w.heap.size + 1]? = some (.cells #[.string s, .int .i64 n, .int .i64 t] 37) := by
    show ((((w.alloc (.cells cs.toArray 48)).alloc (.cells #[.string s, .int .i64 n, .int .i64 t] 37)).alloc (.cells cs.toArray 48)).alloc (.cells #[.string s, .int .i64 n] 35)).heap[w.heap.size + 1]? = _
    rw [Below.heap_alloc _ _ _ (by simp <;> omega), Below.heap_alloc _ _ _ (by simp)]
    exact heap_alloc2_new _ _ _
  refine bodyPost_ret_by (results_cell_row (p := 2) (ty := 37) rfl _ _ (w.heap.size + 1) 37 #[.string s, .int .i64 n, .int .i64 t] _ _ rfl hh Ybgu.underlying37 rfl (by kernel_rfl)) rfl ⟨rfl, ?_⟩
  exact ((((((Below.refl _ w).alloc (Nat.le_refl _) _).alloc (by simp) _).alloc (by simp <;> omega) _).alloc (by simp <;> omega) _).drew)
end Go.Proofs.Yboneofku
