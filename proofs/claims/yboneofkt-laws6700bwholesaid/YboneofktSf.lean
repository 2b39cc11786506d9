/-
  SortFunc at the closure of newContents.
-/
import Derived.Test.YboneofktCon
namespace Go.Proofs.Yboneofkt
open Go.RowKit Go.Shelf Go.Lib

/-- what the closure answers at two gets. -/
def cfZ (sz : Nat → Int) (m : Nat) (x y : Fin m) : Int := cmpI (sz y.val) (sz x.val)
theorem ltZ (sz : Nat → Int) (m : Nat) (x y : Fin m) : ltOf (cfZ sz m) x y = decide (sz y.val < sz x.val) := by
  unfold ltOf cfZ cmpI
  by_cases h1 : sz y.val < sz x.val
  · simp [h1]
  · by_cases h2 : sz x.val < sz y.val <;> simp [h1, h2]
theorem swoZ (sz : Nat → Int) (m : Nat) : Go.Sort.SWO (ltOf (cfZ sz m)) := by
  constructor
  · intro x; rw [ltZ]; simp
  · intro x y z h1 h2; rw [ltZ] at *; simp at *; omega
  · intro x y z h1 h2; rw [ltZ] at *; simp at *; omega

def encZ (m : Nat) (x : Fin m) : Value := .int .i32 (x.val : Int)

/-- a row sorted by size, the largest first. -/
def ResS (sz : Nat → Int) (blk : Nat) (ks : List Nat) (w : World) (e : Ending) (w' : World) : Prop :=
  e = .returned (.tuple #[]) ∧ ∃ ds : List Nat, ds.Perm ks ∧ ds.Pairwise (fun x y => sz y ≤ sz x) ∧ Rw w' blk 21 ks.length (fun i => .int .i32 ((ds[i]! : Nat) : Int)) ∧ Only blk w w'

theorem sortF12 (sz : Nat → Int) (m cb ct zb zc blk cap : Nat) (ks : List Nat) (w : World) (hm0 : 0 < m) (hks : ∀ k ∈ ks, k < m) (hkl : ks.length ≤ 4096)
    (h0 : w.cell? ⟨cb, 0, none⟩ = some (.pointer (some ⟨ct, 0, none⟩))) (h1 : w.cell? ⟨ct, 3, none⟩ = some (.slice (some ⟨zb, 0, none⟩) m zc)) (hz : ∀ i, i < m → w.cell? ⟨zb, i, none⟩ = some (.int .i32 (sz i)))
    (n1 : cb ≠ blk) (n2 : ct ≠ blk) (n3 : zb ≠ blk) (l1 : cb < w.heap.size) (l2 : ct < w.heap.size) (l3 : zb < w.heap.size)
    (hr : Rw w blk 21 ks.length (fun i => .int .i32 ((ks[i]! : Nat) : Int))) :
    Calls Ybgt.prog 12 #[.slice (some ⟨blk, 0, none⟩) ks.length cap, .func (.func 13) #[] #[.pointer (some ⟨cb, 0, none⟩)]] w (ResS sz blk ks w) := by
  have hin : Inhabited (Fin m) := ⟨⟨0, hm0⟩⟩
  obtain ⟨dl, hdl⟩ : ∃ dl : List (Fin m), dl = ks.pmap (fun k h => (⟨k, h⟩ : Fin m)) hks := ⟨_, rfl⟩
  have hlen : dl.length = ks.length := by rw [hdl]; simp
  have hmap : dl.map (fun x => x.val) = ks := by rw [hdl, List.map_pmap]; simp
  have hH : Go.Sort.Holds (encZ m) w blk 0 dl.toArray := by
    intro j hj
    have hj' : j < dl.length := by simpa using hj
    have hjk : j < ks.length := by omega
    refine ⟨?_, hr.frozen _⟩
    rw [Nat.zero_add, hr.cell hjk]
    congr 1
    unfold encZ
    congr 1
    have e1 : (dl.toArray)[j]! = dl[j]'hj' := by rw [getElem!_pos dl.toArray j hj]; simp
    rw [e1, getElem!_pos ks j hjk]
    have : (dl.map (fun x => x.val))[j]'(by simpa using hj') = dl[j].val := by simp
    rw [← this]
    congr 1
    simp only [hmap]
  have eg : ∀ args w, (callFunc 13 args).run Ybgt.prog w = .ok (.enter 13 args) w := enters_of Ybgt.func13 (by kernel_rfl) rfl
  have hcm : CmpLays1 Ybgt.prog 13 #[.pointer (some ⟨cb, 0, none⟩)] (encZ m) (cfZ sz m) blk 0 dl.toArray.size w := by
    intro q os dk hdk x y
    have cc : ∀ b i, b ≠ blk → b < w.heap.size → (sortWorld (encZ m) w blk 0 q dk os).cell? ⟨b, i, none⟩ = w.cell? ⟨b, i, none⟩ := by
      intro b i hb hl
      unfold sortWorld
      rw [Go.Sort.cell?_grow _ _ _ (by simpa using hl), Go.Sort.cell?_putRow_other _ _ _ _ _ _ (.inl hb)]
      rfl
    refine (closure13 cb ct zb m zc x.val y.val (sz x.val) (sz y.val) _ x.isLt y.isLt (by rw [cc _ _ n1 l1]; exact h0) (by rw [cc _ _ n2 l2]; exact h1) (by rw [cc _ _ n3 l3]; exact hz _ x.isLt) (by rw [cc _ _ n3 l3]; exact hz _ y.isLt)).mono ?_
    rintro e w' ⟨rfl, q', rfl⟩
    exact ⟨rfl, q', #[], by rw [Go.Sort.grow_empty]⟩
  have h := Any.slices_SortFunc Ybgt.sortF (encZ m) (fun _ => rfl) (cfZ sz m) (swoZ sz m) 13 #[.pointer (some ⟨cb, 0, none⟩)] blk 0 cap dl.toArray w eg hcm hH hr.lt (by simp; omega)
  rw [List.size_toArray, hlen] at h
  refine Calls.mono (show Calls Ybgt.prog 12 _ _ _ from h) ?_
  rintro e w' ⟨rfl, d', q, os, ⟨hs, _, hp⟩, hso, rfl⟩
  have hs' : d'.size = ks.length := by rw [hs]; simpa using hlen
  have hperm : d'.toList.Perm dl := by
    rw [← hs', Array.extract_size] at hp
    have : (dl.toArray.extract 0 d'.size).toList = dl := by
      have e : d'.size = dl.toArray.size := by rw [hs]
      rw [e, Array.extract_size]
    rw [this] at hp
    exact hp
  have hget : ∀ i, i < ks.length → ((d'.toList.map (fun x => x.val))[i]! : Nat) = (d'[i]!).val := by
    intro i hi
    rw [getElem!_pos d' i (by omega), getElem!_pos _ i (by simp; omega)]
    simp
  obtain ⟨c, hc1, hc2, hc3⟩ := hr
  refine ⟨rfl, d'.toList.map (fun x => x.val), by rw [← hmap]; exact hperm.map _, ?_, ?_, ?_⟩
  · rw [List.pairwise_map, List.pairwise_iff_getElem]
    intro i j hi hj hij
    have hi' : i < d'.size := by simpa using hi
    have hj' : j < d'.size := by simpa using hj
    have := hso i j (Nat.zero_le _) hij (by omega)
    rw [ltZ, getElem!_pos d' j hj', getElem!_pos d' i hi'] at this
    simp at this ⊢
    exact this
  · refine ⟨Go.Sort.putCells (encZ m) 0 d' c, ?_, ?_, ?_⟩
    · unfold sortWorld
      rw [Go.Sort.heap_grow_old _ _ (by simp; exact (Array.getElem?_eq_some_iff.1 hc1).1)]
      simp [Go.Sort.putRow, Go.Sort.mapBlock, Array.getElem?_modify, hc1, Go.Sort.onCells]
    · simp [Go.Sort.putCells]; omega
    · intro i hi
      have hic : i < c.size := by omega
      have hid : i < d'.size := by omega
      show _ = some (Value.int .i32 ((_ : Nat) : Int))
      rw [hget i hi]
      simp [Go.Sort.putCells, hic, hid, encZ]
  · refine ⟨rfl, rfl, rfl, by simp [sortWorld], fun k hk hx => ?_⟩
    unfold sortWorld
    rw [Go.Sort.heap_grow_old _ _ (by simpa using hk)]
    simp [Go.Sort.putRow, Go.Sort.mapBlock, Array.getElem?_modify, Ne.symm hx]
end Go.Proofs.Yboneofkt
