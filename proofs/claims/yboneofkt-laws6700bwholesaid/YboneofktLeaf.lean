/-
  readers.
-/
import Derived.Test.YboneofktRw
namespace Go.Proofs.Yboneofkt
open Go.RowKit

/-- the sessions below s that made a get. -/
def rdl (cn : Nat → Nat) (s : Nat) : List Nat := (List.range s).filter (fun t => decide (0 < cn t))
theorem rdl_succ (cn : Nat → Nat) (s : Nat) : rdl cn (s + 1) = if 0 < cn s then rdl cn s ++ [s] else rdl cn s := by
  unfold rdl
  rw [List.range_succ, List.filter_append]
  by_cases h : 0 < cn s
  · simp [h]
  · simp [h]
theorem rdl_len (cn : Nat → Nat) (s : Nat) : (rdl cn s).length ≤ s := by
  unfold rdl
  have := List.length_filter_le (fun t => decide (0 < cn t)) (List.range s)
  simpa using this

def i32s (ks : List Nat) : List Value := ks.map fun (t : Nat) => Value.int .i32 (t : Int)

theorem lit_cell (W : World) (v : Value) (T : TypeId) : ∀ j u, [v][j]? = some u → (W.alloc (.cells #[v] T)).cell? ((⟨W.heap.size, 0, none⟩ : Addr).add j) = some u := by
  intro j u hv
  cases j with
  | zero =>
    simp at hv
    subst hv
    rw [Addr.add_mid, World.cell?_alloc_at (hn := by simp)]
    rfl
  | succ j => simp at hv

theorem Ybgt.info21 : (Ybgt.prog.info? 21).map (fun i => (i.zero, i.size, i.bytes)) = some (some (.int .i32 0), 1, 4) := by kernel_rfl

/-- what readers answers. -/
def Res9 (cn : Nat → Nat) (S : Nat) (w : World) (e : Ending) (w' : World) : Prop := ∃ v, e = .returned v ∧ w'.ownsRow w.heap.size 21 1 v (rdl cn S).length (i32s (rdl cn S)) ∧ Below w.heap.size w w'

set_option maxHeartbeats 4000000 in
theorem readers9 (xb sb S cap : Nat) (cn : Nat → Nat) (rp : Nat → Option Addr) (w : World) (hS : S ≤ 5) (hcn : ∀ s, cn s ≤ 4096)
    (hx : xb < w.heap.size) (hs : sb < w.heap.size) (cx : w.cell? ⟨xb, 1, none⟩ = some (.slice (some ⟨sb, 0, none⟩) S cap))
    (cs : ∀ s, s < S → w.cell? ⟨sb, s * 5 + 2, none⟩ = some (.slice (rp s) (cn s) (cn s))) :
    Calls Ybgt.prog 9 #[.pointer (some ⟨xb, 0, none⟩)] w (Res9 cn S w) := by
  have HCS : Hid (∀ s, s < S → w.cell? ⟨sb, s * 5 + 2, none⟩ = some (.slice (rp s) (cn s) (cn s))) := cs
  have HCX : Hid (w.cell? ⟨xb, 1, none⟩ = some (.slice (some ⟨sb, 0, none⟩) S cap)) := cx
  clear cs
  go_enter Ybgt.func9, Ybgt.ntmps9
  go_wp2
  go_loopw [3, 10] (fun v3 v10 wr => ∃ s : Nat, s ≤ S ∧ v10 = .int .i64 s ∧ wr.ownsRow w.heap.size 21 1 v3 (rdl cn s).length (i32s (rdl cn s)) ∧ Below w.heap.size w wr) (fun _ v10 _ => S - (intOf v10).toNat)
  case atStart => exact ⟨0, Nat.zero_le _, rfl, World.ownsRow_nil w w.heap.size 21 1, Below.refl _ _⟩
  case round =>
    clear cx
    obtain ⟨s, hsS, rfl, hown, hbel⟩ := hrel
    have cx := (hbel.cell (p := ⟨xb, 1, none⟩) hx).trans HCX.out
    by_cases hlt : s < S
    · have hlt' : (s : Int) < (S : Int) := by omega
      have c2 := (hbel.cell (p := ⟨sb, s * 5 + 2, none⟩) hs).trans (HCS.out s hlt)
      have hcs := hcn s
      have HRS := rdl_succ cn s
      by_cases hc : 0 < cn s
      · have hc' : (0 : Int) < (cn s : Int) := by omega
        rw [if_pos hc] at HRS
        have HRS : Hid (rdl cn (s + 1) = rdl cn s ++ [s]) := HRS
        have hlen := rdl_len cn s
        obtain ⟨i0, hi0, hz0, hz1, hz2⟩ := info_parts Ybgt.info21
        have HOW : Hid ((wr.alloc (.cells #[.int .i32 (s : Int)] 21)).ownsRow w.heap.size 21 1 u3 (rdl cn s).length (i32s (rdl cn s))) := hown.alloc _
        have hbs := hbel.size
        have HSZ : Hid (w.heap.size ≤ (wr.alloc (.cells #[.int .i32 (s : Int)] 21)).heap.size) := by rw [World.size_alloc]; exact Nat.le_succ_of_le hbs
        have HLC : Hid _ := lit_cell wr (.int .i32 (s : Int)) 21
        have HBL : Hid (Below w.heap.size w wr) := hbel
        clear hown hbs hcn hbel
        go_wp2_with (at_builtin; refine wpList_append_own _ rfl (.tmp 23) (.tmp 26) 24 rfl w.heap.size 21 i0 (.int .i32 0) 1 4 Ybgt.underlying24 hi0 hz0 hz1 hz2 rfl (by omega) u3 (rdl cn s).length (i32s (rdl cn s)) rfl HOW.out _ 1 _ [.int .i32 (s : Int)] rfl rfl HLC.out (by simp [Value.oneCell']) (by simp only [maxLen]; omega) (by omega) HSZ.out ?_; intro kv' W6 hk6 hg6 _)
        have hk7 : W6.ownsRow w.heap.size 21 1 kv' (rdl cn (s + 1)).length (i32s (rdl cn (s + 1))) := by
          rw [HRS.out]
          simpa [i32s] using hk6
        have hb7 : Below w.heap.size w W6 := (HBL.out.alloc HBL.out.size _).grown hg6 HSZ.out (fun k hk => ((HOW.out).lt k hk).1)
        clear hk6 hg6
        go_roundw
        case rel => exact ⟨s + 1, by omega, by go_num, hk7, hb7⟩
        case measure => simp [intOf]; omega
      · have hc' : ¬ (0 : Int) < (cn s : Int) := by omega
        rw [if_neg hc] at HRS
        have HOW : Hid (wr.ownsRow w.heap.size 21 1 u3 (rdl cn (s + 1)).length (i32s (rdl cn (s + 1)))) := by
          show World.ownsRow _ _ _ _ _ _ _
          rw [HRS]; exact hown
        clear hown HRS hcn
        go_wp2
        go_roundw
        case rel => exact ⟨s + 1, by omega, by go_num, HOW.out, hbel⟩
        case measure => simp [intOf]; omega
    · have hlt' : ¬ (s : Int) < (S : Int) := by omega
      obtain rfl : s = S := by omega
      go_wp2
      go_ret
      exact ⟨_, rfl, hown, hbel⟩
end Go.Proofs.Yboneofkt
