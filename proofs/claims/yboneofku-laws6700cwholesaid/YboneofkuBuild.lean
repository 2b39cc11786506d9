/-
  zzs6700cbuild: a row of items.
-/
import Derived.Test.YboneofkuCmp
import Derived.Deep.OwnRows
import Derived.Deep.Slices
import Derived.Lib.LazyBuf
import Derived.Deep.DeepCutAuto
namespace Go.Proofs.Yboneofku
open Go.RowKit

theorem Ybgu.info48 : (Ybgu.prog.info? 48).map (fun i => (i.zero, i.size, i.bytes)) = some (some (.agg (itemv false 0 ⟨#[]⟩ 0)), 20, 232) := by kernel_rfl

/-- cell j of the item. -/
def icell (st : Bool) (t : Int) (s : ByteArray) (n : Int) (j : Nat) : Value := (itemv st t s n)[j]?.getD default

/-- the row after k rounds. -/
def filled (F : Nat → Nat → Value) (k : Nat) (i : Nat) : Value := if i / 20 < k then F (i / 20) (i % 20) else icell false 0 ⟨#[]⟩ 0 (i % 20)

theorem make_items (n : Nat) (hn : n ≤ 2048) (w : World) : (Instr.makeSlice 24 (.int .i64 (n : Int)) (.int .i64 (n : Int))).run Ybgu.prog w =
    .ok (.slice (some ⟨w.heap.size, 0, none⟩) n n) (w.alloc (.cells (madeCells (itemv false 0 ⟨#[]⟩ 0) (n * 20)) 48)) := by
  obtain ⟨i0, hi, hz0, hz1, hz2⟩ := info_parts Ybgu.info48
  have h := run_make (P := Ybgu.prog) w 24 48 i0 _ Ybgu.underlying24 hi hz0 .i64 .i64 n n (by omega) (by omega) (by rw [hz2]; omega) (by omega)
  rw [hz1] at h
  simpa [Value.cells] using h

theorem made_row (w : World) (n : Nat) (F : Nat → Nat → Value) : (w.alloc (.cells (madeCells (itemv false 0 ⟨#[]⟩ 0) (n * 20)) 48)).rowIs w.heap.size 48 (n * 20) (filled F 0) := by
  have h := World.rowIs_alloc w (madeCells (itemv false 0 ⟨#[]⟩ 0) (n * 20)) 48 (filled F 0) ?_
  · rwa [size_madeCells] at h
  · intro i hi
    rw [size_madeCells] at hi
    have h6 : i % 20 < 20 := Nat.mod_lt _ (by omega)
    have e : (itemv false 0 ⟨#[]⟩ 0).size = 20 := rfl
    simp only [madeCells, Array.getElem?_map, Array.getElem?_range, hi, if_true, Option.map_some, filled, Nat.not_lt_zero, if_false, Option.some.injEq, e]
    unfold icell
    rw [getElem!_def]
    cases (itemv false 0 ⟨#[]⟩ 0)[i % 20]? <;> rfl

theorem itemv_one (st : Bool) (t : Int) (s : ByteArray) (n : Int) : (itemv st t s n).all (·.oneCell') = true := by simp [itemv, Value.oneCell']

theorem itemv_get (st : Bool) (t : Int) (s : ByteArray) (n : Int) (j : Nat) (hj : j < 20) : (itemv st t s n).toList[j]? = some (icell st t s n j) := by
  have hsz : j < (itemv st t s n).size := hj
  rw [Array.getElem?_toList, Array.getElem?_eq_getElem hsz]
  simp [icell, hsz]

/-- one round, as the walk leaves it. -/
theorem row_fill {wr : World} {Bk n k : Nat} {F : Nat → Nat → Value} (h : wr.rowIs Bk 48 (n * 20) (filled F k)) (vs : List Value) (hl : vs.length = 20) (hv : ∀ j, j < 20 → vs[j]? = some (F k j)) :
    (wr.setCells Bk (k * 20) vs).rowIs Bk 48 (n * 20) (filled F (k + 1)) := by
  refine (Go.rowIs_setCells vs (k * 20) wr _ h).congr fun i hi => ?_
  have h6 : i % 20 < 20 := Nat.mod_lt _ (by omega)
  have hd := Nat.div_add_mod i 20
  by_cases e : i / 20 = k
  · rw [if_pos (by omega), show i - k * 20 = i % 20 by omega, hv _ h6]
    simp only [filled, e, Nat.lt_succ_self, if_true, Option.getD_some]
  · rw [if_neg (by omega)]
    unfold filled
    by_cases l : i / 20 < k
    · rw [if_pos l, if_pos (by omega)]
    · rw [if_neg l, if_neg (by omega)]

/-- the session that element i gets. -/
def sessv (W : Nat → Int) (S : Nat → ByteArray) (id : ByteArray) (i : Nat) : ByteArray := if W i % 3 = 0 then id else S i

/-- the cells of the items. -/
def itemsF (W : Nat → Int) (S : Nat → ByteArray) (N : Nat → Int) (St : Nat → Bool) (T : Nat → Int) (id : ByteArray) (i j : Nat) : Value := icell (St i) (T i) (sessv W S id i) (N i) j

set_option maxHeartbeats 1000000 in
theorem build_any (b off n cap : Nat) (W : Nat → Int) (S : Nat → ByteArray) (N : Nat → Int) (St : Nat → Bool) (T : Nat → Int) (id : ByteArray) (w : World) (hn : n ≤ 2048) (hb : b < w.heap.size) (hW : ∀ j, j < n → 0 ≤ W j)
    (h0 : ∀ j, j < n → w.cell? ⟨b, off + j * 5, none⟩ = some (.int .u8 (W j))) (h1 : ∀ j, j < n → w.cell? ⟨b, off + j * 5 + 1, none⟩ = some (.string (S j))) (h2 : ∀ j, j < n → w.cell? ⟨b, off + j * 5 + 2, none⟩ = some (.int .i64 (N j)))
    (h3 : ∀ j, j < n → w.cell? ⟨b, off + j * 5 + 3, none⟩ = some (.bool (St j))) (h4 : ∀ j, j < n → w.cell? ⟨b, off + j * 5 + 4, none⟩ = some (.int .i64 (T j))) :
    Calls Ybgu.prog 4 #[.slice (some ⟨b, off, none⟩) n cap, .string id] w fun e w' => e = .returned (.slice (some ⟨w.heap.size, 0, none⟩) n n) ∧ w'.rowIs w.heap.size 48 (n * 20) (fun i => itemsF W S N St T id (i / 20) (i % 20)) ∧ Below w.heap.size w w' := by
  have hmk := make_items n hn
  go_enter Ybgu.func4, Ybgu.ntmps4
  go_wp2
  go_loopw [14] (fun i wr => ∃ k : Nat, k ≤ n ∧ i = .int .i64 k ∧ wr.rowIs w.heap.size 48 (n * 20) (filled (itemsF W S N St T id) k) ∧ Below w.heap.size w wr) (fun i _ => n - (intOf i).toNat)
  case atStart => exact ⟨0, Nat.zero_le _, rfl, made_row _ _ _, (Below.refl _ _).alloc (Nat.le_refl _) _⟩
  case round =>
    obtain ⟨k, hk, rfl, hrow, hbel⟩ := hrel
    by_cases hlt : k < n
    · have c0 := (hbel.cell (p := ⟨b, off + k * 5, none⟩) hb).trans (h0 k hlt)
      have c1 := (hbel.cell (p := ⟨b, off + k * 5 + 1, none⟩) hb).trans (h1 k hlt)
      have c2 := (hbel.cell (p := ⟨b, off + k * 5 + 2, none⟩) hb).trans (h2 k hlt)
      have c3 := (hbel.cell (p := ⟨b, off + k * 5 + 3, none⟩) hb).trans (h3 k hlt)
      have c4 := (hbel.cell (p := ⟨b, off + k * 5 + 4, none⟩) hb).trans (h4 k hlt)
      have hW' := hW k hlt
      have hsz := hrow.lt
      clear h0 h1 h2 h3 h4 hW hmk
      have hu := Ybgu.underlying48
      have hi48 := info48
      go_upto_if 24 with (fail)
      go_cut [8] (fun s8 wc => s8 = .string (sessv W S id k) ∧ wc = wr.alloc (.cells #[.int .u8 (W k), .string (S k), .int .i64 (N k), .bool (St k), .int .i64 (T k)] 53))
      case first =>
        by_cases h3 : W k % 3 = 0
        · have h3' : (W k % 3 == 0) = true := by simpa using h3
          have es : sessv W S id k = id := by unfold sessv; rw [if_pos h3]
          go_wp2
          go_meet
          case rel => exact ⟨by rw [es], rfl⟩
        · have h3' : (W k % 3 == 0) = false := by simpa using h3
          have es : sessv W S id k = S k := by unfold sessv; rw [if_neg h3]
          go_wp2
          go_meet
          case rel => exact ⟨by rw [es], rfl⟩
      case rest =>
        obtain ⟨rfl, rfl⟩ := hcut
        have hth : (wr.alloc (.cells #[.int .u8 (W k), .string (S k), .int .i64 (N k), .bool (St k), .int .i64 (T k)] 53)).there w.heap.size (k * 20) 20 := World.there_alloc (fun j hj => ⟨by rw [hrow.cell (by omega)]; rfl, hrow.frozen _⟩) _
        have hrow2 := row_fill (hrow.alloc (.cells #[.int .u8 (W k), .string (S k), .int .i64 (N k), .bool (St k), .int .i64 (T k)] 53)) (F := itemsF W S N St T id) (itemv (St k) (T k) (sessv W S id k) (N k)).toList rfl (fun j hj => itemv_get _ _ _ _ _ hj)
        have hbel2 := Go.below_setCells (Nat.le_refl w.heap.size) (itemv (St k) (T k) (sessv W S id k) (N k)).toList (k * 20) _ (hbel.alloc hbel.size (.cells #[.int .u8 (W k), .string (S k), .int .i64 (N k), .bool (St k), .int .i64 (T k)] 53))
        obtain ⟨wx, hwx⟩ : ∃ wx, World.setCells (wr.alloc (.cells #[.int .u8 (W k), .string (S k), .int .i64 (N k), .bool (St k), .int .i64 (T k)] 53)) w.heap.size (k * 20) (itemv (St k) (T k) (sessv W S id k) (N k)).toList = wx := ⟨_, rfl⟩
        rw [hwx] at hrow2 hbel2
        have HX : Hid (World.setCells (wr.alloc (.cells #[.int .u8 (W k), .string (S k), .int .i64 (N k), .bool (St k), .int .i64 (T k)] 53)) w.heap.size (k * 20) (itemv (St k) (T k) (sessv W S id k) (N k)).toList = wx) := hwx
        clear hwx
        go_wp2_with (refine wpList_store_mid rfl 48 (.tmp 37) (.tmp 36) rfl w.heap.size (k * 20) (itemv (St k) (T k) (sessv W S id k) (N k)) rfl rfl hth hi48 (itemv_one _ _ _ _) ?_; rw [HX.out])
        go_roundw
        case rel => exact ⟨k + 1, by omega, by go_num, hrow2, hbel2⟩
        case measure => simp [intOf]; omega
    · have hkn : k = n := by omega
      subst hkn
      go_wp2
      go_ret
      exact ⟨rfl, hrow.congr (fun i hi => by unfold filled; rw [if_pos (by omega)]), hbel⟩
end Go.Proofs.Yboneofku
