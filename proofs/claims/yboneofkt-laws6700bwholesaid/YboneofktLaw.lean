/-
  The law, from its stages.
-/
import Derived.Test.YboneofktLawK
import Derived.Test.YboneofktLawL
namespace Go.Proofs.Yboneofkt
open Go.RowKit

theorem law_any (ar ag am : Option Addr) (n m q capr capg capm el ns : Nat) (L : Int) (w : World) (rbk roff gbk goff mbk moff : Nat) (RV GA GB GC : Nat → Nat) (MV : Nat → Int)
    (hn : n ≤ 65536) (hm : m ≤ 4096) (hel : el ≤ 255) (hns : ns ≤ 255) (hL1 : -2147483648 ≤ L) (hL2 : L ≤ 2147483647)
    (har : 0 < n → ar = some ⟨rbk, roff, none⟩ ∧ rbk < w.heap.size) (hrc : ∀ j, j < n → w.cell? ⟨rbk, roff + j, none⟩ = some (.int .u8 (RV j : Int))) (hrv : ∀ j, RV j ≤ 255)
    (hag : 0 < m → ag = some ⟨gbk, goff, none⟩ ∧ gbk < w.heap.size) (hga : ∀ j, j < m → w.cell? ⟨gbk, goff + j * 3, none⟩ = some (.int .u8 (GA j : Int))) (hgb : ∀ j, j < m → w.cell? ⟨gbk, goff + j * 3 + 1, none⟩ = some (.int .u8 (GB j : Int))) (hgc : ∀ j, j < m → w.cell? ⟨gbk, goff + j * 3 + 2, none⟩ = some (.int .u8 (GC j : Int)))
    (hgv : ∀ j, GA j ≤ 255 ∧ GB j ≤ 255 ∧ GC j ≤ 255)
    (ham : 0 < q → am = some ⟨mbk, moff, none⟩ ∧ mbk < w.heap.size) (hmc : ∀ j, j < q → w.cell? ⟨mbk, moff + j, none⟩ = some (.int .i32 (MV j))) (hmv : ∀ j, -2147483648 ≤ MV j ∧ MV j ≤ 2147483647) :
    Calls Ybgt.prog 3 #[.slice ar n capr, .slice ag m capg, .int .u8 (el : Int), .int .u8 (ns : Int), .slice am q capm, .int .i32 L] w (Post w) := by
  have hmod : ∀ x, x % (n + 1) ≤ n := fun x => Nat.le_of_lt_succ (Nat.mod_lt _ (by omega))
  have hk : ∀ e, (if (if e < q then MV e else 0) > L then L else (if e < q then MV e else 0)) ≤ L ∧ -2147483648 ≤ (if (if e < q then MV e else 0) > L then L else (if e < q then MV e else 0)) := by
    intro e
    have := hmv e
    split <;> split at * <;> omega
  refine lawA ar ag am n m q capr capg capm el ns (el % 16 + 1) (ns % 5 + 1) L w hn hm hel hns rfl rfl ?_
  refine lawB ar ag am n m q capr capg capm el ns (el % 16 + 1) (ns % 5 + 1) L w rbk roff RV (fun j => RV j % (el % 16 + 1)) hn hm (by omega) (by omega) (fun _ => rfl) har hrc hrv ?_
  refine lawC ar ag am n m q capr capg capm el ns (el % 16 + 1) (ns % 5 + 1) L w gbk goff GA GB GC _ (fun j => GC j % (ns % 5 + 1)) (fun j => min (GA j % (n + 1)) (GB j % (n + 1))) (fun j => max (GA j % (n + 1)) (GB j % (n + 1))) hn hm (by omega) (by omega) (by omega) hag hga hgb hgc hgv (fun _ => rfl) (fun _ => rfl) (fun _ => rfl) hL1 hL2 ?_
  refine lawD ar ag am n m q capr capg capm el ns (el % 16 + 1) (ns % 5 + 1) L w mbk moff MV (fun e => if (if e < q then MV e else 0) > L then L else (if e < q then MV e else 0)) _ _ _ _ hm (by omega) (by omega) ham hmc hmv (fun _ => rfl) ?_
  refine lawE ar ag am n m q capr capg capm el ns (el % 16 + 1) (ns % 5 + 1) L w _ _ _ _ _ hm (by omega) (fun g => Nat.mod_lt _ (by omega)) ?_
  refine lawF ar ag am n m q capr capg capm el ns (el % 16 + 1) (ns % 5 + 1) L w _ _ _ _ _ hn hm (by omega) (by omega) (fun g => Nat.mod_lt _ (by omega)) (fun i => Nat.mod_lt _ (by omega)) (fun g => ?_) (fun g => ?_) hL1 hL2 (fun e => (hk e).2) (fun e => (hk e).1) ?_
  · show min _ _ ≤ max _ _
    omega
  · show max (GA g % (n + 1)) (GB g % (n + 1)) ≤ n
    have h1 := hmod (GA g)
    have h2 := hmod (GB g)
    omega
  · exact fun p => lawG p w (lawH p w (lawI p w (lawJ p w (lawK p w (lawL p w)))))
end Go.Proofs.Yboneofkt
