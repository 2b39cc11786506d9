/-
  The law, from its stages.
-/
import Derived.Test.YboneofkuA
import Derived.Test.YboneofkuB
import Derived.Test.YboneofkuD
import Derived.Test.YboneofkuE
namespace Go.Proofs.Yboneofku
open Go.RowKit

set_option maxRecDepth 200000 in
theorem law_any (ae an : Option Addr) (n m cape capn bn offn : Nat) (S : Nat → ByteArray) (N T : Nat → Int) (St : Nat → Bool) (eN : Nat → Int) (eL : Nat → Bool) (eT : Nat → Int) (eS : Nat → ByteArray) (eP : Nat → Int) (eU : Nat → Bool) (id : ByteArray) (nm : Bool) (o : Int) (w : World)
    (hn : n ≤ 2048) (hm : m ≤ 65536)
    (hbld : ∀ W, Below w.heap.size w W → Calls Ybgu.prog 4 #[.slice ae n cape, .string id] W fun e w' => e = .returned (.slice (some ⟨W.heap.size, 0, none⟩) n n) ∧ w'.rowIs W.heap.size 48 (n * 20) (rowI S N T St) ∧ Below W.heap.size W w')
    (hen : 0 < m → an = some ⟨bn, offn, none⟩ ∧ bn < w.heap.size)
    (h0 : ∀ j, j < m → w.cell? ⟨bn, offn + j * 6, none⟩ = some (.int .i64 (eN j))) (h1 : ∀ j, j < m → w.cell? ⟨bn, offn + j * 6 + 1, none⟩ = some (.bool (eL j))) (h2 : ∀ j, j < m → w.cell? ⟨bn, offn + j * 6 + 2, none⟩ = some (.int .i64 (eT j)))
    (h3 : ∀ j, j < m → w.cell? ⟨bn, offn + j * 6 + 3, none⟩ = some (.string (eS j))) (h4 : ∀ j, j < m → w.cell? ⟨bn, offn + j * 6 + 4, none⟩ = some (.int .i64 (eP j))) (h5 : ∀ j, j < m → w.cell? ⟨bn, offn + j * 6 + 5, none⟩ = some (.bool (eU j)))
    (hN : ∀ j, j < n → Wf (N j)) (hE : ∀ j, j < m → Wf (eN j)) :
    Calls Ybgu.prog 3 #[.slice ae n cape, .string id, .slice an m capn, .bool nm, .int .i64 o] w fun e w' => e = .returned (.bool true) ∧ Below w.heap.size w w' := by
  refine stageA ae an n m cape capn S N T St id nm (nm && decide (m = 0)) o w hn hm rfl hbld ?_
  unfold AtR10
  intro rb ob eb W hinv
  intros
  apply stageB ae an n m cape capn S N T St id nm (nm && decide (m = 0)) o rb ob eb w bn offn eN eL eT eS eP eU hm hen h0 h1 h2 h3 h4 h5 hE (fun h => by simp; omega) W hinv
  unfold Hid
  intro kv ks W2 hI2 hK2 hl2
  intros
  apply stageC ae an n m cape capn S N T St id nm (nm && decide (m = 0)) o rb ob eb w (DE eN eL eT eS eP eU m) m ks kv hn hm hN W2 hI2 hK2 (by omega)
  unfold Hid
  intro kv3 ks3 W3 ha hK3 hl3
  intros
  apply stageD ae an n m cape capn S N T St id nm (nm && decide (m = 0)) o rb ob eb w (Dn id S N T St (DE eN eL eT eS eP eU m) n) (m + n) ks3 kv3 W3 ha hK3 hl3 hbld
  unfold Hid
  intro rb2 W4 r1 r2 b4
  intros
  apply stageE ae an n m cape capn S N T St id nm (nm && decide (m = 0)) o rb ob eb w rb2 W4 hn r1 r2 b4
end Go.Proofs.Yboneofku
