/-
  noteListedAbove.
-/
import Derived.Test.YboneofkuInv
import Derived.Deep.WholeRow
namespace Go.Proofs.Yboneofku
open Go.RowKit

section
variable {P : Program} {ops : Array Oper} {rest : List Oper} {op : Oper} {a : Act}
/-- a whole struct into the block that was made last. -/
theorem wpList_storeNew {Q : Exit → Act → World → Prop} {W : World} (hgd : op.guard = none) (hd : op.dst = none) (ty : TypeId) (x y : Operand) (ho : op.op = .store ty x y) (c c' : Array Value) (b : Nat) (hb : b = W.heap.size) (hx : a.eval x = .pointer (some ⟨b, 0, none⟩)) (hy : a.eval y = .agg c')
    (hi : (P.info? ty).map (·.size) = some c'.size) (hs : c.size = c'.size) (h1 : c'.all (·.oneCell') = true) (h : wpList P ops Q rest a (W.alloc (.cells c' ty))) : wpList P ops Q (op :: rest) a (W.alloc (.cells c ty)) :=
  wpList_plain hgd fun _ hK => by
    subst hb
    unfold Oper.wp execOp
    simp only [ho, hx, hy, Instr.storeAt, Instr.sureAddr, Sem.run_bind, Sem.run_pure, Result.andThen_ok, run_storeVar_new W ty c c' hi hs h1]
    have e : a.put op.dst undef = a := by rw [hd]; rfl
    show _
    exact hK _ _ (by rw [e]; exact h)
end

set_option maxHeartbeats 2000000 in
set_option linter.unusedSimpArgs false in
set_option maxRecDepth 20000 in
theorem note_any (ob rb n cap c0 : Nat) (o0 o1 o2 mv : Value) (id : ByteArray) (S : Nat → ByteArray) (N T : Nat → Int) (St : Nat → Bool) (D0 : DataW LA) (nil0 : Bool) (w : World) (hn : n ≤ 2048) (hc0 : c0 + n < maxLen)
    (hrow : w.rowIs rb 48 (n * 20) (rowI S N T St)) (hob : w.heap[ob]? = some (.cells #[o0, o1, o2, mv] 30)) (hne : rb ≠ ob) (hsh : ShownIs w ob c0 D0 nil0) (hN : ∀ j, j < n → Wf (N j)) :
    Calls Ybgu.prog 6 #[.pointer (some ⟨ob, 0, none⟩), .slice (some ⟨rb, 0, none⟩) n cap, .string id] w fun e w' => e = .returned (.tuple #[]) ∧ ShownIs w' ob (c0 + n) (Dn id S N T St D0 n) (nil0 && noown id S n) ∧
      (∃ mv', w'.heap[ob]? = some (.cells #[o0, o1, o2, mv'] 30)) ∧ Kp (fun k => k = ob ∨ mv = .map (some k)) w w' := by
  have hrlt := hrow.lt
  have holt := lt_of_block hob
  have hmv : w.cell? ⟨ob, 3, none⟩ = some mv := by rw [cell_of hob]; rfl
  go_enter Ybgu.func6, Ybgu.ntmps6
  go_wp2
  go_loopw [12] (fun i wr => ∃ k : Nat, k ≤ n ∧ i = .int .i64 k ∧ wr.heap[w.heap.size]? = some (.cells (lacs (abv id S N T St k)) 39) ∧ ShownIs wr ob (c0 + k) (Dn id S N T St D0 k) (nil0 && noown id S k) ∧
      (∃ mv', wr.heap[ob]? = some (.cells #[o0, o1, o2, mv'] 30) ∧ ∀ mb, mv' = .map (some mb) → w.heap.size ≤ mb ∨ mv = .map (some mb)) ∧ Kp (fun k => k = ob ∨ mv = .map (some k)) w wr) (fun i _ => n - (intOf i).toNat)
  case atStart =>
    refine ⟨0, Nat.zero_le _, rfl, heap_alloc_new' w _, ?_, ⟨mv, ?_, fun mb e => .inr e⟩, (Kp.refl _ _).alloc _⟩
    · simp only [noown, Bool.and_true, Dn]
      rcases hsh with ⟨rfl, h1, h2⟩ | ⟨rfl, mb, h1, hom⟩
      · exact .inl ⟨rfl, by rw [World.cell?_alloc_past (hn := holt)]; exact h1, h2⟩
      · exact .inr ⟨rfl, mb, by rw [World.cell?_alloc_past (hn := holt)]; exact h1, hom.alloc _⟩
    · rw [Below.heap_alloc _ _ _ holt]; exact hob
  case round =>
    obtain ⟨k, hk, rfl, hab, hshk, ⟨mvk, hobk, hmbk⟩, hkp⟩ := hrel
    by_cases hlt : k < n
    · have hr := row_range hrow hlt
      have hX : ¬ (rb = ob ∨ mv = .map (some rb)) := by
        rintro (h | h)
        · exact hne h
        · subst h
          rcases hsh with ⟨_, h1, _⟩ | ⟨_, mb, h1, hom⟩
          · rw [hmv] at h1; cases h1
          · rw [hmv] at h1; cases h1
            exact hom.ne (hrow.cell (by omega : k * 20 < n * 20)) rfl
      have hrk : wr.rangeAt rb (k * 20) (itemv (St k) (T k) (S k) (N k)).toList := fun j v hv => (hkp.cell hrlt hX).trans (hr j v hv)
      have hi48 := info48
      have hu48 := Ybgu.underlying48
      have hNk := hN k hlt
      generalize hab0 : abv id S N T St k = ab at hab
      obtain ⟨al, sa, na, ta, ua⟩ := ab
      obtain ⟨it, hit⟩ : ∃ it, it = itemv (St k) (T k) (S k) (N k) := ⟨_, rfl⟩
      have it1 : it[1]? = some (.bool (St k)) := by rw [hit]; rfl
      have it2 : it[2]? = some (.int .i64 (T k)) := by rw [hit]; rfl
      have it3 : it[3]? = some (.string (S k)) := by rw [hit]; rfl
      have it4 : it[4]? = some (.int .i64 (N k)) := by rw [hit]; rfl
      have hsz : it.size = 20 := by rw [hit]; rfl
      have hi48' : Option.map (fun x => x.size) (Ybgu.prog.info? 48) = some it.toList.length := by rw [Array.length_toList, hsz]; exact hi48
      have hi48a : Option.map (fun x => x.size) (Ybgu.prog.info? 48) = some it.size := by rw [hsz]; exact hi48
      have hone : it.all (fun v => v.oneCell') = true := by rw [hit]; exact itemv_one _ _ _ _
      have hzs : (itemv false 0 ⟨#[]⟩ 0).size = it.size := by rw [hsz]; rfl
      rw [← hit] at hrk
      have HIT : Hid (it = itemv (St k) (T k) (S k) (N k)) := hit
      have HI1 : Hid (Option.map (fun x => x.size) (Ybgu.prog.info? 48) = some it.toList.length) := hi48'
      have HI2 : Hid (Option.map (fun x => x.size) (Ybgu.prog.info? 48) = some it.size) := hi48a
      have HI3 : Hid ((itemv false 0 ⟨#[]⟩ 0).size = it.size) := hzs
      clear hit hi48' hi48a hzs hsz hi48
      have a0 : wr.cell? ⟨w.heap.size, 0, none⟩ = some (.bool al) := by rw [cell_of hab]; rfl
      have a1 : wr.cell? ⟨w.heap.size, 1, none⟩ = some (.string sa) := by rw [cell_of hab]; rfl
      have a2 : wr.cell? ⟨w.heap.size, 2, none⟩ = some (.int .i64 na) := by rw [cell_of hab]; rfl
      have a3 : wr.cell? ⟨w.heap.size, 3, none⟩ = some (.int .i64 ta) := by rw [cell_of hab]; rfl
      have a4 : wr.cell? ⟨w.heap.size, 4, none⟩ = some (.bool ua) := by rw [cell_of hab]; rfl
      have f4 : ∀ j, wr.frozen? ⟨w.heap.size, j, none⟩ = false := frozen_of hab
      have d3 : wr.cell? ⟨ob, 3, none⟩ = some mvk := by rw [cell_of hobk]; rfl
      have fo : ∀ j, wr.frozen? ⟨ob, j, none⟩ = false := frozen_of hobk
      have hwlt := lt_of_block hab
      have holtk := lt_of_block hobk
      by_cases hs : (S k).toList = id.toList
      · have hs' : ((S k).toList == id.toList) = true := by simpa using hs
        generalize hnk : (nil0 && noown id S k) = nk at hshk
        generalize hDk : Dn id S N T St D0 k = Dk at hshk
        have hnb : ∀ W : World, (binOp .eql 28 mvk (.map none)).run Ybgu.prog W = .ok (.bool nk) W := by
          intro W
          rcases hshk with ⟨rfl, h1, _⟩ | ⟨rfl, mb, h1, _⟩
          · rw [d3] at h1; cases h1; kernel_rfl
          · rw [d3] at h1; cases h1; kernel_rfl
        have hng : ∀ W : World, (eqGuard .eql 28 (.tmp 25) (.const (.map none)) mvk (.map none)).run Ybgu.prog W = .ok () W := by
          intro W
          rcases hshk with ⟨rfl, h1, _⟩ | ⟨rfl, mb, h1, _⟩
          · rw [d3] at h1; cases h1; kernel_rfl
          · rw [d3] at h1; cases h1; kernel_rfl
        go_upto_if 26 with (first | (refine wpList_load_mid rfl 48 (.tmp 14) rfl rb (k * 20) rfl it.toList _ hrk hu48 rfl HI1.out ?_; simp only [Array.toArray_toList]) | (refine wpList_storeNew rfl rfl 48 (.tmp 8) (.tmp 15) rfl _ it _ rfl rfl rfl HI2.out HI3.out hone ?_))
        go_cut [] (fun wc => ∃ mb, OM wc mb (c0 + k) Dk ∧ wc.heap[ob]? = some (.cells #[o0, o1, o2, .map (some mb)] 30) ∧ Kp (fun k => k = ob ∨ mv = .map (some k)) w wc ∧ wc.heap[w.heap.size]? = wr.heap[w.heap.size]? ∧ wc.heap[wr.heap.size]? = some (.cells it 48) ∧ (w.heap.size ≤ mb ∨ mv = .map (some mb)))
        case first =>
          have HAB : Hid (abv id S N T St k = ⟨al, sa, na, ta, ua⟩) := hab0
          clear hnb hng hrk hr it1 it2 it3 it4 hone hs hs' hN hNk hrow hsh hmv hob hab0
          rcases hshk with ⟨rfl, h1, hDk'⟩ | ⟨rfl, mb, h1, hom⟩
          · rw [d3] at h1
            cases h1
            clear hnk hDk
            have hmm : ∀ W : World, (Instr.makeMap 28 none).run Ybgu.prog W = .ok (.map (some W.heap.size)) (W.alloc (.map #[] 0)) := run_makeMap 28
            go_wp2
            go_meet
            case rel =>
              have hsz : (((wr.setCell ⟨ob, 3, none⟩ (.map (some (wr.heap.size + 1)))).alloc (.cells it 48))).heap.size = wr.heap.size + 1 := by simp
              refine ⟨wr.heap.size + 1, ?_, ?_, ?_, ?_, ?_, .inl (by omega)⟩
              · have hm := World.ownsMap.mono (World.ownsMap_made ((wr.setCell ⟨ob, 3, none⟩ (.map (some (wr.heap.size + 1)))).alloc (.cells it 48)) Ybgu.prog 2 laRead) (Nat.zero_le (c0 + k))
                rw [hsz] at hm
                rw [hDk']
                exact hm
              · rw [Below.heap_alloc _ _ _ (by simp; omega), Below.heap_alloc _ _ _ (by simp; omega)]
                exact heap_set hobk 3 _
              · exact ((hkp.setCell (.inr (.inl rfl)) _).alloc _).alloc _
              · rw [Below.heap_alloc _ _ _ (by simp; omega), Below.heap_alloc _ _ _ (by simp; omega), Below.heap_setCell _ _ _ _ (by show w.heap.size ≠ ob; omega)]
              · rw [Below.heap_alloc _ _ _ (by simp)]
                have hz := heap_alloc_new' (wr.setCell ⟨ob, 3, none⟩ (.map (some (wr.heap.size + 1)))) (.cells it 48)
                have hz2 : (wr.setCell ⟨ob, 3, none⟩ (.map (some (wr.heap.size + 1)))).heap.size = wr.heap.size := by simp
                rw [hz2] at hz
                exact hz
          · rw [d3] at h1
            cases h1
            clear hnk hDk
            go_wp2
            go_meet
            case rel =>
              refine ⟨mb, hom.alloc _, ?_, hkp.alloc _, Below.heap_alloc _ _ _ hwlt, ?_, hmbk _ rfl⟩
              · rw [Below.heap_alloc _ _ _ holtk]
                exact hobk
              · exact heap_alloc_new' wr (.cells it 48)
        case rest =>
          rename_i hgo
          refine hgo _ _ ?_
          rename World => w1
          obtain ⟨mb, hom, hobc, hkpc, habc, hitc, hmb⟩ := hcut
          rw [hab] at habc
          have e3 : w1.cell? ⟨ob, 3, none⟩ = some (.map (some mb)) := by rw [cell_of hobc]; rfl
          have e4 : w1.cell? ⟨wr.heap.size, 4, none⟩ = some (.int .i64 (N k)) := by rw [cell_of hitc]; exact it4
          have hlk : ∀ W : World, W.heap[mb]? = w1.heap[mb]? → (Instr.lookup 28 (.map (some mb)) (.int .i64 (N k)) false).run Ybgu.prog W = .ok (lav (laAt Dk (N k))) W := fun W hW => (hom.of_block hW).look hNk
          obtain ⟨was, hwas⟩ : ∃ was, was = laAt Dk (N k) := ⟨_, rfl⟩
          rw [← hwas] at hlk
          obtain ⟨wl, ws, wn, wt, wu⟩ := was
          simp only [lav, lacs] at hlk
          have hmlt := hom.lt
          have HAB : Hid (abv id S N T St k = ⟨al, sa, na, ta, ua⟩) := hab0
          have HLK : Hid (∀ W : World, W.heap[mb]? = w1.heap[mb]? → (Instr.lookup 28 (.map (some mb)) (.int .i64 (N k)) false).run Ybgu.prog W = .ok (.agg #[.bool wl, .string ws, .int .i64 wn, .int .i64 wt, .bool wu]) W) := hlk
          have HWAS : Hid (⟨wl, ws, wn, wt, wu⟩ = laAt Dk (N k)) := hwas
          clear hnb hng hrk hr it1 it2 it3 hone hN hrow hsh hmv hob hab0 hlk hwas a0 a1 a2 a3 a4 f4 d3 fo hab hobk
          have HOB : Hid (w1.heap[ob]? = some (.cells #[o0, o1, o2, .map (some mb)] 30)) := hobc
          have HABC : Hid (w1.heap[w.heap.size]? = some (.cells (lacs ⟨al, sa, na, ta, ua⟩) 39)) := habc
          have HITC : Hid (w1.heap[wr.heap.size]? = some (.cells it 48)) := hitc
          have hclt : w.heap.size < w1.heap.size := lt_of_block habc
          have hilt : wr.heap.size < w1.heap.size := lt_of_block hitc
          have hoc : ob < w1.heap.size := lt_of_block hobc
          clear hobc habc hitc
          go_wp2
          go_cut [9] (fun s9 wd => s9 = .pointer (some ⟨w1.heap.size, 0, none⟩) ∧ Below w1.heap.size w1 wd ∧ wd.heap[w1.heap.size]? = some (.cells #[.bool wl, .string ws, .int .i64 wn, .int .i64 wt, .bool wu] 39))
          case first =>
            go_region_held3 (fun w' => w'.cell? ⟨ob, 3, none⟩ = some (.map (some mb)) ∧ w'.cell? ⟨wr.heap.size, 4, none⟩ = some (.int .i64 (N k)) ∧ (Instr.lookup 28 (.map (some mb)) (.int .i64 (N k)) false).run Ybgu.prog w' = .ok (.agg #[.bool wl, .string ws, .int .i64 wn, .int .i64 wt, .bool wu]) w')
              (first | exact ⟨by go_keep, by go_keep, HLK.out _ rfl⟩ | exact ⟨by go_keep, by go_keep, HLK.out _ (Below.heap_alloc _ _ _ hmlt)⟩) (fail)
            all_goals
              go_wp2
              go_meet
              case rel => exact ⟨rfl, ((Below.refl _ _).alloc (Nat.le_refl _) _).drew, heap_alloc_new' _ _⟩
          case rest =>
            obtain ⟨rfl, hbd, hwd⟩ := hcut
            rename World => wd
            clear e3 e4
            have b0 : wd.cell? ⟨w1.heap.size, 0, none⟩ = some (.bool wl) := by rw [cell_of hwd]; rfl
            have b1 : wd.cell? ⟨w1.heap.size, 1, none⟩ = some (.string ws) := by rw [cell_of hwd]; rfl
            have b2 : wd.cell? ⟨w1.heap.size, 2, none⟩ = some (.int .i64 wn) := by rw [cell_of hwd]; rfl
            have b3 : wd.cell? ⟨w1.heap.size, 3, none⟩ = some (.int .i64 wt) := by rw [cell_of hwd]; rfl
            have habd : wd.heap[w.heap.size]? = some (.cells (lacs ⟨al, sa, na, ta, ua⟩) 39) := (hbd.block _ hclt).trans HABC.out
            have a0 : wd.cell? ⟨w.heap.size, 0, none⟩ = some (.bool al) := by rw [cell_of habd]; rfl
            have a1 : wd.cell? ⟨w.heap.size, 1, none⟩ = some (.string sa) := by rw [cell_of habd]; rfl
            have a2 : wd.cell? ⟨w.heap.size, 2, none⟩ = some (.int .i64 na) := by rw [cell_of habd]; rfl
            have a3 : wd.cell? ⟨w.heap.size, 3, none⟩ = some (.int .i64 ta) := by rw [cell_of habd]; rfl
            have hdlt := lt_of_block hwd
            clear habd
            have HWD : Hid (wd.heap[w1.heap.size]? = some (.cells #[.bool wl, .string ws, .int .i64 wn, .int .i64 wt, .bool wu] 39)) := hwd
            clear hwd
            go_upto_region 8 with (fail)
            go_cut [53] (fun v53 we => v53 = .bool (!wl || (al && olderv sa na ta ws wn wt)) ∧ Below w1.heap.size w1 we ∧ we.heap[w1.heap.size]? = some (.cells #[.bool wl, .string ws, .int .i64 wn, .int .i64 wt, .bool wu] 39))
            case first =>
              cases wl
              · go_wp2
                go_meet
                case rel => exact ⟨rfl, hbd, HWD.out⟩
              · cases al
                · go_wp2
                  go_meet
                  case rel => exact ⟨rfl, hbd, HWD.out⟩
                · go_wp2_with (go_at_call 7; refine (compare_any _ _ _ _ _ _ _).mono ?_; rintro e w' ⟨rfl, hbl⟩)
                  go_meet
                  case rel => exact ⟨by rw [← older_cmp]; simp, hbd.trans (hbl.mono (Nat.le_of_lt hdlt)), (hbl.block _ hdlt).trans HWD.out⟩
            case rest =>
              rename_i hgo
              refine hgo _ _ ?_
              rename World => we
              obtain ⟨rfl, hbe, hwe⟩ := hcut
              clear b0 b1 b2 b3 a0 a1 a2 a3
              have habe : we.heap[w.heap.size]? = some (.cells (lacs ⟨al, sa, na, ta, ua⟩) 39) := (hbe.block _ hclt).trans HABC.out
              have a0 : we.cell? ⟨w.heap.size, 0, none⟩ = some (.bool al) := by rw [cell_of habe]; rfl
              have a1 : we.cell? ⟨w.heap.size, 1, none⟩ = some (.string sa) := by rw [cell_of habe]; rfl
              have a2 : we.cell? ⟨w.heap.size, 2, none⟩ = some (.int .i64 na) := by rw [cell_of habe]; rfl
              have a3 : we.cell? ⟨w.heap.size, 3, none⟩ = some (.int .i64 ta) := by rw [cell_of habe]; rfl
              have b0 : we.cell? ⟨w1.heap.size, 0, none⟩ = some (.bool wl) := by rw [cell_of hwe]; rfl
              have b1 : we.cell? ⟨w1.heap.size, 1, none⟩ = some (.string ws) := by rw [cell_of hwe]; rfl
              have b2 : we.cell? ⟨w1.heap.size, 2, none⟩ = some (.int .i64 wn) := by rw [cell_of hwe]; rfl
              have b3 : we.cell? ⟨w1.heap.size, 3, none⟩ = some (.int .i64 wt) := by rw [cell_of hwe]; rfl
              have bf : ∀ j, we.frozen? ⟨w1.heap.size, j, none⟩ = false := frozen_of hwe
              have hne1 : w1.heap.size ≠ w.heap.size := Nat.ne_of_gt hclt
              have HWE : Hid (we.heap[w1.heap.size]? = some (.cells #[.bool wl, .string ws, .int .i64 wn, .int .i64 wt, .bool wu] 39)) := hwe
              clear habe hwe
              obtain ⟨cv, hcv⟩ : ∃ cv, cv = (!wl || (al && olderv sa na ta ws wn wt)) := ⟨_, rfl⟩
              rw [← hcv]
              have HCV : Hid (cv = (!wl || (al && olderv sa na ta ws wn wt))) := hcv
              clear hcv
              go_upto_if 53 with (fail)
              go_cut [] (fun wf => Below w1.heap.size w1 wf ∧ wf.heap[w1.heap.size]? = some (.cells (if cv then #[.bool al, .string sa, .int .i64 na, .int .i64 ta, .bool wu] else #[.bool wl, .string ws, .int .i64 wn, .int .i64 wt, .bool wu]) 39))
              case first =>
                cases cv
                · go_wp2
                  go_meet
                  case rel => exact ⟨hbe, HWE.out⟩
                · go_wp2
                  go_region_held3 (fun w' => w'.cell? ⟨w.heap.size, 0, none⟩ = some (.bool al) ∧ w'.cell? ⟨w.heap.size, 1, none⟩ = some (.string sa) ∧ w'.cell? ⟨w.heap.size, 2, none⟩ = some (.int .i64 na) ∧ w'.cell? ⟨w.heap.size, 3, none⟩ = some (.int .i64 ta)) (go_keep) (fail)
                  all_goals
                    go_wp2
                    go_meet
                    case rel => exact ⟨((((hbe.setCell (Nat.le_refl _) _).setCell (Nat.le_refl _) _).setCell (Nat.le_refl _) _).setCell (Nat.le_refl _) _).drew, heap_set (heap_set (heap_set (heap_set HWE.out 0 _) 1 _) 2 _) 3 _⟩
              case rest =>
                rename World => wf
                obtain ⟨hbf, hwf⟩ := hcut
                clear b0 b1 b2 b3 a0 a1 a2 a3 bf
                have hcs : ∃ xl xs xn xt, mrg ⟨wl, ws, wn, wt, wu⟩ ⟨al, sa, na, ta, ua⟩ = ⟨xl, xs, xn, xt, wu || ua⟩ ∧ (if cv then #[.bool al, .string sa, .int .i64 na, .int .i64 ta, .bool wu] else #[.bool wl, .string ws, .int .i64 wn, .int .i64 wt, .bool wu] : Array Value) = #[.bool xl, .string xs, .int .i64 xn, .int .i64 xt, .bool wu] := by
                  have e := HCV.out
                  unfold mrg
                  simp only [← e]
                  cases cv
                  · exact ⟨wl, ws, wn, wt, rfl, rfl⟩
                  · exact ⟨al, sa, na, ta, rfl, rfl⟩
                obtain ⟨xl, xs, xn, xt, hmrg, hcs⟩ := hcs
                rw [hcs] at hwf
                have HMR : Hid (mrg ⟨wl, ws, wn, wt, wu⟩ ⟨al, sa, na, ta, ua⟩ = ⟨xl, xs, xn, xt, wu || ua⟩) := hmrg
                clear hcs hmrg HCV
                have habf : wf.heap[w.heap.size]? = some (.cells (lacs ⟨al, sa, na, ta, ua⟩) 39) := (hbf.block _ hclt).trans HABC.out
                have a4 : wf.cell? ⟨w.heap.size, 4, none⟩ = some (.bool ua) := by rw [cell_of habf]; rfl
                have b4 : wf.cell? ⟨w1.heap.size, 4, none⟩ = some (.bool wu) := by rw [cell_of hwf]; rfl
                have bf : ∀ j, wf.frozen? ⟨w1.heap.size, j, none⟩ = false := frozen_of hwf
                have HWF : Hid (wf.heap[w1.heap.size]? = some (.cells #[.bool xl, .string xs, .int .i64 xn, .int .i64 xt, .bool wu] 39)) := hwf
                clear habf hwf
                go_upto_region 10 with (fail)
                go_cut [] (fun wg => Below w1.heap.size w1 wg ∧ wg.heap[w1.heap.size]? = some (.cells #[.bool xl, .string xs, .int .i64 xn, .int .i64 xt, .bool (wu || ua)] 39))
                case first =>
                  cases wu
                  · go_wp2
                    go_meet
                    case rel => exact ⟨hbf.setCell (Nat.le_refl _) _, heap_set HWF.out 4 _⟩
                  · go_wp2
                    go_meet
                    case rel => exact ⟨hbf.setCell (Nat.le_refl _) _, heap_set HWF.out 4 _⟩
                case rest =>
                  rename World => wg
                  obtain ⟨hbg, hwg⟩ := hcut
                  clear b4 a4 bf
                  have hobg : wg.heap[ob]? = some (.cells #[o0, o1, o2, .map (some mb)] 30) := (hbg.block _ hoc).trans HOB.out
                  have e3 : wg.cell? ⟨ob, 3, none⟩ = some (.map (some mb)) := by rw [cell_of hobg]; rfl
                  have e4 : wg.cell? ⟨wr.heap.size, 4, none⟩ = some (.int .i64 (N k)) := by rw [cell_of ((hbg.block _ hilt).trans HITC.out)]; exact it4
                  have b0 : wg.cell? ⟨w1.heap.size, 0, none⟩ = some (.bool xl) := by rw [cell_of hwg]; rfl
                  have b1 : wg.cell? ⟨w1.heap.size, 1, none⟩ = some (.string xs) := by rw [cell_of hwg]; rfl
                  have b2 : wg.cell? ⟨w1.heap.size, 2, none⟩ = some (.int .i64 xn) := by rw [cell_of hwg]; rfl
                  have b3 : wg.cell? ⟨w1.heap.size, 3, none⟩ = some (.int .i64 xt) := by rw [cell_of hwg]; rfl
                  have b4 : wg.cell? ⟨w1.heap.size, 4, none⟩ = some (.bool (wu || ua)) := by rw [cell_of hwg]; rfl
                  have homg : OM wg.drew mb (c0 + k) Dk := hom.of_block (hbg.block _ hmlt)
                  obtain ⟨wm, hrun, homm, hgm⟩ := homg.put (by omega) hNk ⟨xl, xs, xn, xt, wu || ua⟩
                  simp only [lav, lacs] at hrun
                  have hgs : wg.heap.size = wg.drew.heap.size := rfl
                  have hmm : ∀ b, b < w1.heap.size + 1 → b ≠ mb → wm.heap[b]? = wg.heap[b]? := fun b hb hne => hgm.block b (by have := lt_of_block hwg; show b < wg.heap.size; omega) (by simpa using hne)
                  have n1 := hom.ne (by rw [cell_of HOB.out]; rfl : w1.cell? ⟨ob, 3, none⟩ = some (.map (some mb)))
                  have n2 := hom.ne (by rw [cell_of HITC.out]; exact it4 : w1.cell? ⟨wr.heap.size, 4, none⟩ = some (.int .i64 (N k)))
                  have n3 := hom.ne (by rw [cell_of HABC.out]; rfl : w1.cell? ⟨w.heap.size, 4, none⟩ = some (.bool ua))
                  have m1 := hmm ob (by omega) n1
                  have m2 := hmm wr.heap.size (by omega) n2
                  have m3 := hmm w.heap.size (by omega) n3
                  have m4 := hmm w1.heap.size (by omega) (by omega)
                  have g3 : wm.cell? ⟨ob, 3, none⟩ = some (.map (some mb)) := (World.cell?_of_block (w := wg) m1).trans e3
                  have g4 : wm.cell? ⟨wr.heap.size, 4, none⟩ = some (.int .i64 (N k)) := (World.cell?_of_block (w := wg) m2).trans e4
                  have h0 : wm.cell? ⟨w1.heap.size, 0, none⟩ = some (.bool xl) := (World.cell?_of_block (w := wg) m4).trans b0
                  have h1 : wm.cell? ⟨w1.heap.size, 1, none⟩ = some (.string xs) := (World.cell?_of_block (w := wg) m4).trans b1
                  have h2 : wm.cell? ⟨w1.heap.size, 2, none⟩ = some (.int .i64 xn) := (World.cell?_of_block (w := wg) m4).trans b2
                  have h3 : wm.cell? ⟨w1.heap.size, 3, none⟩ = some (.int .i64 xt) := (World.cell?_of_block (w := wg) m4).trans b3
                  have h4 : wm.cell? ⟨w1.heap.size, 4, none⟩ = some (.bool (wu || ua)) := (World.cell?_of_block (w := wg) m4).trans b4
                  have F1 : ∃ mv', wm.heap[ob]? = some (.cells #[o0, o1, o2, mv'] 30) ∧ ∀ mb, mv' = .map (some mb) → w.heap.size ≤ mb ∨ mv = .map (some mb) := ⟨_, m1.trans hobg, fun mb' e => by cases e; exact hmb⟩
                  have F2 : wm.heap[w.heap.size]? = some (.cells (lacs ⟨al, sa, na, ta, ua⟩) 39) := m3.trans ((hbg.block _ hclt).trans HABC.out)
                  have hmb' : ∀ j, some mb = some j → w.heap.size ≤ j ∨ (j = ob ∨ mv = .map (some j)) := by
                    intro j e
                    cases e
                    rcases hmb with h | h
                    · exact .inl h
                    · exact .inr (.inr h)
                  have F3 : Kp (fun k => k = ob ∨ mv = .map (some k)) w wm := Kp.grown (X := fun k => k = ob ∨ mv = .map (some k)) ((hkpc.below hbg (fun j hj _ => by omega)).drew) hgm hmb'
                  have F4 : ShownIs wm ob (c0 + (k + 1)) (Dn id S N T St D0 (k + 1)) (nil0 && noown id S (k + 1)) := by
                    refine .inr ⟨?_, mb, g3, ?_⟩
                    · unfold noown; rw [hs']; simp
                    · unfold Dn
                      rw [if_pos hs, HAB.out, hDk, ← HWAS.out, HMR.out]
                      exact homm
                  have F5 : abv id S N T St (k + 1) = ⟨al, sa, na, ta, ua⟩ := by
                    unfold abv abv1
                    rw [if_pos hs, HAB.out]
                  clear m1 m2 m3 m4 hmm hobg hgm homm homg hom hkpc hbg hwg hgs hmb' HOB HABC HITC HMR HLK HWAS hDk hnk it4
                  go_wp2
                  go_region_held3 (fun w' => w'.cell? ⟨ob, 3, none⟩ = some (.map (some mb)) ∧ w'.cell? ⟨wr.heap.size, 4, none⟩ = some (.int .i64 (N k)) ∧ w'.cell? ⟨w1.heap.size, 0, none⟩ = some (.bool xl) ∧ w'.cell? ⟨w1.heap.size, 1, none⟩ = some (.string xs) ∧ w'.cell? ⟨w1.heap.size, 2, none⟩ = some (.int .i64 xn) ∧ w'.cell? ⟨w1.heap.size, 3, none⟩ = some (.int .i64 xt) ∧ w'.cell? ⟨w1.heap.size, 4, none⟩ = some (.bool (wu || ua))) (go_keep) (fail)
                  go_wp2
                  go_roundw
                  case rel => exact ⟨k + 1, by omega, by go_num, by rw [F5]; exact F2, F4, F1, F3⟩
                  case measure => simp [intOf]; omega
      · have hs' : ((S k).toList == id.toList) = false := by simpa using hs
        have hDs : Dn id S N T St D0 (k + 1) = Dn id S N T St D0 k := by
          conv => lhs; unfold Dn
          rw [if_neg hs]
        have hns : noown id S (k + 1) = noown id S k := by
          conv => lhs; unfold noown
          rw [hs']; simp
        have habs : abv id S N T St (k + 1) = abv1 id (S k) (N k) (T k) (St k) ⟨al, sa, na, ta, ua⟩ := by rw [← hab0]; rfl
        unfold abv1 at habs
        rw [if_neg hs] at habs
        have HABS : Hid (abv id S N T St (k + 1) = _) := habs
        have HDS : Hid (Dn id S N T St D0 (k + 1) = Dn id S N T St D0 k) := hDs
        have HNS : Hid (noown id S (k + 1) = noown id S k) := hns
        have HSH : ∀ W : World, Kp (fun b => b = w.heap.size) wr W → ShownIs W ob (c0 + (k + 1)) (Dn id S N T St D0 (k + 1)) (nil0 && noown id S (k + 1)) ∧ (∃ mv', W.heap[ob]? = some (.cells #[o0, o1, o2, mv'] 30) ∧ ∀ mb, mv' = .map (some mb) → w.heap.size ≤ mb ∨ mv = .map (some mb)) ∧ Kp (fun k => k = ob ∨ mv = .map (some k)) w W := by
          intro W hW
          rw [hDs, hns]
          have e : W.heap[ob]? = some (.cells #[o0, o1, o2, mvk] 30) := (hW.block _ holtk (by omega)).trans hobk
          refine ⟨?_, ⟨mvk, e, hmbk⟩, ⟨hW.os.trans hkp.os, hW.tape.trans hkp.tape, hW.output.trans hkp.output, Nat.le_trans hkp.size hW.size, fun b hb hx => (hW.block b (by omega) (by omega)).trans (hkp.block b hb hx)⟩⟩
          rcases hshk with ⟨h1, h2, h3⟩ | ⟨h1, mb, h2, hom⟩
          · exact .inl ⟨h1, by rw [cell_of e, ← h2, cell_of hobk], h3⟩
          · exact .inr ⟨h1, mb, by rw [cell_of e, ← h2, cell_of hobk], World.ownsMap.mono (OM.of_block hom (hW.block _ hom.lt (Ne.symm (OM.ne hom a0)))) (by omega)⟩
        have HSH' : Hid _ := HSH
        have HAB2 : Hid (wr.heap[w.heap.size]? = some (.cells (lacs ⟨al, sa, na, ta, ua⟩) 39)) := hab
        have HKW : Kp (fun b => b = w.heap.size) wr (wr.alloc (.cells it 48)) := (Kp.refl _ _).alloc _
        clear HSH habs hDs hns hshk hobk hmbk hab hkp hN hsh hmv hob hrow d3 fo hr
        cases hst : St k
        · rw [hst] at it1
          go_wp2_with (first | (refine wpList_load_mid rfl 48 (.tmp 14) rfl rb (k * 20) rfl it.toList _ hrk hu48 rfl HI1.out ?_; simp only [Array.toArray_toList]) | (refine wpList_storeNew rfl rfl 48 (.tmp 8) (.tmp 15) rfl _ it _ rfl rfl rfl HI2.out HI3.out hone ?_))
          go_roundw
          case rel =>
            have hK := ((Kp.refl (fun b => b = w.heap.size) wr).setCell (p := ⟨w.heap.size, 4, none⟩) (.inr rfl) (.bool true)).alloc (.cells it 48)
            obtain ⟨F1, F2, F3⟩ := HSH'.out _ hK
            refine ⟨k + 1, by omega, by go_num, ?_, F1, F2, F3⟩
            have e := HABS.out
            rw [hst] at e
            rw [e]
            rw [Below.heap_alloc _ _ _ (by simpa using hwlt)]
            exact heap_set HAB2.out 4 _
          case measure => simp [intOf]; omega
        · rw [hst] at it1
          go_upto_region 13 with (first | (refine wpList_load_mid rfl 48 (.tmp 14) rfl rb (k * 20) rfl it.toList _ hrk hu48 rfl HI1.out ?_; simp only [Array.toArray_toList]) | (refine wpList_storeNew rfl rfl 48 (.tmp 8) (.tmp 15) rfl _ it _ rfl rfl rfl HI2.out HI3.out hone ?_))
          go_cut [89] (fun v we => v = .bool (!al || olderv (S k) (N k) (T k) sa na ta) ∧ Below (wr.heap.size + 1) (wr.alloc (.cells it 48)) we)
          case first =>
            have hrit : (wr.alloc (.cells it 48)).rangeAt wr.heap.size 0 it.toList := fun j v hv => by rw [Nat.zero_add, World.cell?_alloc_at (hn := rfl)]; simpa using hv
            have hl20 : it.toList.length = 20 := by have := HIT.out; rw [this]; rfl
            have hpl := fun W => place_any it.toList (S k) (N k) (T k) W hl20 (by simpa using it2) (by simpa using it3) (by simpa using it4)
            have HPL : Hid (∀ W, Calls Ybgu.prog 8 #[.agg it.toList.toArray] W fun e w' => e = .returned (.agg #[.string (S k), .int .i64 (N k), .int .i64 (T k)]) ∧ Below W.heap.size W w') := hpl
            clear hpl hl20 hrk hone it1 it2 it3 it4
            cases al
            · go_quiet (fail)
              go_wp2
              go_meet
              case rel => exact ⟨rfl, below_drewN (Below.refl _ _) _⟩
            · have A0 : (wr.alloc (.cells it 48)).cell? ⟨w.heap.size, 0, none⟩ = some (.bool true) := by rw [World.cell?_alloc_past (hn := hwlt)]; exact a0
              have A1 : (wr.alloc (.cells it 48)).cell? ⟨w.heap.size, 1, none⟩ = some (.string sa) := by rw [World.cell?_alloc_past (hn := hwlt)]; exact a1
              have A2 : (wr.alloc (.cells it 48)).cell? ⟨w.heap.size, 2, none⟩ = some (.int .i64 na) := by rw [World.cell?_alloc_past (hn := hwlt)]; exact a2
              have A3 : (wr.alloc (.cells it 48)).cell? ⟨w.heap.size, 3, none⟩ = some (.int .i64 ta) := by rw [World.cell?_alloc_past (hn := hwlt)]; exact a3
              have HA : Hid (∀ W, Below (wr.heap.size + 1) (wr.alloc (.cells it 48)) W → W.rangeAt wr.heap.size 0 it.toList ∧ W.cell? ⟨w.heap.size, 0, none⟩ = some (.bool true) ∧ W.cell? ⟨w.heap.size, 1, none⟩ = some (.string sa) ∧ W.cell? ⟨w.heap.size, 2, none⟩ = some (.int .i64 na) ∧ W.cell? ⟨w.heap.size, 3, none⟩ = some (.int .i64 ta)) := fun W hW =>
                ⟨fun j v hv => (hW.cell (p := ⟨wr.heap.size, 0 + j, none⟩) (by show wr.heap.size < _; omega)).trans (hrit j v hv), (hW.cell (p := ⟨w.heap.size, 0, none⟩) (by show w.heap.size < _; omega)).trans A0, (hW.cell (p := ⟨w.heap.size, 1, none⟩) (by show w.heap.size < _; omega)).trans A1, (hW.cell (p := ⟨w.heap.size, 2, none⟩) (by show w.heap.size < _; omega)).trans A2, (hW.cell (p := ⟨w.heap.size, 3, none⟩) (by show w.heap.size < _; omega)).trans A3⟩
              clear A0 A1 A2 A3
              refine wp_region_noPanic ?_
              refine wp_region_held_drew (S := fun w' => w'.rangeAt wr.heap.size 0 it.toList ∧ w'.cell? ⟨w.heap.size, 0, none⟩ = some (.bool true) ∧ w'.cell? ⟨w.heap.size, 1, none⟩ = some (.string sa) ∧ w'.cell? ⟨w.heap.size, 2, none⟩ = some (.int .i64 na) ∧ w'.cell? ⟨w.heap.size, 3, none⟩ = some (.int .i64 ta)) (by kernel_rfl) (HA.out _ (Below.refl _ _).drew) (fun hHeld => ?_)
              refine wpAnyH_take (i := 0) (v := (.pointer (some ⟨w.heap.size, 0, none⟩))) rfl (by kernel_rfl) (by kernel_rfl) (by kernel_rfl) (fun _ _ _ h => h) (Or.inl ⟨by rfl, fun W hW => by obtain ⟨hW0, hW1, hW2, hW3, hW4⟩ := hW; go_simp⟩) hHeld ?_
              simp only [Act.put, List.getElem_toArray, List.getElem_cons_succ, List.getElem_cons_zero, List.setIfInBounds_toArray, List.set_cons_zero, List.set_cons_succ]
              refine wpAnyH_take (i := 1) (v := (.bool true)) rfl (by kernel_rfl) (by kernel_rfl) (by kernel_rfl) (fun _ _ _ h => h) (Or.inl ⟨by rfl, fun W hW => by obtain ⟨hW0, hW1, hW2, hW3, hW4⟩ := hW; go_simp⟩) hHeld ?_
              simp only [Act.put, List.getElem_toArray, List.getElem_cons_succ, List.getElem_cons_zero, List.setIfInBounds_toArray, List.set_cons_zero, List.set_cons_succ]
              refine wpAnyH_take (i := 2) (v := (.bool false)) rfl (by kernel_rfl) (by kernel_rfl) (by kernel_rfl) (fun _ _ _ h => h) (Or.inl ⟨by rfl, fun W hW => by obtain ⟨hW0, hW1, hW2, hW3, hW4⟩ := hW; go_simp⟩) hHeld ?_
              simp only [Act.put, List.getElem_toArray, List.getElem_cons_succ, List.getElem_cons_zero, List.setIfInBounds_toArray, List.set_cons_zero, List.set_cons_succ]
              refine wpAnyH_take (i := 3) (v := (.bool false)) rfl (by kernel_rfl) (by kernel_rfl) (by kernel_rfl) (fun _ _ _ h => h) (Or.inl ⟨by rfl, fun W hW => by obtain ⟨hW0, hW1, hW2, hW3, hW4⟩ := hW; go_simp⟩) hHeld ?_
              simp only [Act.put, List.getElem_toArray, List.getElem_cons_succ, List.getElem_cons_zero, List.setIfInBounds_toArray, List.set_cons_zero, List.set_cons_succ]
              refine wpAnyH_take (i := 4) (v := (.agg it.toList.toArray)) rfl (by kernel_rfl) (by kernel_rfl) (by kernel_rfl) (fun _ _ _ h => h) (yieldsIf_load_mid (by rfl) 48 (.tmp 8) rfl wr.heap.size 0 rfl it.toList _ (fun W hW => hW.1) Ybgu.underlying48 rfl HI1.out) hHeld ?_
              simp only [Act.put, List.getElem_toArray, List.getElem_cons_succ, List.getElem_cons_zero, List.setIfInBounds_toArray, List.set_cons_zero, List.set_cons_succ]
              refine wpAnyH_take (i := 6) (v := (.pointer (some ⟨w.heap.size, 1, none⟩))) rfl (by kernel_rfl) (by kernel_rfl) (by kernel_rfl) (fun _ _ _ h => h) (Or.inl ⟨by rfl, fun W hW => by obtain ⟨hW0, hW1, hW2, hW3, hW4⟩ := hW; go_simp⟩) hHeld ?_
              simp only [Act.put, List.getElem_toArray, List.getElem_cons_succ, List.getElem_cons_zero, List.setIfInBounds_toArray, List.set_cons_zero, List.set_cons_succ]
              refine wpAnyH_take (i := 7) (v := (.agg #[.string sa, .int .i64 na, .int .i64 ta])) rfl (by kernel_rfl) (by kernel_rfl) (by kernel_rfl) (fun _ _ _ h => h) (Or.inl ⟨by rfl, fun W hW => by obtain ⟨hW0, hW1, hW2, hW3, hW4⟩ := hW; go_simp⟩) hHeld ?_
              simp only [Act.put, List.getElem_toArray, List.getElem_cons_succ, List.getElem_cons_zero, List.setIfInBounds_toArray, List.set_cons_zero, List.set_cons_succ]
              refine wpAnyH_ready (rs := [5]) (by kernel_rfl) (by simp) (AllReadyH.cons rfl (fun K hK => ?_) AllReadyH.nil)
              go_simp
              refine (HPL.out _).mono ?_
              rintro e w2 ⟨rfl, hb2⟩
              go_wp2_with fail
              have hB2 : Below (wr.heap.size + 1) (wr.alloc (.cells it 48)) w2 := ((Below.refl _ _).drew).trans (hb2.mono (by show wr.heap.size + 1 ≤ (wr.alloc (.cells it 48)).heap.size; simp))
              refine hK.out _ _ (HA.out _ hB2) (fun hHeld2 => ?_)
              refine wpAnyH_ready (rs := [8]) (by kernel_rfl) (by simp) (AllReadyH.cons rfl (fun K2 hK2 => ?_) AllReadyH.nil)
              go_simp
              refine (compare_any _ _ _ _ _ _ _).mono ?_
              rintro e w3 ⟨rfl, hb3⟩
              go_wp2_with fail
              have hB3 : Below (wr.heap.size + 1) (wr.alloc (.cells it 48)) w3 := hB2.trans (hb3.mono (by have := hB2.size; simp at this; omega))
              refine hK2.out _ _ (HA.out _ hB3) (fun hHeld3 => ?_)
              refine wpAnyH_take (i := 9) (v := (.bool (decide (0 < orv (cmpv ta (T k)) (Lib.compareBytes (S k).data.toList sa.data.toList) (cmpv na (N k)))))) rfl (by kernel_rfl) (by kernel_rfl) (by kernel_rfl) (fun _ _ _ h => h) (Or.inl ⟨by rfl, fun W hW => by go_simp⟩) hHeld3 ?_
              simp only [Act.put, List.getElem_toArray, List.getElem_cons_succ, List.getElem_cons_zero, List.setIfInBounds_toArray, List.set_cons_zero, List.set_cons_succ]
              refine wpAnyH_take (i := 10) (v := (.bool (decide (0 < orv (cmpv ta (T k)) (Lib.compareBytes (S k).data.toList sa.data.toList) (cmpv na (N k)))))) rfl (by kernel_rfl) (by kernel_rfl) (by kernel_rfl) (fun _ _ _ h => h) (Or.inl ⟨by rfl, fun W hW => by go_simp⟩) hHeld3 ?_
              simp only [Act.put, List.getElem_toArray, List.getElem_cons_succ, List.getElem_cons_zero, List.setIfInBounds_toArray, List.set_cons_zero, List.set_cons_succ]
              refine wpAnyH_done (by kernel_rfl) ?_ _
              refine NoPanic.normal ?_
              go_wp2
              go_meet
              case rel => exact ⟨by rw [← older_cmp]; rfl, hB3⟩
          case rest =>
            rename World => we
            obtain ⟨rfl, hB⟩ := hcut
            have hKw : Kp (fun b => b = w.heap.size) wr we := HKW.below hB (fun j hj _ => by omega)
            have habe : we.heap[w.heap.size]? = some (.cells (lacs ⟨al, sa, na, ta, ua⟩) 39) := (hB.block _ (by omega)).trans ((Below.heap_alloc _ _ _ hwlt).trans HAB2.out)
            have hite : we.heap[wr.heap.size]? = some (.cells it 48) := (hB.block _ (by omega)).trans (heap_alloc_new' wr (.cells it 48))
            have hrit : we.rangeAt wr.heap.size 0 it.toList := fun j v hv => by rw [Nat.zero_add, cell_of hite]; simpa using hv
            have hl20 : it.toList.length = 20 := by have := HIT.out; rw [this]; rfl
            have hpl := fun W => place_any it.toList (S k) (N k) (T k) W hl20 (by simpa using it2) (by simpa using it3) (by simpa using it4)
            have HPL : Hid (∀ W, Calls Ybgu.prog 8 #[.agg it.toList.toArray] W fun e w' => e = .returned (.agg #[.string (S k), .int .i64 (N k), .int .i64 (T k)]) ∧ Below W.heap.size W w') := hpl
            have hel := lt_of_block hite
            clear hpl hl20 hrk hone it1 it2 it3 it4 a0 a1 a2 a3 a4 f4 hB HKW hite
            have HABE : Hid (we.heap[w.heap.size]? = some (.cells (lacs ⟨al, sa, na, ta, ua⟩) 39)) := habe
            clear habe
            have e := HABS.out
            rw [hst, if_pos rfl] at e
            cases hcv : (!al || olderv (S k) (N k) (T k) sa na ta)
            · rw [hcv] at e
              have HE : Hid (abv id S N T St (k + 1) = ⟨al, sa, na, ta, ua⟩) := e
              clear e
              go_wp2
              go_roundw
              case rel =>
                obtain ⟨F1, F2, F3⟩ := HSH'.out _ hKw
                exact ⟨k + 1, by omega, by go_num, by rw [HE.out]; exact HABE.out, F1, F2, F3⟩
              case measure => simp [intOf]; omega
            · rw [hcv] at e
              have HE : Hid (abv id S N T St (k + 1) = ⟨true, S k, N k, T k, ua⟩) := e
              clear e
              have hff : ∀ W, Below (we.heap.size) we W → W.heap[w.heap.size]? = some (.cells (lacs ⟨al, sa, na, ta, ua⟩) 39) := fun W hW => (hW.block _ (by omega)).trans HABE.out
              have HFF : Hid (∀ W, Below (we.heap.size) we W → W.heap[w.heap.size]? = some (.cells (lacs ⟨al, sa, na, ta, ua⟩) 39)) := hff
              clear hff
              go_wp2_with (first | (refine wpList_load_mid rfl 48 (.tmp 8) rfl wr.heap.size 0 rfl it.toList _ hrit hu48 rfl HI1.out ?_) | (go_at_call 8; refine (HPL.out _).mono ?_; rintro e w2 ⟨rfl, hb2⟩; have k0 : w2.cell? ⟨w.heap.size, 0, none⟩ = some (.bool al) := (by rw [cell_of (HFF.out _ hb2)]; rfl); have k1 : w2.cell? ⟨w.heap.size, 1, none⟩ = some (.string sa) := (by rw [cell_of (HFF.out _ hb2)]; rfl); have k2 : w2.cell? ⟨w.heap.size, 2, none⟩ = some (.int .i64 na) := (by rw [cell_of (HFF.out _ hb2)]; rfl); have k3 : w2.cell? ⟨w.heap.size, 3, none⟩ = some (.int .i64 ta) := (by rw [cell_of (HFF.out _ hb2)]; rfl); have kf : ∀ j, w2.frozen? ⟨w.heap.size, j, none⟩ = false := frozen_of (HFF.out _ hb2)))
              go_roundw
              case rel =>
                rename World => w2
                rename Below _ _ _ => hb2
                have hK2 := ((((hKw.call hb2).setCell (p := ⟨w.heap.size, 0, none⟩) (.inr rfl) (.bool true)).setCell (p := ⟨w.heap.size, 1, none⟩) (.inr rfl) (.string (S k))).setCell (p := ⟨w.heap.size, 2, none⟩) (.inr rfl) (.int .i64 (N k))).setCell (p := ⟨w.heap.size, 3, none⟩) (.inr rfl) (.int .i64 (T k))
                obtain ⟨F1, F2, F3⟩ := HSH'.out _ hK2
                exact ⟨k + 1, by omega, by go_num, by rw [HE.out]; exact heap_set (heap_set (heap_set (heap_set (HFF.out _ hb2) 0 _) 1 _) 2 _) 3 _, F1, F2, F3⟩
              case measure => simp [intOf]; omega
    · have hkn : k = n := by omega
      subst hkn
      go_wp2
      go_end0
      exact ⟨rfl, hshk, ⟨_, hobk⟩, hkp⟩
end Go.Proofs.Yboneofku
