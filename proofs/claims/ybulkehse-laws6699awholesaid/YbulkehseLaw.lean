/-
  The law: its first statements.
-/
import Derived.Test.YbulkehseOther
namespace Go.Proofs.Ybulkehse
open Go.RowKit

set_option maxHeartbeats 1000000 in
set_option maxRecDepth 100000 in
/-- more answers than the law looks at. -/
theorem law_long (cs : Array Value) (now diag : Int) (ja : Option Addr) (n c : Nat) (w : World) (hn : ¬ n ≤ 1048576) (k7 : cs[7]? = some (.slice ja n c)) :
    Calls Yba.prog 3 #[.agg cs, .int .i64 now, .int .u8 diag] w
      fun e w' => e = .returned (.bool true) ∧ Below w.heap.size w w' := by
  have hn' : (1048576 : Int) < n := by omega
  go_enter Yba.func3, Yba.ntmps3
  go_wp2
  go_ret
  exact ⟨rfl, (Below.refl _ w).alloc (Nat.le_refl _) _⟩

theorem ss_mk (md cT cR : Int) (slow : Bool) (dm role : Int) (jb : Nat) (lat st dg d rr : Int) (pol ad : Bool) (dmr rd rs r : Int) (hl dt : Bool) (da last next : Int) :
    SS #[.int .u32 md, .int .i64 cT, .int .i64 cR, .bool slow, .int .u8 dm, .int .u8 role, .iface 28 (.pointer (some ⟨jb, 0, none⟩)), .int .i64 lat, .int .u8 st, .int .u8 dg, .int .i64 d, .int .i64 rr, .bool pol, .bool ad, .int .i64 dmr, .int .u32 rd, .int .u8 rs, .int .i64 r, .bool hl, .bool dt, .int .i64 da, .int .i64 last, .int .i64 next] md cT cR slow dm role jb lat st dg d rr pol ad dmr rd rs r hl dt da last next :=
  ⟨rfl, rfl, rfl, rfl, rfl, rfl, rfl, rfl, rfl, rfl, rfl, rfl, rfl, rfl, rfl, rfl, rfl, rfl, rfl, rfl, rfl, rfl, rfl, rfl⟩

set_option maxHeartbeats 4000000 in
set_option maxRecDepth 100000 in
theorem law_any (md cT cR : Int) (slow : Bool) (dm role lat : Int) (ja : Option Addr) (n c : Nat) (z : Nat → Int) (st0 dg d rr : Int) (pol ad : Bool) (dmr rd rs0 r : Int) (hl dt : Bool) (da last next now diag : Int) (w : World) (cs : Array Value)
    (hn : n ≤ 1048576) (hnil : ja = none → n = 0 ∧ c = 0) (hJ : Jv w ja n z) (hro : 0 ≤ role) (hst : 0 ≤ st0) (hrs : 0 ≤ rs0)
    (k0 : cs[0]? = some (.int .u32 md)) (k1 : cs[1]? = some (.int .i64 cT)) (k2 : cs[2]? = some (.int .i64 cR)) (k3 : cs[3]? = some (.bool slow)) (k4 : cs[4]? = some (.int .u8 dm)) (k5 : cs[5]? = some (.int .u8 role)) (k6 : cs[6]? = some (.int .i64 lat)) (k7 : cs[7]? = some (.slice ja n c)) (k8 : cs[8]? = some (.int .u8 st0)) (k9 : cs[9]? = some (.int .u8 dg)) (k10 : cs[10]? = some (.int .i64 d)) (k11 : cs[11]? = some (.int .i64 rr)) (k12 : cs[12]? = some (.bool pol)) (k13 : cs[13]? = some (.bool ad)) (k14 : cs[14]? = some (.int .i64 dmr)) (k15 : cs[15]? = some (.int .u32 rd)) (k16 : cs[16]? = some (.int .u8 rs0)) (k17 : cs[17]? = some (.int .i64 r)) (k18 : cs[18]? = some (.bool hl)) (k19 : cs[19]? = some (.bool dt)) (k20 : cs[20]? = some (.int .i64 da)) (k21 : cs[21]? = some (.int .i64 last)) (k22 : cs[22]? = some (.int .i64 next))
    (hcT : cT ≤ 9223372036854775807) (hr2 : r ≤ 9223372036854775807) (hl3 : -9223372036854775808 ≤ lat) (hl4 : lat ≤ 9223372036854775807) (hz5 : 0 ≤ rndv n z) (hz6 : rndv n z ≤ 18446744073709551615) :
    Calls Yba.prog 3 #[.agg cs, .int .i64 now, .int .u8 diag] w
      fun e w' => e = .returned (.bool true) ∧ Below w.heap.size w w' := by
  have hclone := clone_any ja n c z (w.alloc (.cells cs 25)) hn hnil (hJ.mono (by simp) (fun b o hb => World.cell?_alloc_past _ _ _ hb))
  go_enter Yba.func3, Yba.ntmps3
  go_wp2_with fail
  refine hclone.mono ?_
  rintro e w1 ⟨ka, kc, rfl, hiso, hK, hbel1⟩
  have hz1 := hbel1.size
  simp only [World.size_alloc] at hz1
  have ca := fun i => hbel1.cell (p := ⟨w.heap.size, i, none⟩) (by simp)
  simp only [World.cell?_alloc_new] at ca
  have a0 := (ca 0).trans k0
  have a1 := (ca 1).trans k1
  have a2 := (ca 2).trans k2
  have a3 := (ca 3).trans k3
  have a4 := (ca 4).trans k4
  have a5 := (ca 5).trans k5
  have a6 := (ca 6).trans k6
  have a7 := (ca 7).trans k7
  have a8 := (ca 8).trans k8
  have a9 := (ca 9).trans k9
  have a10 := (ca 10).trans k10
  have a11 := (ca 11).trans k11
  have a12 := (ca 12).trans k12
  have a13 := (ca 13).trans k13
  have a14 := (ca 14).trans k14
  have a15 := (ca 15).trans k15
  have a16 := (ca 16).trans k16
  have a17 := (ca 17).trans k17
  have a18 := (ca 18).trans k18
  have a19 := (ca 19).trans k19
  have a20 := (ca 20).trans k20
  have a21 := (ca 21).trans k21
  have a22 := (ca 22).trans k22
  have hJ1 : Jv w1 ja n z := hJ.mono (by omega) (fun b o hb => (hbel1.cell (by simp; omega)).trans (World.cell?_alloc_past _ _ _ hb))
  have hbelw : Below w.heap.size w w1 := ((Below.refl _ w).alloc (Nat.le_refl _) _).trans (hbel1.mono (by simp))
  have hlt1 : w.heap.size < w1.heap.size := by omega
  clear hclone ca hbel1 hJ hz1 k0 k1 k2 k3 k4 k5 k6 k7 k8 k9 k10 k11 k12 k13 k14 k15 k16 k17 k18 k19 k20 k21 k22
  go_upto_region 5 with (fail)
  go_cut [9] (fun s9 wc => s9 = .pointer (some ⟨w1.heap.size + 1, 0, none⟩) ∧ wc = (w1.alloc (.cells #[.slice ja n c, .int .i64 0] 30)).alloc (.cells #[.int .u32 md, .int .i64 cT, .int .i64 cR, .bool slow, .int .u8 dm, .int .u8 (role % 3), .iface 28 (.pointer (some ⟨w1.heap.size, 0, none⟩)), .int .i64 lat, .int .u8 (st0 % 5), .int .u8 dg, .int .i64 d, .int .i64 rr, .bool pol, .bool ad, .int .i64 dmr, .int .u32 rd, .int .u8 (rs0 % 5), .int .i64 r, .bool hl, .bool dt, .int .i64 da, .int .i64 last, .int .i64 next] 41))
  case first =>
    go_wp2
    go_meet
    case rel => exact ⟨rfl, rfl⟩
  case rest =>
    obtain ⟨rfl, rfl⟩ := hcut
    clear a0 a1 a2 a3 a4 a5 a6 a8 a9 a10 a11 a12 a13 a14 a15 a16 a17 a18 a19 a20 a21 a22
    have hss := ss_mk md cT cR slow dm (role % 3) w1.heap.size lat (st0 % 5) dg d rr pol ad dmr rd (rs0 % 5) r hl dt da last next
    generalize (#[.int .u32 md, .int .i64 cT, .int .i64 cR, .bool slow, .int .u8 dm, .int .u8 (role % 3), .iface 28 (.pointer (some ⟨w1.heap.size, 0, none⟩)), .int .i64 lat, .int .u8 (st0 % 5), .int .u8 dg, .int .i64 d, .int .i64 rr, .bool pol, .bool ad, .int .i64 dmr, .int .u32 rd, .int .u8 (rs0 % 5), .int .i64 r, .bool hl, .bool dt, .int .i64 da, .int .i64 last, .int .i64 next] : Array Value) = ss at *
    rename_i hgo
    refine hgo _ _ ?_
    by_cases h0 : st0 % 5 = 0
    · exact law_zero md cT cR slow dm (role % 3) lat ja ka n c kc z (st0 % 5) dg d rr pol ad dmr rd (rs0 % 5) r hl dt da last next now diag w w1 ss _ _ _ _ _ _ _ _ _ _ _ _ _ _ _ _ _ _ _ _ _ _ _ _ _ _ _ _ _ _ _ _ _ _ _ _ _ _ _ _ _ _ _ _ _ _ _ _ _ _ _ _ _ _ _ _ _ _ _ _ _ _ _ _ _ _ _ _ _ _ _ _ _ _ _ _ _ _ _ _ _ _ _ _ _ _ _ _ _ _ _ _ _ _ _ _ _ _ _ _ _ _ _ _ _ _ _ _ _ _ _ _ _ _ _ _ _ _ _ _ _ _ _ _ _ _ _ _ _ _ _ _ _ _ _ _ _ _ _ _ _ _ _ _ _ _ _ _ _ _ _ _ _ _ _ _ _ _ _ _ _ _ _ _ _ _ _ _ _ _ _ _ _ _ _ _ _ _ _ _ _ _ _ _ _ _ _ _ _ _ _ _ _ _ _ _ _ _ _ _ _ _ _ _ _ _ _ _ _ _ _ _ hss hn hlt1 a7 hJ1 hK hbelw hiso h0
    · by_cases h1 : st0 % 5 = 1
      · exact law_one md cT cR slow dm (role % 3) lat ja ka n c kc z (st0 % 5) dg d rr pol ad dmr rd (rs0 % 5) r hl dt da last next now diag w w1 ss _ _ _ _ _ _ _ _ _ _ _ _ _ _ _ _ _ _ _ _ _ _ _ _ _ _ _ _ _ _ _ _ _ _ _ _ _ _ _ _ _ _ _ _ _ _ _ _ _ _ _ _ _ _ _ _ _ _ _ _ _ _ _ _ _ _ _ _ _ _ _ _ _ _ _ _ _ _ _ _ _ _ _ _ _ _ _ _ _ _ _ _ _ _ _ _ _ _ _ _ _ _ _ _ _ _ _ _ _ _ _ _ _ _ _ _ _ _ _ _ _ _ _ _ _ _ _ _ _ _ _ _ _ _ _ _ _ _ _ _ _ _ _ _ _ _ _ _ _ _ _ _ _ _ _ _ _ _ _ _ _ _ _ _ _ _ _ _ _ _ _ _ _ _ _ _ _ _ _ _ _ _ _ _ _ _ _ _ _ _ _ _ _ _ _ _ _ _ _ _ _ _ _ _ _ _ _ _ _ _ _ _ hss hn hlt1 a7 hJ1 hK hbelw hiso h1
      · exact law_other md cT cR slow dm (role % 3) lat ja ka n c kc z (st0 % 5) dg d rr pol ad dmr rd (rs0 % 5) r hl dt da last next now diag w w1 ss _ _ _ _ _ _ _ _ _ _ _ _ _ _ _ _ _ _ _ _ _ _ _ _ _ _ _ _ _ _ _ _ _ _ _ _ _ _ _ _ _ _ _ _ _ _ _ _ _ _ _ _ _ _ _ _ _ _ _ _ _ _ _ _ _ _ _ _ _ _ _ _ _ _ _ _ _ _ _ _ _ _ _ _ _ _ _ _ _ _ _ _ _ _ _ _ _ _ _ _ _ _ _ _ _ _ _ _ _ _ _ _ _ _ _ _ _ _ _ _ _ _ _ _ _ _ _ _ _ _ _ _ _ _ _ _ _ _ _ _ _ _ _ _ _ _ _ _ _ _ _ _ _ _ _ _ _ _ _ _ _ _ _ _ _ _ _ _ _ _ _ _ _ _ _ _ _ _ _ _ _ _ _ _ _ _ _ _ _ _ _ _ _ _ _ _ _ _ _ _ _ _ _ _ _ _ _ _ _ _ _ _ hss hn hlt1 a7 hJ1 hK hbelw hiso h0 h1 hcT hr2 hl3 hl4 hz5 hz6
end Go.Proofs.Ybulkehse
