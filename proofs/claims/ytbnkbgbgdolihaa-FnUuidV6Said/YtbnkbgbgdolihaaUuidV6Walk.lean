/- The law FnUuidV6 returns true, and turns nothing that was there. -/
import Derived.Test.YtbnkbgbgdolihaaClock6
import Derived.Test.YtbnkbgbgdolihaaUuidV1Walk
namespace Go.Proofs.Ytbnkbgbgdolihaa
open Go.RowKit
set_option linter.unusedVariables false
theorem v6s_getD (r0 r1 : UInt8) (nd : List UInt8) (ts : List Nat) (n k : Nat) (h : k < n) : (v6s r0 r1 nd ts n).getD k [] = v6L (stampOf (ts.getD k 0)) (csAt r0 r1 ts (k + 1)) nd := by simp [v6s, h]
set_option maxRecDepth 100000 in
set_option maxHeartbeats 4000000 in
theorem uuidV6_main (at_ ar an : Option Addr) (zs : List Int) (ts : List Nat) (r0 r1 n0 n1 n2 n3 n4 n5 : UInt8) (n ct cr cn : Nat) (w : World) (hT : RdI .i64 w at_ zs) (hn : zs.length = n) (hz : zs = ts.map Int.ofNat) (hts : ∀ t ∈ ts, t ≤ 4102444800000000000) (hn12 : n ≤ 12)
    (hr : Rd w ar [r0, r1]) (hnd : Rd w an [n0, n1, n2, n3, n4, n5]) (hcr : 2 ≤ cr) (hcn : 6 ≤ cn) (htim : (zs.all timeOk && decide (zs.length ≤ 12)) = true) :
    Calls Try.prog 10 #[.slice at_ n ct, .slice ar 2 cr, .slice an 6 cn] w fun e w' => e = .returned (.bool true) ∧ Below w.heap.size w w' := by
  have hb := Below.refl w.heap.size w
  have HN := Lib.hid hn
  have HZ := Lib.hid hz
  have HTS := Lib.hid hts
  have htm := timely_ok at_ zs ct w hT
  rw [hn] at htm
  rw [hn] at htim
  rw [htim] at htm
  have HTM := Lib.hid htm
  have HLs := Lib.hid (v6s_length r0 r1 [n0, n1, n2, n3, n4, n5] ts n)
  clear hn hz hts htim htm
  go_enter Try.func10, Try.ntmps10
  go_wp2_with (go_at_call 19; refine HTM.out.mono ?_; rintro e w1 ⟨rfl, rfl⟩)
  go_wp2_with (go_at_call 20; refine (uuidClock6_ok at_ ar an _ zs ts r0 r1 n0 n1 n2 n3 n4 n5 n ct cr cn w hT HN.out HZ.out HTS.out hn12 hr hnd hcr hcn).mono ?_; rintro e w3 ⟨v, vals, rfl, hown, hel, hcap, hb3⟩; obtain ⟨la, lc, rfl, hL⟩ := Elems.rdC hown hel hcap; rw [HLs.out])
  clear hown hel hcap
  have T3 := hT.kept hb3
  have r3 := hr.kept hb3
  have d3 := hnd.kept hb3
  go_wp2_with (go_at_call 22; refine (clocks_ok at_ ar zs ts r0 r1 n ct cr w3 T3 HN.out HZ.out HTS.out hn12 r3).mono ?_; rintro e w4 ⟨v1, v2, rfl, o1, o2, hb4⟩)
  have hbw := hb3.trans (hb4.mono hb3.size)
  have d4 := d3.kept hb4
  have hL4 := fun h => (RdC.at hL h)
  have HL := Lib.hid hL4
  have HO1 := Lib.hid o1
  have HO2 := Lib.hid o2
  clear hb3 hL hL4 T3 r3 d3 o1 o2 hT hr hnd
  go_wp2
  go_loopw [69] (fun i wr => ∃ k : Nat, k ≤ n ∧ i = .int .i64 k ∧ Below w4.heap.size w4 wr) (fun i _ => n - (intOf i).toNat)
  case atStart => exact ⟨0, by omega, rfl, Below.refl _ _⟩
  case round =>
    obtain ⟨k, hk, rfl, hr⟩ := hrel
    by_cases hlt : k < n
    · obtain ⟨b, off, rfl, hel⟩ := HL.out (by rw [HLs.out]; omega)
      obtain ⟨gi, ci, hc, hci, hrd⟩ := hel k (by rw [HLs.out]; exact hlt)
      rw [v6s_getD r0 r1 _ ts n k hlt, v6L_length _ _ _ rfl] at hc hci
      rw [v6s_getD r0 r1 _ ts n k hlt, show csAt r0 r1 ts (k + 1) = sAt r0 r1 ts (k + 1) + 32768 from by simp [csAt]] at hrd
      obtain ⟨g1, c1, e1, hc1, k1⟩ := own_cell HO1.out rfl k (by rw [stampVals_length]; exact hlt)
      obtain ⟨g2, c2, e2, hc2, k2⟩ := own_cell HO2.out rfl k (by rw [seqVals_length]; exact hlt)
      rw [stampVals_length] at e1 hc1
      rw [seqVals_length] at e2 hc2
      rw [stampVals_get ts n k hlt] at k1
      rw [seqVals_get r0 r1 ts n k hlt] at k2
      clear HO1 HO2
      subst e1 e2
      have hc4 := (hb4.cell (World.block_lt_of_cell? _ _ hc)).trans hc
      have hcr := (hr.cell (World.block_lt_of_cell? _ _ hc4)).trans hc4
      have k1r := (hr.cell (World.block_lt_of_cell? _ _ k1)).trans k1
      have k2r := (hr.cell (World.block_lt_of_cell? _ _ k2)).trans k2
      have hrr := (hrd.kept hb4).kept hr
      have dr := d4.kept hr
      have hnow := stampOf_lt _ (getD_le ts HTS.out k)
      have hsl := sAt_lt r0 r1 ts (k + 1)
      have h1 := v6_time (stampOf (ts.getD k 0)) (sAt r0 r1 ts (k + 1) + 32768) [n0, n1, n2, n3, n4, n5] hnow
      have h2 := v6_q (stampOf (ts.getD k 0)) (sAt r0 r1 ts (k + 1)) [n0, n1, n2, n3, n4, n5] hsl
      have h3 := v6_var (stampOf (ts.getD k 0)) (sAt r0 r1 ts (k + 1)) [n0, n1, n2, n3, n4, n5] hsl
      have h4 := v6_node (stampOf (ts.getD k 0)) (sAt r0 r1 ts (k + 1) + 32768) [n0, n1, n2, n3, n4, n5]
      have LW := Lib.hid (v6L_length (stampOf (ts.getD k 0)) (sAt r0 r1 ts (k + 1) + 32768) [n0, n1, n2, n3, n4, n5] rfl)
      have HV := Lib.hid (v6_ver (stampOf (ts.getD k 0)) (sAt r0 r1 ts (k + 1) + 32768) [n0, n1, n2, n3, n4, n5])
      clear hc hrd hel hc4 k1 k2
      clear hnow
      generalize stampOf (ts.getD k 0) = now at *
      generalize sAt r0 r1 ts (k + 1) = s at *
      generalize v6L now (s + 32768) [n0, n1, n2, n3, n4, n5] = y at *
      have H1 := Lib.hid h1
      have H2 := Lib.hid h2
      have H3 : Hid (variantN (B y 8) = 1) := Lib.hid (by unfold variantN; rw [if_pos h3])
      have rN := hrr.part 10 6 (by rw [LW.out]; decide) (by decide)
      rw [h4, Option.map_some, show List.take 6 [n0, n1, n2, n3, n4, n5] = [n0, n1, n2, n3, n4, n5] from rfl] at rN
      clear h1 h2 h3 h4
      go_wp2_with (go_at_call 11; refine (uuidKind_ok _ y ci _ hrr LW.out).mono ?_; rw [HV.out, H3.out]; rintro e w5 ⟨rfl, hb5⟩)
      have hrr5 := hrr.kept hb5
      have k25 := (hb5.cell (World.block_lt_of_cell? _ _ k2r)).trans k2r
      have dr5 := dr.kept hb5
      have rN5 := rN.kept hb5
      have hci16 : 16 ≤ ci := hci
      have i1 : (k : Int) < (n : Int) := by omega
      go_wp2_with (first | (go_at_call 23; refine (uuidTime6_ok _ y ci _ hrr5 LW.out HV.out H1.out).mono ?_; rw [H2.out]; rintro e w6 ⟨rfl, hb6⟩; have hb56 := hb5.trans (hb6.mono hb5.size); have k26 := (hb6.cell (World.block_lt_of_cell? _ _ k25)).trans k25) | (go_at_call 15; refine (same_eq (rN5.kept hb6) (dr5.kept hb6) rfl rfl).mono ?_; rintro e w8 ⟨rfl, n8, rfl⟩))
      have hb58 := below_drewN hb56 n8
      have hbE := hr.trans (hb58.mono hr.size)
      go_roundw
      case rel => exact ⟨k + 1, by omega, by go_num, hbE⟩
      case measure => simp [intOf]; omega
    · obtain rfl : k = n := by omega
      go_wp2
      go_ret
      exact ⟨rfl, hbw.trans (hr.mono hbw.size)⟩
set_option maxRecDepth 100000 in
set_option maxHeartbeats 1600000 in
theorem uuidV6_walk (a0 : Option Addr) (x0 : List Int) (c0 : Nat) (a1 : Option Addr) (x1 : List UInt8) (c1 : Nat) (a2 : Option Addr) (x2 : List UInt8) (c2 : Nat) (w : World) (h0 : RdI .i64 w a0 x0) (_ : x0.length ≤ c0) (_ : c0 ≤ 9223372036854775807) (h1 : Rd w a1 x1) (hc : x1.length ≤ c1) (hc2 : c1 ≤ 9223372036854775807) (h2 : Rd w a2 x2) (hd : x2.length ≤ c2) (hd2 : c2 ≤ 9223372036854775807) :
    Calls Try.prog 10 #[.slice a0 x0.length c0, .slice a1 x1.length c1, .slice a2 x2.length c2] w fun e w' => e = .returned (.bool true) ∧ Below w.heap.size w w' := by
  have hb := Below.refl w.heap.size w
  have hl0 := h0.1
  have hl1 := h1.1
  have hl2 := h2.1
  have htm := timely_ok a0 x0 c0 w h0
  by_cases hgood : x0.length ≤ 2147483647 ∧ x1.length ≤ 2147483647 ∧ x2.length ≤ 2147483647 ∧ (x0.all timeOk && decide (x0.length ≤ 12)) = true ∧ x1.length = 2 ∧ x2.length = 6
  · obtain ⟨-, -, -, hB, e1, e2⟩ := hgood
    obtain ⟨ts, hz, hts, h12⟩ := times_of hB
    rw [e1, e2]
    match x1, e1, h1 with
    | [r0, r1], _, h1 =>
    match x2, e2, h2 with
    | [n0, n1, n2, n3, n4, n5], _, h2 =>
    exact uuidV6_main a0 a1 a2 x0 ts r0 r1 n0 n1 n2 n3 n4 n5 x0.length c0 c1 c2 w h0 rfl hz hts h12 h1 h2 (by simpa using hc) (by simpa using hd) hB
  · clear h0 h1 h2
    generalize hTT : (x0.all timeOk && decide (x0.length ≤ 12)) = T at *
    generalize x0.length = m0 at *
    generalize x1.length = m1 at *
    generalize x2.length = m2 at *
    have HT := Lib.hid htm
    have HG := Lib.hid hgood
    clear htm hgood hTT
    by_cases b0 : 2147483647 < m0
    · go_enter Try.func10, Try.ntmps10
      go_wp2
      go_ret
      exact ⟨rfl, hb⟩
    by_cases b1 : 2147483647 < m1
    · go_enter Try.func10, Try.ntmps10
      go_wp2
      go_ret
      exact ⟨rfl, hb⟩
    by_cases b2 : 2147483647 < m2
    · go_enter Try.func10, Try.ntmps10
      go_wp2
      go_ret
      exact ⟨rfl, hb⟩
    by_cases vt : T = true
    · subst vt
      by_cases v1 : m1 = 2
      · have v2 : ((m2 : Int) != 6) = true := by
          rw [bne_iff_ne]
          intro e
          exact HG.out ⟨by omega, by omega, by omega, rfl, v1, by omega⟩
        subst v1
        go_enter Try.func10, Try.ntmps10
        go_wp2_with (go_at_call 19; refine HT.out.mono ?_; rintro e w1 ⟨rfl, rfl⟩)
        go_ret
        exact ⟨rfl, hb⟩
      · have v1' : ((m1 : Int) != 2) = true := by rw [bne_iff_ne]; omega
        clear v1
        go_enter Try.func10, Try.ntmps10
        go_wp2_with (go_at_call 19; refine HT.out.mono ?_; rintro e w1 ⟨rfl, rfl⟩)
        go_ret
        exact ⟨rfl, hb⟩
    · obtain rfl : T = false := by simpa using vt
      clear vt
      go_enter Try.func10, Try.ntmps10
      go_wp2_with (go_at_call 19; refine HT.out.mono ?_; rintro e w1 ⟨rfl, rfl⟩)
      go_ret
      exact ⟨rfl, hb⟩
end Go.Proofs.Ytbnkbgbgdolihaa
