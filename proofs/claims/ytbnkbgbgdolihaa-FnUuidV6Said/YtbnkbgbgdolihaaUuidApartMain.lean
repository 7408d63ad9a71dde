/- The law FnUuidApart, where the UUIDs of the clock are known, and differ. -/
import Derived.Test.YtbnkbgbgdolihaaClock1
namespace Go.Proofs.Ytbnkbgbgdolihaa
open Go.RowKit
set_option linter.unusedVariables false
theorem own_cap {w : World} {base e n : Nat} {v : Value} {xs : List Value} (ho : w.ownsRow base e 1 v n xs) {a : Option Addr} {l c : Nat} (hv : v = .slice a l c) : l ≤ c := by
  rcases ho.2 with ⟨rfl, hn⟩ | ⟨g, cap, cur, rfl, _, _, hnc, _⟩
  · cases hv; exact Nat.le_refl _
  · cases hv; exact hnc
theorem not_same {a1 a2 : Option Addr} {n1 n2 c1 c2 : Nat} {x y : List UInt8} {w : World} (h1 : Rd w a1 x) (h2 : Rd w a2 y) (e1 : x.length = n1) (e2 : y.length = n2) (hne : x ≠ y) :
    Calls Try.prog 15 #[.slice a1 n1 c1, .slice a2 n2 c2] w fun e w' => e = .returned (.bool false) ∧ ∃ n, w' = w.drewN n := by
  refine (same_at x y h1 h2 e1 e2).mono ?_
  rintro e w' ⟨rfl, n, rfl⟩
  exact ⟨by simp [hne], n, rfl⟩
set_option maxRecDepth 100000 in
set_option maxHeartbeats 4000000 in
theorem apart_main1 (at_ ar an ab : Option Addr) (zs : List Int) (Ls : List (List UInt8)) (n ct cr cn cb : Nat) (w : World) (hT : RdI .i64 w at_ zs) (hn : zs.length = n) (hn12 : n ≤ 12) (htim : (zs.all timeOk && decide (zs.length ≤ 12)) = true) (hLs : Ls.length = n)
    (hUC : Calls Try.prog 20 #[.int .i64 1, .slice at_ n ct, .slice ar 2 cr, .slice an 6 cn, .slice ab 16 cb] w fun e w' => ∃ v vals, e = .returned (.tuple #[v, .bool true]) ∧ w'.ownsRow w.heap.size 22 1 v vals.length vals ∧ Elems w' w.heap.size 5 vals Ls ∧ CapOk vals ∧ Below w.heap.size w w')
    (h16 : ∀ j, j < n → (Ls.getD j []).length = 16) (hver : ∀ j, j < n → B (Ls.getD j []) 6 / 16 = 1) (hvar : ∀ j, j < n → variantN (B (Ls.getD j []) 8) = 1) (hdis : ∀ i j, i < j → j < n → Ls.getD i [] ≠ Ls.getD j []) :
    Calls Try.prog 7 #[.int .i64 1, .slice at_ n ct, .slice ar 2 cr, .slice an 6 cn, .slice ab 16 cb] w fun e w' => e = .returned (.bool true) ∧ Below w.heap.size w w' := by
  have hb := Below.refl w.heap.size w
  have HN := Lib.hid hn
  have HUC := Lib.hid hUC
  have H16 := Lib.hid h16
  have HVER := Lib.hid hver
  have HVAR := Lib.hid hvar
  have HDIS := Lib.hid hdis
  have htm := timely_ok at_ zs ct w hT
  rw [hn] at htm
  rw [hn] at htim
  rw [htim] at htm
  have HTM := Lib.hid htm
  have HLs := Lib.hid hLs
  clear hn hUC h16 hver hvar hdis htm htim hLs
  go_enter Try.func7, Try.ntmps7
  go_wp2_with (first | (go_at_call 19; refine HTM.out.mono ?_; rintro e w1 ⟨rfl, rfl⟩) | (go_at_call 20; refine HUC.out.mono ?_; rintro e w3 ⟨v, vals, rfl, hown, hel, hcap, hb3⟩; obtain ⟨la, lc, rfl, hL⟩ := Elems.rdC hown hel hcap; have hlc := own_cap hown rfl; rw [HLs.out] at hlc; rw [HLs.out]))
  clear hown hel hcap
  have HL := Lib.hid (fun h => RdC.at hL h)
  clear hL hT
  go_loopw [84] (fun i wr => ∃ k : Nat, k ≤ n ∧ i = .int .i64 k ∧ Below w3.heap.size w3 wr) (fun i _ => n - (intOf i).toNat)
  case atStart => exact ⟨0, by omega, rfl, Below.refl _ _⟩
  case round =>
    obtain ⟨k, hk, rfl, hr⟩ := hrel
    by_cases hlt : k < n
    · obtain ⟨b, off, rfl, hel⟩ := HL.out (by rw [HLs.out]; omega)
      have one : ∀ j, j < n → ∃ gi ci, w3.cell? ⟨b, off + j, none⟩ = some (.slice (some ⟨gi, 0, none⟩) 16 ci) ∧ Rd w3 (some ⟨gi, 0, none⟩) (Ls.getD j []) := by
        intro j hj
        obtain ⟨gi, ci, h1, h2, h3⟩ := hel j (by rw [HLs.out]; exact hj)
        rw [H16.out j hj] at h1
        exact ⟨gi, ci, h1, h3⟩
      have ONE := Lib.hid one
      obtain ⟨gi, ci, hc, hrd⟩ := one k hlt
      have hcr := hr.cell (World.block_lt_of_cell? _ _ hc)
      rw [hc] at hcr
      have hrr := hrd.kept hr
      have L16 := Lib.hid (H16.out k hlt)
      have HV := Lib.hid (HVER.out k hlt)
      have HW := Lib.hid (HVAR.out k hlt)
      clear hc one hel
      go_wp2_with (go_at_call 11; refine (uuidKind_ok _ _ ci _ hrr L16.out).mono ?_; rw [HV.out, HW.out]; rintro e w4 ⟨rfl, hb4⟩)
      have hr4 := hr.trans (hb4.mono hr.size)
      clear hr hrr hcr hb4
      go_loopw [110] (fun i wi => ∃ j : Nat, j ≤ k ∧ i = .int .i64 j ∧ Below w3.heap.size w3 wi) (fun i _ => k - (intOf i).toNat)
      case atStart => exact ⟨0, by omega, rfl, hr4⟩
      case round =>
        obtain ⟨j, hj, rfl, hri⟩ := hrel
        by_cases hjk : j < k
        · obtain ⟨gj, cj, hcj, hrj⟩ := ONE.out j (by omega)
          have hcjr := hri.cell (World.block_lt_of_cell? _ _ hcj)
          rw [hcj] at hcjr
          have hrjr := hrj.kept hri
          have hrkr := hrd.kept hri
          have L16j := Lib.hid (H16.out j (by omega))
          have HD := Lib.hid (HDIS.out j k hjk hlt)
          clear hcj
          go_wp2_with (go_at_call 15; refine (not_same hrjr hrkr L16j.out L16.out HD.out).mono ?_; rintro e w5 ⟨rfl, n5, rfl⟩)
          have hr5 := below_drewN hri n5
          go_roundw
          case rel => exact ⟨j + 1, by omega, by go_num, hr5⟩
          case measure => simp [intOf]; omega
        · obtain rfl : j = k := by omega
          go_wp2
          go_roundw
          case rel => exact ⟨j + 1, by omega, by go_num, hri⟩
          case measure => simp [intOf]; omega
    · obtain rfl : k = n := by omega
      go_wp2
      go_ret
      exact ⟨rfl, hb3.trans (hr.mono hb3.size)⟩
set_option maxRecDepth 100000 in
set_option maxHeartbeats 4000000 in
theorem apart_main7 (at_ ar an ab : Option Addr) (zs : List Int) (Ls : List (List UInt8)) (n ct cr cn cb : Nat) (w : World) (hT : RdI .i64 w at_ zs) (hn : zs.length = n) (hn12 : n ≤ 12) (htim : (zs.all timeOk && decide (zs.length ≤ 12)) = true) (hLs : Ls.length = n)
    (hUC : Calls Try.prog 20 #[.int .i64 7, .slice at_ n ct, .slice ar 2 cr, .slice an 6 cn, .slice ab 16 cb] w fun e w' => ∃ v vals, e = .returned (.tuple #[v, .bool true]) ∧ w'.ownsRow w.heap.size 22 1 v vals.length vals ∧ Elems w' w.heap.size 5 vals Ls ∧ CapOk vals ∧ Below w.heap.size w w')
    (h16 : ∀ j, j < n → (Ls.getD j []).length = 16) (hver : ∀ j, j < n → B (Ls.getD j []) 6 / 16 = 7) (hvar : ∀ j, j < n → variantN (B (Ls.getD j []) 8) = 1) (hdis : ∀ i j, i < j → j < n → Ls.getD i [] ≠ Ls.getD j []) :
    Calls Try.prog 7 #[.int .i64 7, .slice at_ n ct, .slice ar 2 cr, .slice an 6 cn, .slice ab 16 cb] w fun e w' => e = .returned (.bool true) ∧ Below w.heap.size w w' := by
  have hb := Below.refl w.heap.size w
  have HN := Lib.hid hn
  have HUC := Lib.hid hUC
  have H16 := Lib.hid h16
  have HVER := Lib.hid hver
  have HVAR := Lib.hid hvar
  have HDIS := Lib.hid hdis
  have htm := timely_ok at_ zs ct w hT
  rw [hn] at htm
  rw [hn] at htim
  rw [htim] at htm
  have HTM := Lib.hid htm
  have HLs := Lib.hid hLs
  clear hn hUC h16 hver hvar hdis htm htim hLs
  go_enter Try.func7, Try.ntmps7
  go_wp2_with (first | (go_at_call 19; refine HTM.out.mono ?_; rintro e w1 ⟨rfl, rfl⟩) | (go_at_call 20; refine HUC.out.mono ?_; rintro e w3 ⟨v, vals, rfl, hown, hel, hcap, hb3⟩; obtain ⟨la, lc, rfl, hL⟩ := Elems.rdC hown hel hcap; have hlc := own_cap hown rfl; rw [HLs.out] at hlc; rw [HLs.out]))
  clear hown hel hcap
  have HL := Lib.hid (fun h => RdC.at hL h)
  clear hL hT
  go_loopw [84] (fun i wr => ∃ k : Nat, k ≤ n ∧ i = .int .i64 k ∧ Below w3.heap.size w3 wr) (fun i _ => n - (intOf i).toNat)
  case atStart => exact ⟨0, by omega, rfl, Below.refl _ _⟩
  case round =>
    obtain ⟨k, hk, rfl, hr⟩ := hrel
    by_cases hlt : k < n
    · obtain ⟨b, off, rfl, hel⟩ := HL.out (by rw [HLs.out]; omega)
      have one : ∀ j, j < n → ∃ gi ci, w3.cell? ⟨b, off + j, none⟩ = some (.slice (some ⟨gi, 0, none⟩) 16 ci) ∧ Rd w3 (some ⟨gi, 0, none⟩) (Ls.getD j []) := by
        intro j hj
        obtain ⟨gi, ci, h1, h2, h3⟩ := hel j (by rw [HLs.out]; exact hj)
        rw [H16.out j hj] at h1
        exact ⟨gi, ci, h1, h3⟩
      have ONE := Lib.hid one
      obtain ⟨gi, ci, hc, hrd⟩ := one k hlt
      have hcr := hr.cell (World.block_lt_of_cell? _ _ hc)
      rw [hc] at hcr
      have hrr := hrd.kept hr
      have L16 := Lib.hid (H16.out k hlt)
      have HV := Lib.hid (HVER.out k hlt)
      have HW := Lib.hid (HVAR.out k hlt)
      clear hc one hel
      go_wp2_with (go_at_call 11; refine (uuidKind_ok _ _ ci _ hrr L16.out).mono ?_; rw [HV.out, HW.out]; rintro e w4 ⟨rfl, hb4⟩)
      have hr4 := hr.trans (hb4.mono hr.size)
      clear hr hrr hcr hb4
      go_loopw [110] (fun i wi => ∃ j : Nat, j ≤ k ∧ i = .int .i64 j ∧ Below w3.heap.size w3 wi) (fun i _ => k - (intOf i).toNat)
      case atStart => exact ⟨0, by omega, rfl, hr4⟩
      case round =>
        obtain ⟨j, hj, rfl, hri⟩ := hrel
        by_cases hjk : j < k
        · obtain ⟨gj, cj, hcj, hrj⟩ := ONE.out j (by omega)
          have hcjr := hri.cell (World.block_lt_of_cell? _ _ hcj)
          rw [hcj] at hcjr
          have hrjr := hrj.kept hri
          have hrkr := hrd.kept hri
          have L16j := Lib.hid (H16.out j (by omega))
          have HD := Lib.hid (HDIS.out j k hjk hlt)
          clear hcj
          go_wp2_with (go_at_call 15; refine (not_same hrjr hrkr L16j.out L16.out HD.out).mono ?_; rintro e w5 ⟨rfl, n5, rfl⟩)
          have hr5 := below_drewN hri n5
          go_roundw
          case rel => exact ⟨j + 1, by omega, by go_num, hr5⟩
          case measure => simp [intOf]; omega
        · obtain rfl : j = k := by omega
          go_wp2
          go_roundw
          case rel => exact ⟨j + 1, by omega, by go_num, hri⟩
          case measure => simp [intOf]; omega
    · obtain rfl : k = n := by omega
      go_wp2
      go_ret
      exact ⟨rfl, hb3.trans (hr.mono hb3.size)⟩
end Go.Proofs.Ytbnkbgbgdolihaa
