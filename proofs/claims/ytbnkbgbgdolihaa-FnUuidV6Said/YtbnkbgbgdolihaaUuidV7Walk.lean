/- The law FnUuidV7 returns true, and turns nothing that was there. -/
import Derived.Test.YtbnkbgbgdolihaaUuidV7Law
namespace Go.Proofs.Ytbnkbgbgdolihaa
open Go.RowKit
set_option linter.unusedVariables false
theorem RdC.at {w : World} {a : Option Addr} {ls : List (List UInt8)} (h : RdC w a ls) (h0 : 0 < ls.length) : ∃ b off, a = some ⟨b, off, none⟩ ∧ ∀ i, i < ls.length → ∃ gi ci, w.cell? ⟨b, off + i, none⟩ = some (.slice (some ⟨gi, 0, none⟩) (ls.getD i []).length ci) ∧ (ls.getD i []).length ≤ ci ∧ Rd w (some ⟨gi, 0, none⟩) (ls.getD i []) := by
  rcases h with h | h
  · rw [h] at h0; simp at h0
  · exact h
theorem compare_at {a1 a2 : Option Addr} {n1 n2 c1 c2 : Nat} {x y : List UInt8} {w : World} (h1 : Rd w a1 x) (h2 : Rd w a2 y) (e1 : x.length = n1) (e2 : y.length = n2) :
    Calls Try.prog 21 #[.slice a1 n1 c1, .slice a2 n2 c2] w fun e w' => e = .returned (.int .i64 (cmpL x y)) ∧ ∃ n, w' = w.drewN n := by
  subst e1 e2; exact compare_any a1 a2 x y c1 c2 w h1 h2
theorem v7s_getD (x : List UInt8) (ts : List Nat) (n k : Nat) (h : k < n) : (v7s x ts n).getD k [] = v7L x (nowAt ts (k + 1)) := by simp [v7s, h]
set_option maxRecDepth 100000 in
set_option maxHeartbeats 2000000 in
theorem uuidV7_main (at_ ab : Option Addr) (zs : List Int) (ts : List Nat) (x : List UInt8) (n ct cb : Nat) (w : World) (hT : RdI .i64 w at_ zs) (hn : zs.length = n) (hz : zs = ts.map Int.ofNat) (hts : ∀ t ∈ ts, t ≤ 4102444800000000000) (hn12 : n ≤ 12)
    (hx : Rd w ab x) (hxl : x.length = 16) (hcb : 16 ≤ cb) (hcb2 : cb ≤ 9223372036854775807) (htim : (zs.all timeOk && decide (zs.length ≤ 12)) = true) :
    Calls Try.prog 6 #[.slice at_ n ct, .slice ab 16 cb] w fun e w' => e = .returned (.bool true) ∧ Below w.heap.size w w' := by
  have hb := Below.refl w.heap.size w
  have HN := Lib.hid hn
  have HZ := Lib.hid hz
  have HX := Lib.hid hxl
  have HTS := Lib.hid hts
  have htm := timely_ok at_ zs ct w hT
  rw [hn] at htm
  rw [hn] at htim
  rw [htim] at htm
  have HTM := Lib.hid htm
  have HLs := Lib.hid (v7s_length x ts n)
  clear hn hz hxl hts htim htm
  go_enter Try.func6, Try.ntmps6
  go_wp2_with (first | (go_at_call 19; refine HTM.out.mono ?_; rintro e w1 ⟨rfl, rfl⟩) | (at_make; refine wp_make_zero rfl rfl Try.underlying22 info5 rfl (n := 6) rfl rfl (by decide) (by decide) ?_))
  intro w2 b2 g2 s2
  have ba2 : Blk w2 w.heap.size (bvs [0, 0]) 5 := (show Blk (w.alloc (.cells (bvs [0, 0]).toArray 5)) w.heap.size (bvs [0, 0]) 5 from Blk.new w _ _).grown g2 (by simp)
  have hb2 : Below w.heap.size w w2 := (hb.alloc (Nat.le_refl _) _).trans ((below_grown g2).mono (by simp))
  have rr := ba2.rd (by decide)
  have rn := (show Blk w2 _ (bvs (List.replicate 6 0)) 5 from b2).rd (by decide)
  have T2 := hT.kept hb2
  have x2 := hx.kept hb2
  clear b2 g2 s2 ba2
  go_wp2_with (go_at_call 20; refine (uuidClock7_ok at_ _ _ ab zs ts [0, 0] (List.replicate 6 0) x n ct 2 6 cb w2 T2 HN.out HZ.out HTS.out hn12 rr rfl rn rfl x2 HX.out hcb hcb2 (by decide) (by decide)).mono ?_; rintro e w3 ⟨v, vals, rfl, hown, hel, hcap, hb3⟩; obtain ⟨la, lc, rfl, hL⟩ := Elems.rdC hown hel hcap; rw [HLs.out])
  clear hown hel hcap rr rn T2
  have hbw := hb2.trans (hb3.mono hb2.size)
  have x3 := hx.kept hbw
  have HL := Lib.hid (fun h => RdC.at hL h)
  clear x2 hb3 hb2 hL hT
  go_wp2
  go_loopw [44] (fun i wr => ∃ k : Nat, k ≤ n ∧ i = .int .i64 k ∧ Below w3.heap.size w3 wr) (fun i _ => n - (intOf i).toNat)
  case atStart => exact ⟨0, by omega, rfl, Below.refl _ _⟩
  case round =>
    obtain ⟨k, hk, rfl, hr⟩ := hrel
    by_cases hlt : k < n
    · obtain ⟨b, off, rfl, hel⟩ := HL.out (by rw [HLs.out]; omega)
      have one : ∀ j, j < n → ∃ gi ci, w3.cell? ⟨b, off + j, none⟩ = some (.slice (some ⟨gi, 0, none⟩) 16 ci) ∧ 16 ≤ ci ∧ Rd w3 (some ⟨gi, 0, none⟩) (v7L x (nowAt ts (j + 1))) := by
        intro j hj
        obtain ⟨gi, ci, h1, h2, h3⟩ := hel j (by rw [HLs.out]; exact hj)
        rw [v7s_getD x ts n j hj, v7L_length x _ (by rw [HX.out]; decide)] at h1 h2
        rw [v7s_getD x ts n j hj] at h3
        exact ⟨gi, ci, h1, h2, h3⟩
      obtain ⟨gi, ci, hc, hci, hrd⟩ := one k hlt
      have hcr := hr.cell (World.block_lt_of_cell? _ _ hc)
      rw [hc] at hcr
      have hrr := hrd.kept hr
      have LW := Lib.hid (v7L_length x (nowAt ts (k + 1)) (by rw [HX.out]; decide))
      have LF := Lib.hid (formL_length x 7 (by rw [HX.out]; decide))
      have HD := Lib.hid (v7_drop x (nowAt ts (k + 1)) (by rw [HX.out]; decide))
      have LD := Lib.hid (show ((formL x 7).drop 8).length = 8 by rw [List.length_drop, LF.out])
      have xr := x3.kept hr
      clear hc hrd hel
      by_cases h0 : k = 0
      · subst h0
        clear one
        simp only [Nat.add_zero] at hcr
        go_wp2_with fail
        refine region_plan (fun w' => Below wr.heap.size wr w') [(0, 0), (1, 0), (2, 0), (3, 0), (4, 0), (5, 0), (6, 0), (7, 0), (8, 0), (9, 1), (10, 0), (11, 0), (12, 0), (13, 0), (14, 0), (15, 0), (16, 1), (17, 0), (18, 1), (19, 0), (20, 0)] rfl (by kernel_rfl) (by kernel_rfl) rfl (by intro c a d v w h; cases d <;> exact h) (fun _ _ h => h) ?_
        intro w4 hpW hb4
        clear hpW
        simp only [planOps, List.filterMap_cons, List.filterMap_nil, List.getElem?_cons_succ, List.getElem?_cons_zero, Option.map_some]
        refine plan_still (v := .int .i64 ((0 : Nat) : Int)) rfl (fun w' hS => rfl) ?_
        simp only [Act.put, List.setIfInBounds_toArray, List.set_cons_zero, List.set_cons_succ]
        refine plan_still (v := .bool false) rfl (fun w' hS => rfl) ?_
        simp only [Act.put, List.setIfInBounds_toArray, List.set_cons_zero, List.set_cons_succ]
        refine plan_still (v := .bool false) rfl (fun w' hS => rfl) ?_
        simp only [Act.put, List.setIfInBounds_toArray, List.set_cons_zero, List.set_cons_succ]
        refine plan_skip rfl ?_
        simp only [Act.put, List.setIfInBounds_toArray, List.set_cons_zero, List.set_cons_succ]
        refine plan_skip rfl ?_
        simp only [Act.put, List.setIfInBounds_toArray, List.set_cons_zero, List.set_cons_succ]
        refine plan_skip rfl ?_
        simp only [Act.put, List.setIfInBounds_toArray, List.set_cons_zero, List.set_cons_succ]
        refine plan_skip rfl ?_
        simp only [Act.put, List.setIfInBounds_toArray, List.set_cons_zero, List.set_cons_succ]
        refine plan_skip rfl ?_
        simp only [Act.put, List.setIfInBounds_toArray, List.set_cons_zero, List.set_cons_succ]
        refine plan_skip rfl ?_
        simp only [Act.put, List.setIfInBounds_toArray, List.set_cons_zero, List.set_cons_succ]
        refine plan_do ?_
        go_wp2
        refine ⟨hb4, ?_⟩
        refine plan_skip rfl ?_
        simp only [Act.put, List.setIfInBounds_toArray, List.set_cons_zero, List.set_cons_succ]
        refine plan_still (v := .bool false) rfl (fun w' hS => rfl) ?_
        simp only [Act.put, List.setIfInBounds_toArray, List.set_cons_zero, List.set_cons_succ]
        refine plan_still (v := .bool false) rfl (fun w' hS => rfl) ?_
        simp only [Act.put, List.setIfInBounds_toArray, List.set_cons_zero, List.set_cons_succ]
        refine plan_still (v := .slice (some ⟨gi, 0, none⟩) 16 ci) rfl (fun w' hS => rfl) ?_
        simp only [Act.put, List.setIfInBounds_toArray, List.set_cons_zero, List.set_cons_succ]
        refine plan_still rfl (still_slice_from (k := 8) (b := gi) (off := 0) (n := 16) (c := ci) rfl Try.underlying22 (by kernel_rfl) rfl rfl (by decide) (by omega)) ?_
        simp only [Act.put, List.setIfInBounds_toArray, List.set_cons_zero, List.set_cons_succ]
        refine plan_still (v := .slice ab 16 cb) rfl (fun w' hS => rfl) ?_
        simp only [Act.put, List.setIfInBounds_toArray, List.set_cons_zero, List.set_cons_succ]
        refine plan_do ?_
        go_wp2_with (go_at_call 16; refine (form_ok ab x 16 cb 7 _ (xr.kept hb4) HX.out (by decide) hcb (by decide)).mono ?_; rintro e w6 ⟨af, cf, rfl, rf, hb6, hcf⟩)
        have hb46 := hb4.trans (hb6.mono hb4.size)
        refine ⟨hb46, ?_⟩
        obtain ⟨bf, of_, rfl, -⟩ := rf.2.resolve_left (by intro h; have := LF.out; rw [h] at this; simp at this)
        refine plan_still rfl (still_slice_from (k := 8) (b := bf) (off := of_) (n := 16) (c := cf) rfl Try.underlying22 (by kernel_rfl) rfl rfl (by decide) (by omega)) ?_
        simp only [Act.put, List.setIfInBounds_toArray, List.set_cons_zero, List.set_cons_succ]
        have r1 := (hrr.kept hb46).tail 8 (by rw [LW.out]; decide)
        have r2 := rf.tail 8 (by rw [LF.out]; decide)
        rw [HD.out] at r1
        refine plan_do ?_
        go_wp2_with (go_at_call 15; refine (same_eq r1 r2 LD.out LD.out).mono ?_; rintro e w7 ⟨rfl, n7, rfl⟩)
        have hb47 := below_drewN hb46 n7
        refine ⟨hb47, ?_⟩
        refine plan_still (v := .bool false) rfl (fun w' hS => rfl) ?_
        simp only [Act.put, List.setIfInBounds_toArray, List.set_cons_zero, List.set_cons_succ]
        refine plan_still (v := .bool false) rfl (fun w' hS => rfl) ?_
        simp only [Act.put, List.setIfInBounds_toArray, List.set_cons_zero, List.set_cons_succ]
        refine plan_nil ?_
        have hbE := hr.trans (hb47.mono hr.size)
        go_wp2
        go_roundw
        case rel => exact ⟨0 + 1, by omega, by go_num, hbE⟩
        case measure => simp [intOf]; omega
      · obtain ⟨gp, cp, hcp, hcip, hrp⟩ := one (k - 1) (by omega)
        have hcpr := hr.cell (World.block_lt_of_cell? _ _ hcp)
        rw [hcp] at hcpr
        have hrpr := hrp.kept hr
        have LP := Lib.hid (v7L_length x (nowAt ts (k - 1 + 1)) (by rw [HX.out]; decide))
        have hasc : cmpL (v7L x (nowAt ts (k - 1 + 1))) (v7L x (nowAt ts (k + 1))) = -1 := by
          have e : k - 1 + 1 = k := by omega
          rw [e]
          exact v7_ascend x _ _ (by rw [HX.out]; decide) (nowAt_lt ts k) (by have := nowAt_le ts HTS.out (k + 1); omega)
        have HA := Lib.hid hasc
        clear one hcp hrp hasc
        go_wp2_with fail
        refine region_plan (fun w' => Below wr.heap.size wr w') [(0, 0), (1, 0), (2, 0), (3, 0), (4, 0), (5, 0), (6, 0), (7, 0), (8, 0), (9, 1), (10, 0), (11, 0), (12, 0), (13, 0), (14, 0), (15, 0), (16, 1), (17, 0), (18, 1), (19, 0), (20, 0)] rfl (by kernel_rfl) (by kernel_rfl) rfl (by intro c a d v w h; cases d <;> exact h) (fun _ _ h => h) ?_
        intro w4 hpW hb4
        clear hpW
        simp only [planOps, List.filterMap_cons, List.filterMap_nil, List.getElem?_cons_succ, List.getElem?_cons_zero, Option.map_some]
        refine plan_still (v := .int .i64 (k : Int)) rfl (fun w' hS => rfl) ?_
        simp only [Act.put, List.setIfInBounds_toArray, List.set_cons_zero, List.set_cons_succ]
        refine plan_still (v := .bool (decide ((k : Int) > 0))) rfl (fun w' hS => rfl) ?_
        rw [decide_eq_true (show (k : Int) > 0 by omega)]
        simp only [Act.put, List.setIfInBounds_toArray, List.set_cons_zero, List.set_cons_succ]
        refine plan_still (v := .bool true) rfl (fun w' hS => rfl) ?_
        simp only [Act.put, List.setIfInBounds_toArray, List.set_cons_zero, List.set_cons_succ]
        refine plan_still (v := .slice (some ⟨b, off, none⟩) n lc) rfl (fun w' hS => rfl) ?_
        simp only [Act.put, List.setIfInBounds_toArray, List.set_cons_zero, List.set_cons_succ]
        refine plan_still (v := .int .i64 (k : Int)) rfl (fun w' hS => rfl) ?_
        simp only [Act.put, List.setIfInBounds_toArray, List.set_cons_zero, List.set_cons_succ]
        refine plan_still (v := .int .i64 (((k - 1 : Nat) : Int))) rfl (fun w' hS => by have e : IntKind.i64.wrap ((k : Int) - 1) = ((k - 1 : Nat) : Int) := (by rw [IntKind.wrap_i64]; omega); go_simp) ?_
        simp only [Act.put, List.setIfInBounds_toArray, List.set_cons_zero, List.set_cons_succ]
        refine plan_still (v := .pointer (some ⟨b, off + (k - 1), none⟩)) rfl (fun w' hS => by have h1 : k - 1 < n := (by omega); go_simp) ?_
        simp only [Act.put, List.setIfInBounds_toArray, List.set_cons_zero, List.set_cons_succ]
        refine plan_still rfl (still_load_slice (ad := ⟨b, off + (k - 1), none⟩) rfl rfl (fun w' hS => (hS.cell (World.block_lt_of_cell? _ _ hcpr)).trans hcpr)) ?_
        simp only [Act.put, List.setIfInBounds_toArray, List.set_cons_zero, List.set_cons_succ]
        refine plan_still (v := .slice (some ⟨gi, 0, none⟩) 16 ci) rfl (fun w' hS => rfl) ?_
        simp only [Act.put, List.setIfInBounds_toArray, List.set_cons_zero, List.set_cons_succ]
        refine plan_do ?_
        go_wp2_with (go_at_call 21; refine (compare_at (hrpr.kept hb4) (hrr.kept hb4) LP.out LW.out).mono ?_; rw [HA.out]; rintro e w5 ⟨rfl, n5, rfl⟩)
        have hb45 := below_drewN hb4 n5
        refine ⟨hb45, ?_⟩
        refine plan_still (v := .bool false) rfl (fun w' hS => rfl) ?_
        simp only [Act.put, List.setIfInBounds_toArray, List.set_cons_zero, List.set_cons_succ]
        refine plan_still (v := .bool false) rfl (fun w' hS => rfl) ?_
        simp only [Act.put, List.setIfInBounds_toArray, List.set_cons_zero, List.set_cons_succ]
        refine plan_still (v := .bool false) rfl (fun w' hS => rfl) ?_
        simp only [Act.put, List.setIfInBounds_toArray, List.set_cons_zero, List.set_cons_succ]
        refine plan_still (v := .slice (some ⟨gi, 0, none⟩) 16 ci) rfl (fun w' hS => rfl) ?_
        simp only [Act.put, List.setIfInBounds_toArray, List.set_cons_zero, List.set_cons_succ]
        refine plan_still rfl (still_slice_from (k := 8) (b := gi) (off := 0) (n := 16) (c := ci) rfl Try.underlying22 (by kernel_rfl) rfl rfl (by decide) (by omega)) ?_
        simp only [Act.put, List.setIfInBounds_toArray, List.set_cons_zero, List.set_cons_succ]
        refine plan_still (v := .slice ab 16 cb) rfl (fun w' hS => rfl) ?_
        simp only [Act.put, List.setIfInBounds_toArray, List.set_cons_zero, List.set_cons_succ]
        refine plan_do ?_
        go_wp2_with (go_at_call 16; refine (form_ok ab x 16 cb 7 _ (xr.kept hb45) HX.out (by decide) hcb (by decide)).mono ?_; rintro e w6 ⟨af, cf, rfl, rf, hb6, hcf⟩)
        have hb46 := hb45.trans (hb6.mono hb45.size)
        refine ⟨hb46, ?_⟩
        obtain ⟨bf, of_, rfl, -⟩ := rf.2.resolve_left (by intro h; have := LF.out; rw [h] at this; simp at this)
        refine plan_still rfl (still_slice_from (k := 8) (b := bf) (off := of_) (n := 16) (c := cf) rfl Try.underlying22 (by kernel_rfl) rfl rfl (by decide) (by omega)) ?_
        simp only [Act.put, List.setIfInBounds_toArray, List.set_cons_zero, List.set_cons_succ]
        have r1 := (hrr.kept hb46).tail 8 (by rw [LW.out]; decide)
        have r2 := rf.tail 8 (by rw [LF.out]; decide)
        rw [HD.out] at r1
        refine plan_do ?_
        go_wp2_with (go_at_call 15; refine (same_eq r1 r2 LD.out LD.out).mono ?_; rintro e w7 ⟨rfl, n7, rfl⟩)
        have hb47 := below_drewN hb46 n7
        refine ⟨hb47, ?_⟩
        refine plan_still (v := .bool false) rfl (fun w' hS => rfl) ?_
        simp only [Act.put, List.setIfInBounds_toArray, List.set_cons_zero, List.set_cons_succ]
        refine plan_still (v := .bool false) rfl (fun w' hS => rfl) ?_
        simp only [Act.put, List.setIfInBounds_toArray, List.set_cons_zero, List.set_cons_succ]
        refine plan_nil ?_
        have hbE := hr.trans (hb47.mono hr.size)
        go_wp2
        go_roundw
        case rel => exact ⟨k + 1, by omega, by go_num, hbE⟩
        case measure => simp [intOf]; omega
    · obtain rfl : k = n := by omega
      go_wp2
      go_ret
      exact ⟨rfl, hbw.trans (hr.mono hbw.size)⟩
theorem times_of {zs : List Int} (h : (zs.all timeOk && decide (zs.length ≤ 12)) = true) : ∃ ts : List Nat, zs = ts.map Int.ofNat ∧ (∀ t ∈ ts, t ≤ 4102444800000000000) ∧ zs.length ≤ 12 := by
  rw [Bool.and_eq_true, List.all_eq_true, decide_eq_true_eq] at h
  have h1 : ∀ z ∈ zs, 0 ≤ z ∧ z ≤ 4102444800000000000 := by
    intro z hz
    have := h.1 z hz
    simpa [timeOk] using this
  refine ⟨zs.map Int.toNat, ?_, ?_, h.2⟩
  · rw [List.map_map]
    have : ∀ z ∈ zs, (Int.ofNat ∘ Int.toNat) z = z := by
      intro z hz
      have := h1 z hz
      simp only [Function.comp]
      show ((z.toNat : Nat) : Int) = z
      omega
    rw [List.map_congr_left this, List.map_id']
  · intro t ht
    obtain ⟨z, hz, rfl⟩ := List.mem_map.1 ht
    have := h1 z hz
    omega
set_option maxRecDepth 100000 in
theorem uuidV7_walk (a0 : Option Addr) (x0 : List Int) (c0 : Nat) (a1 : Option Addr) (x1 : List UInt8) (c1 : Nat) (w : World) (h0 : RdI .i64 w a0 x0) (_ : x0.length ≤ c0) (_ : c0 ≤ 9223372036854775807) (h1 : Rd w a1 x1) (hc : x1.length ≤ c1) (hc2 : c1 ≤ 9223372036854775807) :
    Calls Try.prog 6 #[.slice a0 x0.length c0, .slice a1 x1.length c1] w fun e w' => e = .returned (.bool true) ∧ Below w.heap.size w w' := by
  have hb := Below.refl w.heap.size w
  have hl0 := h0.1
  have hl1 := h1.1
  have htm := timely_ok a0 x0 c0 w h0
  by_cases hb0 : 2147483647 < x0.length
  · clear h0 h1 htm
    generalize x0.length = n0 at *
    generalize x1.length = n1 at *
    go_enter Try.func6, Try.ntmps6
    go_wp2
    go_ret
    exact ⟨rfl, hb⟩
  · by_cases hb1 : 2147483647 < x1.length
    · clear h0 h1 htm
      generalize x0.length = n0 at *
      generalize x1.length = n1 at *
      go_enter Try.func6, Try.ntmps6
      go_wp2
      go_ret
      exact ⟨rfl, hb⟩
    · by_cases hB : (x0.all timeOk && decide (x0.length ≤ 12)) = true
      · by_cases hlen : x1.length = 16
        · obtain ⟨ts, hz, hts, h12⟩ := times_of hB
          rw [hlen]
          exact uuidV7_main a0 a1 x0 ts x1 x0.length c0 c1 w h0 rfl hz hts h12 h1 hlen (by omega) hc2 hB
        · rw [hB] at htm
          have hne : ((x1.length : Int) != 16) = true := by rw [bne_iff_ne]; omega
          clear hB h0 h1
          generalize x0.length = n0 at *
          generalize x1.length = n1 at *
          have HT := Lib.hid htm
          clear htm hlen
          go_enter Try.func6, Try.ntmps6
          go_wp2_with (go_at_call 19; refine HT.out.mono ?_; rintro e w1 ⟨rfl, rfl⟩)
          go_ret
          exact ⟨rfl, hb⟩
      · have hF : (x0.all timeOk && decide (x0.length ≤ 12)) = false := by simpa using hB
        rw [hF] at htm
        clear hB hF h0 h1
        generalize x0.length = n0 at *
        generalize x1.length = n1 at *
        have HT := Lib.hid htm
        clear htm
        go_enter Try.func6, Try.ntmps6
        go_wp2_with (go_at_call 19; refine HT.out.mono ?_; rintro e w1 ⟨rfl, rfl⟩)
        go_ret
        exact ⟨rfl, hb⟩
end Go.Proofs.Ytbnkbgbgdolihaa
