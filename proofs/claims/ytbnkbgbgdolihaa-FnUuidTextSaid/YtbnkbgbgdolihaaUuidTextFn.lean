/- Contracts: a UUID's String and URN. -/
import Derived.Test.YtbnkbgbgdolihaaHex
namespace Go.Proofs.Ytbnkbgbgdolihaa
open Go.RowKit
set_option linter.unusedVariables false
theorem utext_length (x : List UInt8) (hx : x.length = 16) : (utext x).length = 36 := by
  unfold utext
  simp only [List.length_append, List.length_cons, hexL_length, List.length_take, List.length_drop, hx]
  rfl
set_option maxRecDepth 100000 in
set_option maxHeartbeats 1600000 in
theorem encodeHex_ok (gd od : Nat) (cs : List Value) (td : TypeId) (x : List UInt8) (w : World) (hd : Blk w gd cs td) (hx : x.length = 16) (hfit : od + 36 ≤ cs.length) :
    Calls Try.prog 48 #[.slice (some ⟨gd, od, none⟩) 36 36, .agg (bvs x).toArray] w fun e w' => e = .returned (.tuple #[]) ∧ Blk w' gd (splice cs od (bvs (utext x))) td ∧ w.grownBy w' (some gd) := by
  have hb := Below.refl w.heap.size w
  have L := Lib.hid hx
  obtain ⟨y0, hy0⟩ : ∃ y, (x.drop 0).take 4 = y := ⟨_, rfl⟩
  have M0 : Hid (y0.length = 4) := Lib.hid (by rw [← hy0, List.length_take, List.length_drop, hx]; rfl)
  have K0 : Hid ((bvs (hexL y0)).length = 8) := Lib.hid (by rw [bvs_length, hexL_length, M0.out])
  obtain ⟨y1, hy1⟩ : ∃ y, (x.drop 4).take 2 = y := ⟨_, rfl⟩
  have M1 : Hid (y1.length = 2) := Lib.hid (by rw [← hy1, List.length_take, List.length_drop, hx]; rfl)
  have K1 : Hid ((bvs (hexL y1)).length = 4) := Lib.hid (by rw [bvs_length, hexL_length, M1.out])
  obtain ⟨y2, hy2⟩ : ∃ y, (x.drop 6).take 2 = y := ⟨_, rfl⟩
  have M2 : Hid (y2.length = 2) := Lib.hid (by rw [← hy2, List.length_take, List.length_drop, hx]; rfl)
  have K2 : Hid ((bvs (hexL y2)).length = 4) := Lib.hid (by rw [bvs_length, hexL_length, M2.out])
  obtain ⟨y3, hy3⟩ : ∃ y, (x.drop 8).take 2 = y := ⟨_, rfl⟩
  have M3 : Hid (y3.length = 2) := Lib.hid (by rw [← hy3, List.length_take, List.length_drop, hx]; rfl)
  have K3 : Hid ((bvs (hexL y3)).length = 4) := Lib.hid (by rw [bvs_length, hexL_length, M3.out])
  obtain ⟨y4, hy4⟩ : ∃ y, (x.drop 10).take 6 = y := ⟨_, rfl⟩
  have M4 : Hid (y4.length = 6) := Lib.hid (by rw [← hy4, List.length_take, List.length_drop, hx]; rfl)
  have K4 : Hid ((bvs (hexL y4)).length = 12) := Lib.hid (by rw [bvs_length, hexL_length, M4.out])
  have HU : Hid (bvs (utext x) = bvs (hexL y0) ++ [.int .u8 45] ++ bvs (hexL y1) ++ [.int .u8 45] ++ bvs (hexL y2) ++ [.int .u8 45] ++ bvs (hexL y3) ++ [.int .u8 45] ++ bvs (hexL y4)) := Lib.hid (by
    have e4 : x.drop 10 = y4 := by rw [← hy4, List.take_of_length_le]; rw [List.length_drop, hx]; decide
    have e0 : x.take 4 = y0 := by rw [← hy0, List.drop_zero]
    rw [utext, e0, hy1, hy2, hy3, e4]
    simp only [bvs, List.map_append, List.map_cons, List.append_assoc, List.cons_append, List.nil_append]
    rfl)
  clear hx
  have hq := hd.lt
  go_enter Try.func48, Try.ntmps48
  go_wp2_with (refine wp_box_blk uuArr hb rfl rfl rfl rfl (Nat.le_refl _) ?_)
  intro w1 b1 g1 s1 hb1
  clear s1
  have d1 := hd.kept hb1
  have G1 := grown_none g1 (some gd)
  have hq1 : w.heap.size ≠ gd := by omega
  have r2 : Rd w1 (some ⟨w.heap.size, 0, none⟩) y0 := by have := (b1.rd (by rw [L.out]; decide)).take 4; rwa [show x.take 4 = y0 by rw [← hy0, List.drop_zero]] at this
  go_wp2_with (go_at_call 60; refine (hexEncode_ok gd od 36 _ 4 _ _ td _ y0 _ d1 r2 M0.out (by rintro p ⟨⟩; exact hq1) (by decide) (by decide) ?_).mono ?_)
  · have := hfit; first | omega | (rw [LS1.out]; omega)
  rintro e w2 ⟨rfl, d2, g2⟩
  obtain ⟨l2, hl2⟩ : ∃ l, bvs (hexL y0) = l := ⟨_, rfl⟩
  rw [hl2] at d2
  have C2 : Hid (l2.length = 8) := Lib.hid (by rw [← hl2, K0.out])
  have LS2 : Hid ((splice cs od l2).length = cs.length) := Lib.hid (length_splice _ _ _ (by rw [C2.out]; omega))
  have b2 := b1.grown g2 (by intro e; exact hq1 (Option.some.inj e))
  have G2 := grown_trans G1 g2
  go_wp2_with (refine wp_store_cell (i := od + 8) rfl rfl (by kernel_rfl) rfl rfl rfl d2 (by rw [LS2.out]; omega) ?_)
  intro w3 d3 g3 s3
  clear s3
  rw [splice_put _ _ od (od + 8) _ (by rw [C2.out]) (by omega)] at d3
  obtain ⟨l3, hl3⟩ : ∃ l, l2 ++ [Value.int .u8 45] = l := ⟨_, rfl⟩
  rw [hl3] at d3
  have C3 : Hid (l3.length = 9) := Lib.hid (by rw [← hl3, List.length_append, C2.out]; rfl)
  have LS3 : Hid ((splice cs od l3).length = cs.length) := Lib.hid (length_splice _ _ _ (by rw [C3.out]; omega))
  have b3 := b2.grown g3 (by intro e; exact hq1 (Option.some.inj e))
  have G3 := grown_trans G2 g3
  go_wp2_with fail
  refine region_plan (fun w' => Below w3.heap.size w3 w') [(0, 0), (1, 0), (2, 0), (3, 2)] rfl (by kernel_rfl) (by kernel_rfl) rfl (by intro c a d v w h; cases d <;> exact h) (fun _ _ h => h) ?_
  intro w3p hpW hbp3
  clear hpW
  simp only [planOps, List.filterMap_cons, List.filterMap_nil, List.getElem?_cons_succ, List.getElem?_cons_zero, Option.map_some]
  have d3p := d3.kept hbp3
  have b3p := b3.kept hbp3
  have G3p := grown_then G3 hbp3
  repeat (first | (refine plan_still rfl (still_slice_ij (i := 9) (j := 13) rfl Try.underlying22 (by kernel_rfl) rfl rfl rfl (by decide) (by decide) (by decide)) ?_) | (refine plan_skip rfl ?_) | (refine plan_still (v := ?_) rfl (fun w' hS => ?_) ?_; rotate_left; (focus (go_simp; first | done | with_reducible rfl))); simp only [Act.put, List.setIfInBounds_toArray, List.set_cons_zero, List.set_cons_succ])
  refine plan_last ?_
  have r4 : Rd w3p (some ⟨w.heap.size, 4, none⟩) y1 := by have := (b3p.rd (by rw [L.out]; decide)).part 4 2 (by rw [L.out]; decide) (by decide); rw [Option.map_some, Addr.add_mid, hy1, Nat.zero_add] at this; exact this
  go_wp2_with (go_at_call 60; refine (hexEncode_ok gd (od + 9) 4 _ 2 _ _ td _ y1 _ d3p r4 M1.out (by rintro p ⟨⟩; exact hq1) (by decide) (by decide) ?_).mono ?_)
  · have := hfit; first | omega | (rw [LS3.out]; omega)
  rintro e w4 ⟨rfl, d4, g4⟩
  rw [splice_next _ _ _ od (od + 9) (by rw [C3.out]) (by rw [K1.out]; omega)] at d4
  obtain ⟨l4, hl4⟩ : ∃ l, l3 ++ bvs (hexL y1) = l := ⟨_, rfl⟩
  rw [hl4] at d4
  have C4 : Hid (l4.length = 13) := Lib.hid (by rw [← hl4, List.length_append, C3.out, K1.out])
  have LS4 : Hid ((splice cs od l4).length = cs.length) := Lib.hid (length_splice _ _ _ (by rw [C4.out]; omega))
  have b4 := b3p.grown g4 (by intro e; exact hq1 (Option.some.inj e))
  have G4 := grown_trans G3p g4
  go_wp2
  refine plan_nil ?_
  go_wp2_with (refine wp_store_cell (i := od + 13) rfl rfl (by kernel_rfl) rfl rfl rfl d4 (by rw [LS4.out]; omega) ?_)
  intro w5 d5 g5 s5
  clear s5
  rw [splice_put _ _ od (od + 13) _ (by rw [C4.out]) (by omega)] at d5
  obtain ⟨l5, hl5⟩ : ∃ l, l4 ++ [Value.int .u8 45] = l := ⟨_, rfl⟩
  rw [hl5] at d5
  have C5 : Hid (l5.length = 14) := Lib.hid (by rw [← hl5, List.length_append, C4.out]; rfl)
  have LS5 : Hid ((splice cs od l5).length = cs.length) := Lib.hid (length_splice _ _ _ (by rw [C5.out]; omega))
  have b5 := b4.grown g5 (by intro e; exact hq1 (Option.some.inj e))
  have G5 := grown_trans G4 g5
  go_wp2_with fail
  refine region_plan (fun w' => Below w5.heap.size w5 w') [(0, 0), (1, 0), (2, 0), (3, 2)] rfl (by kernel_rfl) (by kernel_rfl) rfl (by intro c a d v w h; cases d <;> exact h) (fun _ _ h => h) ?_
  intro w5p hpW hbp5
  clear hpW
  simp only [planOps, List.filterMap_cons, List.filterMap_nil, List.getElem?_cons_succ, List.getElem?_cons_zero, Option.map_some]
  have d5p := d5.kept hbp5
  have b5p := b5.kept hbp5
  have G5p := grown_then G5 hbp5
  repeat (first | (refine plan_still rfl (still_slice_ij (i := 14) (j := 18) rfl Try.underlying22 (by kernel_rfl) rfl rfl rfl (by decide) (by decide) (by decide)) ?_) | (refine plan_skip rfl ?_) | (refine plan_still (v := ?_) rfl (fun w' hS => ?_) ?_; rotate_left; (focus (go_simp; first | done | with_reducible rfl))); simp only [Act.put, List.setIfInBounds_toArray, List.set_cons_zero, List.set_cons_succ])
  refine plan_last ?_
  have r6 : Rd w5p (some ⟨w.heap.size, 6, none⟩) y2 := by have := (b5p.rd (by rw [L.out]; decide)).part 6 2 (by rw [L.out]; decide) (by decide); rw [Option.map_some, Addr.add_mid, hy2, Nat.zero_add] at this; exact this
  go_wp2_with (go_at_call 60; refine (hexEncode_ok gd (od + 14) 4 _ 2 _ _ td _ y2 _ d5p r6 M2.out (by rintro p ⟨⟩; exact hq1) (by decide) (by decide) ?_).mono ?_)
  · have := hfit; first | omega | (rw [LS5.out]; omega)
  rintro e w6 ⟨rfl, d6, g6⟩
  rw [splice_next _ _ _ od (od + 14) (by rw [C5.out]) (by rw [K2.out]; omega)] at d6
  obtain ⟨l6, hl6⟩ : ∃ l, l5 ++ bvs (hexL y2) = l := ⟨_, rfl⟩
  rw [hl6] at d6
  have C6 : Hid (l6.length = 18) := Lib.hid (by rw [← hl6, List.length_append, C5.out, K2.out])
  have LS6 : Hid ((splice cs od l6).length = cs.length) := Lib.hid (length_splice _ _ _ (by rw [C6.out]; omega))
  have b6 := b5p.grown g6 (by intro e; exact hq1 (Option.some.inj e))
  have G6 := grown_trans G5p g6
  go_wp2
  refine plan_nil ?_
  go_wp2_with (refine wp_store_cell (i := od + 18) rfl rfl (by kernel_rfl) rfl rfl rfl d6 (by rw [LS6.out]; omega) ?_)
  intro w7 d7 g7 s7
  clear s7
  rw [splice_put _ _ od (od + 18) _ (by rw [C6.out]) (by omega)] at d7
  obtain ⟨l7, hl7⟩ : ∃ l, l6 ++ [Value.int .u8 45] = l := ⟨_, rfl⟩
  rw [hl7] at d7
  have C7 : Hid (l7.length = 19) := Lib.hid (by rw [← hl7, List.length_append, C6.out]; rfl)
  have LS7 : Hid ((splice cs od l7).length = cs.length) := Lib.hid (length_splice _ _ _ (by rw [C7.out]; omega))
  have b7 := b6.grown g7 (by intro e; exact hq1 (Option.some.inj e))
  have G7 := grown_trans G6 g7
  go_wp2_with fail
  refine region_plan (fun w' => Below w7.heap.size w7 w') [(0, 0), (1, 0), (2, 0), (3, 2)] rfl (by kernel_rfl) (by kernel_rfl) rfl (by intro c a d v w h; cases d <;> exact h) (fun _ _ h => h) ?_
  intro w7p hpW hbp7
  clear hpW
  simp only [planOps, List.filterMap_cons, List.filterMap_nil, List.getElem?_cons_succ, List.getElem?_cons_zero, Option.map_some]
  have d7p := d7.kept hbp7
  have b7p := b7.kept hbp7
  have G7p := grown_then G7 hbp7
  repeat (first | (refine plan_still rfl (still_slice_ij (i := 19) (j := 23) rfl Try.underlying22 (by kernel_rfl) rfl rfl rfl (by decide) (by decide) (by decide)) ?_) | (refine plan_skip rfl ?_) | (refine plan_still (v := ?_) rfl (fun w' hS => ?_) ?_; rotate_left; (focus (go_simp; first | done | with_reducible rfl))); simp only [Act.put, List.setIfInBounds_toArray, List.set_cons_zero, List.set_cons_succ])
  refine plan_last ?_
  have r8 : Rd w7p (some ⟨w.heap.size, 8, none⟩) y3 := by have := (b7p.rd (by rw [L.out]; decide)).part 8 2 (by rw [L.out]; decide) (by decide); rw [Option.map_some, Addr.add_mid, hy3, Nat.zero_add] at this; exact this
  go_wp2_with (go_at_call 60; refine (hexEncode_ok gd (od + 19) 4 _ 2 _ _ td _ y3 _ d7p r8 M3.out (by rintro p ⟨⟩; exact hq1) (by decide) (by decide) ?_).mono ?_)
  · have := hfit; first | omega | (rw [LS7.out]; omega)
  rintro e w8 ⟨rfl, d8, g8⟩
  rw [splice_next _ _ _ od (od + 19) (by rw [C7.out]) (by rw [K3.out]; omega)] at d8
  obtain ⟨l8, hl8⟩ : ∃ l, l7 ++ bvs (hexL y3) = l := ⟨_, rfl⟩
  rw [hl8] at d8
  have C8 : Hid (l8.length = 23) := Lib.hid (by rw [← hl8, List.length_append, C7.out, K3.out])
  have LS8 : Hid ((splice cs od l8).length = cs.length) := Lib.hid (length_splice _ _ _ (by rw [C8.out]; omega))
  have b8 := b7p.grown g8 (by intro e; exact hq1 (Option.some.inj e))
  have G8 := grown_trans G7p g8
  go_wp2
  refine plan_nil ?_
  go_wp2_with (refine wp_store_cell (i := od + 23) rfl rfl (by kernel_rfl) rfl rfl rfl d8 (by rw [LS8.out]; omega) ?_)
  intro w9 d9 g9 s9
  clear s9
  rw [splice_put _ _ od (od + 23) _ (by rw [C8.out]) (by omega)] at d9
  obtain ⟨l9, hl9⟩ : ∃ l, l8 ++ [Value.int .u8 45] = l := ⟨_, rfl⟩
  rw [hl9] at d9
  have C9 : Hid (l9.length = 24) := Lib.hid (by rw [← hl9, List.length_append, C8.out]; rfl)
  have LS9 : Hid ((splice cs od l9).length = cs.length) := Lib.hid (length_splice _ _ _ (by rw [C9.out]; omega))
  have b9 := b8.grown g9 (by intro e; exact hq1 (Option.some.inj e))
  have G9 := grown_trans G8 g9
  go_wp2_with fail
  refine region_plan (fun w' => Below w9.heap.size w9 w') [(0, 0), (1, 0), (2, 0), (3, 2)] rfl (by kernel_rfl) (by kernel_rfl) rfl (by intro c a d v w h; cases d <;> exact h) (fun _ _ h => h) ?_
  intro w9p hpW hbp9
  clear hpW
  simp only [planOps, List.filterMap_cons, List.filterMap_nil, List.getElem?_cons_succ, List.getElem?_cons_zero, Option.map_some]
  have d9p := d9.kept hbp9
  have b9p := b9.kept hbp9
  have G9p := grown_then G9 hbp9
  repeat (first | (refine plan_still rfl (still_slice_from (k := 24) rfl Try.underlying22 (by kernel_rfl) rfl rfl (by decide) (by decide)) ?_) | (refine plan_skip rfl ?_) | (refine plan_still (v := ?_) rfl (fun w' hS => ?_) ?_; rotate_left; (focus (go_simp; first | done | with_reducible rfl))); simp only [Act.put, List.setIfInBounds_toArray, List.set_cons_zero, List.set_cons_succ])
  refine plan_last ?_
  have r10 : Rd w9p (some ⟨w.heap.size, 10, none⟩) y4 := by have := (b9p.rd (by rw [L.out]; decide)).part 10 6 (by rw [L.out]; decide) (by decide); rw [Option.map_some, Addr.add_mid, hy4, Nat.zero_add] at this; exact this
  go_wp2_with (go_at_call 60; refine (hexEncode_ok gd (od + 24) 12 _ 6 _ _ td _ y4 _ d9p r10 M4.out (by rintro p ⟨⟩; exact hq1) (by decide) (by decide) ?_).mono ?_)
  · have := hfit; first | omega | (rw [LS9.out]; omega)
  rintro e w10 ⟨rfl, d10, g10⟩
  rw [splice_next _ _ _ od (od + 24) (by rw [C9.out]) (by rw [K4.out]; omega)] at d10
  obtain ⟨l10, hl10⟩ : ∃ l, l9 ++ bvs (hexL y4) = l := ⟨_, rfl⟩
  rw [hl10] at d10
  have C10 : Hid (l10.length = 36) := Lib.hid (by rw [← hl10, List.length_append, C9.out, K4.out])
  have LS10 : Hid ((splice cs od l10).length = cs.length) := Lib.hid (length_splice _ _ _ (by rw [C10.out]; omega))
  have b10 := b9p.grown g10 (by intro e; exact hq1 (Option.some.inj e))
  have G10 := grown_trans G9p g10
  go_wp2
  refine plan_nil ?_
  have hfin : bvs (utext x) = l10 := by rw [HU.out, ← hl10, ← hl9, ← hl8, ← hl7, ← hl6, ← hl5, ← hl4, ← hl3, ← hl2]
  rw [← hfin] at d10
  go_wp2
  go_end0
  exact ⟨rfl, d10, G10⟩
end Go.Proofs.Ytbnkbgbgdolihaa
