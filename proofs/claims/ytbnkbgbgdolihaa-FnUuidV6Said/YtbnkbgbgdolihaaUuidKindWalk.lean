/- The law FnUuidKind returns true, and turns nothing that was there. -/
import Derived.Test.YtbnkbgbgdolihaaUuid
namespace Go.Proofs.Ytbnkbgbgdolihaa
open Go.RowKit

set_option maxRecDepth 100000 in
theorem version_ok (x : List UInt8) (w : World) (hx : x.length = 16) :
    Calls Try.prog 27 #[.agg (bvs x).toArray] w fun e w' => e = .returned (.int .u8 ((B x 6 / 16 : Nat) : Int)) ∧ Below w.heap.size w w' := by
  have hb := Below.refl w.heap.size w
  go_enter Try.func27, Try.ntmps27
  go_wp2_with (refine wp_box_blk uuArr hb rfl rfl rfl rfl (Nat.le_refl _) ?_)
  intro w1 b1 g1 s1 hb1
  clear s1
  have c6 := b1.cell 6
  rw [bvs_get _ _ (by omega)] at c6
  clear hx
  go_wp2
  go_ret
  exact ⟨by simp, hb1⟩

/-- The variant of a byte. -/
def variantN (p : Nat) : Nat := if p / 64 = 2 then 1 else if p / 128 = 0 then 2 else if p / 32 = 6 then 3 else 4
theorem and8_192 : ∀ p : Nat, p < 256 → bits .and .u8 (p : Int) 192 = ((p / 64 * 64 : Nat) : Int) := by decide +kernel
theorem and8_224 : ∀ p : Nat, p < 256 → bits .and .u8 (p : Int) 224 = ((p / 32 * 32 : Nat) : Int) := by decide +kernel

set_option maxRecDepth 100000 in
theorem variant_ok (x : List UInt8) (w : World) (hx : x.length = 16) :
    Calls Try.prog 28 #[.agg (bvs x).toArray] w fun e w' => e = .returned (.int .u8 (variantN (B x 8))) ∧ Below w.heap.size w w' := by
  have hb := Below.refl w.heap.size w
  have l8 := B_lt x 8
  have V : Hid (variantN (B x 8) = if B x 8 / 64 = 2 then 1 else if B x 8 / 128 = 0 then 2 else if B x 8 / 32 = 6 then 3 else 4) := rfl
  have A1 := and8_192 _ l8
  have A2 := and8_224 _ l8
  have hcell : ∀ (w' : World) (g : Nat) (t : TypeId), Blk w' g (bvs x) t → w'.cell? ⟨g, 8, none⟩ = some (.int .u8 (B x 8)) := by
    intro w' g t h
    rw [h.cell, bvs_get _ _ (by omega)]
  have HC := Lib.hid hcell
  clear hx hcell
  generalize B x 8 = p at *
  obtain ⟨q1, hq1⟩ : ∃ q, p / 64 * 64 = q := ⟨_, rfl⟩
  obtain ⟨q2, hq2⟩ : ∃ q, p / 32 * 32 = q := ⟨_, rfl⟩
  rw [hq1] at A1
  rw [hq2] at A2
  have HQ1 := Lib.hid hq1
  have HQ2 := Lib.hid hq2
  clear hq1 hq2
  by_cases h1 : q1 = 128
  · have e1 : ((q1 : Int) == 128) = true := by simp [h1]
    have hv : variantN p = 1 := by have := HQ1.out; rw [V.out, if_pos (by omega)]
    go_enter Try.func28, Try.ntmps28
    go_wp2_with (refine wp_box_blk uuArr hb rfl rfl rfl rfl (Nat.le_refl _) ?_)
    intro w1 b1 g1 s1 hb1
    clear s1
    have c8 := HC.out _ _ _ b1
    go_wp2
    go_ret
    exact ⟨by simp [hv], hb1⟩
  · have e1 : ((q1 : Int) == 128) = false := by simp; omega
    by_cases h2 : q2 = 192
    · have e2 : ((q2 : Int) == 192) = true := by simp [h2]
      have hv : variantN p = 3 := by have := HQ1.out; have := HQ2.out; rw [V.out, if_neg (by omega), if_neg (by omega), if_pos (by omega)]
      go_enter Try.func28, Try.ntmps28
      go_wp2_with (refine wp_box_blk uuArr hb rfl rfl rfl rfl (Nat.le_refl _) ?_)
      intro w1 b1 g1 s1 hb1
      clear s1
      have c8 := HC.out _ _ _ b1
      go_wp2
      go_ret
      exact ⟨by simp [hv], hb1⟩
    · have e2 : ((q2 : Int) == 192) = false := by simp; omega
      by_cases h3 : q2 = 224
      · have e3 : ((q2 : Int) == 224) = true := by simp [h3]
        have hv : variantN p = 4 := by have := HQ1.out; have := HQ2.out; rw [V.out, if_neg (by omega), if_neg (by omega), if_neg (by omega)]
        go_enter Try.func28, Try.ntmps28
        go_wp2_with (refine wp_box_blk uuArr hb rfl rfl rfl rfl (Nat.le_refl _) ?_)
        intro w1 b1 g1 s1 hb1
        clear s1
        have c8 := HC.out _ _ _ b1
        go_wp2
        go_ret
        exact ⟨by simp [hv], hb1⟩
      · have e3 : ((q2 : Int) == 224) = false := by simp; omega
        have hv : variantN p = 2 := by have := HQ1.out; have := HQ2.out; rw [V.out, if_neg (by omega), if_pos (by omega)]
        go_enter Try.func28, Try.ntmps28
        go_wp2_with (refine wp_box_blk uuArr hb rfl rfl rfl rfl (Nat.le_refl _) ?_)
        intro w1 b1 g1 s1 hb1
        clear s1
        have c8 := HC.out _ _ _ b1
        go_wp2
        go_ret
        exact ⟨by simp [hv], hb1⟩

set_option maxRecDepth 100000 in
theorem uuidKind_ok (a1 : Option Addr) (x : List UInt8) (c1 : Nat) (w : World) (h1 : Rd w a1 x) (hx : x.length = 16) :
    Calls Try.prog 11 #[.slice a1 16 c1] w fun e w' => e = .returned (.tuple #[.int .i64 ((B x 6 / 16 : Nat) : Int), .int .i64 (variantN (B x 8)), .bool true]) ∧ Below w.heap.size w w' := by
  have L := Lib.hid hx
  have L16 := Lib.hid (show (bvs x).length = 16 by rw [bvs_length, hx])
  have l6 := B_lt x 6
  have lv : variantN (B x 8) ≤ 4 := by unfold variantN; split <;> (try split) <;> (try split) <;> omega
  clear hx
  go_enter Try.func11, Try.ntmps11
  go_wp2_with (go_at_call 26; refine (uuFromBytes_ok a1 x c1 _ h1 L.out).mono ?_)
  rintro e w2 ⟨rfl, hb2⟩
  go_wp2_with (refine wp_alloc_blk uuArr hb2 rfl rfl rfl hb2.size ?_)
  intro w3 b3 g3 s3 hb3
  clear s3
  go_wp2_with (refine wp_store_blk uuArr hb3 rfl rfl rfl rfl b3 hb2.size rfl L16.out (bvs_one _) ?_)
  intro w4 b4 g4 s4 hb4
  clear s4
  go_wp2_with fail
  refine region_plan (fun w' => Below w4.heap.size w4 w') [(0, 0), (3, 0), (1, 1), (2, 0), (4, 1), (5, 0), (6, 0), (7, 0), (8, 0)] rfl (by kernel_rfl) (by kernel_rfl) rfl (by intro c a d v w h; cases d <;> exact h) (fun _ _ h => h) ?_
  intro w5 hpW hb5
  clear hpW
  simp only [planOps, List.filterMap_cons, List.filterMap_nil, List.getElem?_cons_succ, List.getElem?_cons_zero, Option.map_some]
  repeat (first | (refine plan_still rfl (still_blk uuArr rfl rfl (fun w' hS => b4.kept hS) L16.out) ?_) | (refine plan_skip rfl ?_) | (refine plan_still (v := ?_) rfl (fun w' hS => ?_) ?_; rotate_left; (focus (go_simp; first | done | with_reducible rfl))); simp only [Act.put, List.setIfInBounds_toArray, List.set_cons_zero, List.set_cons_succ])
  refine plan_do ?_
  go_wp2_with (go_at_call 27; refine (version_ok x _ L.out).mono ?_)
  rintro e w6 ⟨rfl, hb6⟩
  have hb46 := hb5.trans (hb6.mono hb5.size)
  go_wp2
  refine ⟨hb46, ?_⟩
  repeat (first | (refine plan_still rfl (still_blk uuArr rfl rfl (fun w' hS => b4.kept hS) L16.out) ?_) | (refine plan_skip rfl ?_) | (refine plan_still (v := ?_) rfl (fun w' hS => ?_) ?_; rotate_left; (focus (go_simp; first | done | with_reducible rfl))); simp only [Act.put, List.setIfInBounds_toArray, List.set_cons_zero, List.set_cons_succ])
  refine plan_do ?_
  go_wp2_with (go_at_call 28; refine (variant_ok x _ L.out).mono ?_)
  rintro e w7 ⟨rfl, hb7⟩
  have hb47 := hb46.trans (hb7.mono hb46.size)
  go_wp2
  refine ⟨hb47, ?_⟩
  repeat (first | (refine plan_skip rfl ?_) | (refine plan_still (v := ?_) rfl (fun w' hS => ?_) ?_; rotate_left; (focus (go_simp; first | done | with_reducible rfl))); simp only [Act.put, List.setIfInBounds_toArray, List.set_cons_zero, List.set_cons_succ])
  refine plan_nil ?_
  go_wp2
  exact ret_tmp3 rfl rfl rfl rfl rfl ⟨by simp; exact ⟨by rw [IntKind.wrap_i64]; omega, by rw [IntKind.wrap_i64]; omega⟩, hb4.trans (hb47.mono hb4.size)⟩
set_option maxRecDepth 100000 in
theorem uuidKind_bad (a1 : Option Addr) (n c1 : Nat) (w : World) (hne : ((n : Int) != 16) = true) :
    Calls Try.prog 11 #[.slice a1 n c1] w fun e w' => e = .returned (.tuple #[.int .i64 0, .int .i64 0, .bool false]) ∧ Below w.heap.size w w' := by
  go_enter Try.func11, Try.ntmps11
  go_wp2_with (go_at_call 26; refine (uuFromBytes_bad a1 n c1 _ hne).mono ?_)
  rintro e w2 ⟨rfl, hb2⟩
  go_wp2_with (refine wp_alloc_blk uuArr hb2 rfl rfl rfl hb2.size ?_)
  intro w3 b3 g3 s3 hb3
  clear s3
  go_wp2_with (refine wp_store_blk uuArr hb3 rfl rfl rfl (cs := Z16) rfl b3 hb2.size rfl rfl (by decide) ?_)
  intro w4 b4 g4 s4 hb4
  clear s4
  go_wp2
  exact ret_tmp3 rfl rfl rfl rfl rfl ⟨rfl, hb4⟩

theorem specVariant_ok (a1 : Option Addr) (x : List UInt8) (n c1 : Nat) (w : World) (h1 : Rd w a1 x) (hx : x.length = n) (hn : 9 ≤ n) :
    Calls Try.prog 13 #[.slice a1 n c1] w fun e w' => e = .returned (.int .i64 (variantN (B x 8))) ∧ w = w' := by
  have V : Hid (variantN (B x 8) = if B x 8 / 64 = 2 then 1 else if B x 8 / 128 = 0 then 2 else if B x 8 / 32 = 6 then 3 else 4) := rfl
  obtain ⟨b, off, rfl, hc⟩ := h1.2.resolve_left (by intro h; simp [h] at hx; omega)
  have c8 := hc 8 (by omega)
  have l8 := B_lt x 8
  clear hc h1 hx
  generalize B x 8 = p at *
  by_cases h1 : p / 64 = 2
  · have hv : variantN p = 1 := by rw [V.out, if_pos h1]
    have e1 : ((p : Int) / 64 == 2) = true := by rw [beq_iff_eq]; omega
    clear h1
    go_enter Try.func13, Try.ntmps13
    go_wp2
    go_ret
    exact ⟨by simp [hv], rfl⟩
  · have e1 : ((p : Int) / 64 == 2) = false := by rw [beq_eq_false_iff_ne]; omega
    by_cases h2 : p / 128 = 0
    · have hv : variantN p = 2 := by rw [V.out, if_neg h1, if_pos h2]
      have e2 : ((p : Int) / 128 == 0) = true := by rw [beq_iff_eq]; omega
      clear h1 h2
      go_enter Try.func13, Try.ntmps13
      go_wp2
      go_ret
      exact ⟨by simp [hv], rfl⟩
    · have e2 : ((p : Int) / 128 == 0) = false := by rw [beq_eq_false_iff_ne]; omega
      by_cases h3 : p / 32 = 6
      · have hv : variantN p = 3 := by rw [V.out, if_neg h1, if_neg h2, if_pos h3]
        have e3 : ((p : Int) / 32 == 6) = true := by rw [beq_iff_eq]; omega
        clear h1 h2 h3
        go_enter Try.func13, Try.ntmps13
        go_wp2
        go_ret
        exact ⟨by simp [hv], rfl⟩
      · have hv : variantN p = 4 := by rw [V.out, if_neg h1, if_neg h2, if_neg h3]
        have e3 : ((p : Int) / 32 == 6) = false := by rw [beq_eq_false_iff_ne]; omega
        clear h1 h2 h3
        go_enter Try.func13, Try.ntmps13
        go_wp2
        go_ret
        exact ⟨by simp [hv], rfl⟩

set_option maxRecDepth 100000 in
theorem uuidKind_walk (a0 : Option Addr) (x0 : List UInt8) (c0 : Nat) (w : World) (h0 : Rd w a0 x0) (_ : x0.length ≤ c0) (_ : c0 ≤ 9223372036854775807) :
    Calls Try.prog 3 #[.slice a0 x0.length c0] w fun e w' => e = .returned (.bool true) ∧ Below w.heap.size w w' := by
  have hb := Below.refl w.heap.size w
  have hl := h0.1
  by_cases hlen : x0.length = 16
  · have L := Lib.hid hlen
    have l6 := B_lt x0 6
    rw [hlen]
    clear hlen hl
    go_enter Try.func3, Try.ntmps3
    go_wp2_with (go_at_call 11; refine (uuidKind_ok a0 x0 c0 _ h0 L.out).mono ?_)
    rintro e w2 ⟨rfl, hb2⟩
    have r2 := h0.kept hb2
    obtain ⟨b, off, rfl, hc⟩ := r2.2.resolve_left (by intro h; have := L.out; simp [h] at this)
    have c6 := hc 6 (by rw [L.out]; decide)
    clear hc
    go_wp2_with (go_at_call 13; refine (specVariant_ok _ x0 16 c0 _ r2 L.out (by decide)).mono ?_)
    rintro e w3 ⟨rfl, rfl⟩
    go_wp2
    go_ret
    exact ⟨rfl, hb2⟩
  · have hne : ((x0.length : Int) != 16) = true := by rw [bne_iff_ne]; omega
    by_cases hbig : 2147483647 < x0.length
    · go_enter Try.func3, Try.ntmps3
      go_wp2
      go_ret
      exact ⟨rfl, hb⟩
    · go_enter Try.func3, Try.ntmps3
      go_wp2_with (go_at_call 11; refine (uuidKind_bad a0 x0.length c0 _ hne).mono ?_)
      rintro e w2 ⟨rfl, hb2⟩
      go_wp2_with (go_at_call 12; refine (known_ok _).mono ?_)
      rintro e w3 ⟨rfl, hb3⟩
      go_wp2
      go_ret
      exact ⟨rfl, hb2.trans (hb3.mono hb2.size)⟩
end Go.Proofs.Ytbnkbgbgdolihaa
