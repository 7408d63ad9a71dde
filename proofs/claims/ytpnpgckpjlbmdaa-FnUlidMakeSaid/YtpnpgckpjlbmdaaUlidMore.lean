/- Contracts of package ulid, and the thin package's: order and text. -/
import Derived.Test.YtpnpgckpjlbmdaaUlid
namespace Go.Proofs.Ytpnpgckpjlbmdaa
open Go.RowKit
theorem below_drewN {B : Nat} {w w' : World} (h : Below B w w') (n : Nat) : Below B w (w'.drewN n) := ⟨h.os, h.tape, h.output, h.size, h.block⟩

set_option maxRecDepth 100000 in
theorem ustring_ok (x : List UInt8) (w : World) (hx : x.length = 16) :
    Calls Try.prog 24 #[.agg (bvs x).toArray] w fun e w' => e = .returned (str (writ d32 26 (num x))) ∧ Below w.heap.size w w' := by
  have hb := Below.refl w.heap.size w
  have L := Lib.hid hx
  have L16 := Lib.hid (show (bvs x).length = 16 by rw [bvs_length, hx])
  clear hx
  go_enter Try.func24, Try.ntmps24
  go_wp2_with (refine wp_box_blk ulArr hb rfl rfl rfl rfl (Nat.le_refl _) ?_)
  intro w1 b1 g1 s1 hb1
  clear s1
  go_wp2_with (at_make; refine wp_make_zero rfl rfl Try.underlying22 info5 rfl (n := 26) rfl rfl (by decide) (by decide) ?_)
  intro w3 b3 g3 s3
  clear s3
  have hb3 := hb1.trans ((below_grown g3).mono hb1.size)
  have b1' := b1.grown g3 (by simp)
  have hle : w.heap.size ≤ w1.heap.size := hb1.size
  generalize w1.heap.size = g at *
  go_wp2_with (first | (refine wp_load_blk ulArr rfl rfl rfl b1' L16.out ?_) | (go_at_call 34; refine (marshal_ok g _ _ x _ b3 rfl L.out).mono ?_))
  rintro e w4 ⟨rfl, b4, g4⟩
  have hb4 := hb3.grown g4 hb3.size (by rintro j ⟨⟩; exact hle)
  have r4 := b4.rd (by rw [writ_length]; decide)
  go_wp2_with (refine wp_to_string rfl rfl Try.underlying22 Try.underlying5 Try.underlying9 rfl r4 (writ_length _ _ _) ?_)
  go_ret
  exact ⟨rfl, hb4⟩

set_option maxRecDepth 100000 in
theorem ulidText_ok (a1 : Option Addr) (x : List UInt8) (c1 : Nat) (w : World) (h1 : Rd w a1 x) (hx : x.length = 16) :
    Calls Try.prog 9 #[.slice a1 16 c1] w fun e w' => e = .returned (.tuple #[str (writ d32 26 (num x)), .bool true]) ∧ Below w.heap.size w w' := by
  have hb := Below.refl w.heap.size w
  have L := Lib.hid hx
  have L16 := Lib.hid (show (bvs x).length = 16 by rw [bvs_length, hx])
  clear hx
  go_enter Try.func9, Try.ntmps9
  go_wp2_with (refine wp_alloc_blk ulArr hb rfl rfl rfl (Nat.le_refl _) ?_)
  intro w3 b3 g3 s3 hb3
  clear s3
  go_wp2_with (refine wp_store_blk ulArr hb3 rfl rfl rfl (cs := Z16) rfl b3 (Nat.le_refl _) rfl rfl (by decide) ?_)
  intro w4 b4 g4 s4 hb4
  clear s4
  have r4 := h1.kept hb4
  go_wp2_with (go_at_call 22; refine (unmarshal_ok _ _ _ a1 x c1 _ hb4 b4 (Nat.le_refl _) rfl r4 L.out).mono ?_)
  rintro e w5 ⟨rfl, b5, g5, hb5⟩
  go_wp2_with (first | (refine wp_load_blk ulArr rfl rfl rfl b5 L16.out ?_) | (go_at_call 24; refine (ustring_ok x _ L.out).mono ?_))
  rintro e w6 ⟨rfl, hb6⟩
  go_wp2
  exact ret_tmp2 rfl rfl rfl rfl ⟨rfl, hb5.trans (hb6.mono hb5.size)⟩
set_option maxRecDepth 100000 in
theorem ulidText_bad (a1 : Option Addr) (n : Nat) (c1 : Nat) (w : World) (hn : n ≠ 16) :
    Calls Try.prog 9 #[.slice a1 n c1] w fun e w' => e = .returned (.tuple #[str [], .bool false]) ∧ Below w.heap.size w w' := by
  have hb := Below.refl w.heap.size w
  have hne : ((n : Int) != 16) = true := by rw [bne_iff_ne]; omega
  clear hn
  go_enter Try.func9, Try.ntmps9
  go_wp2_with (refine wp_alloc_blk ulArr hb rfl rfl rfl (Nat.le_refl _) ?_)
  intro w3 b3 g3 s3 hb3
  clear s3
  go_wp2_with (refine wp_store_blk ulArr hb3 rfl rfl rfl (cs := Z16) rfl b3 (Nat.le_refl _) rfl rfl (by decide) ?_)
  intro w4 b4 g4 s4 hb4
  clear s4
  go_wp2_with (go_at_call 22; refine (unmarshal_bad _ a1 n c1 _ hne).mono ?_)
  rintro e w5 ⟨rfl, rfl⟩
  unfold errData
  go_wp2
  exact ret_tmp2 rfl rfl rfl rfl ⟨rfl, hb4⟩

set_option maxRecDepth 100000 in
theorem uCompare_ok (x y : List UInt8) (w : World) (hx : x.length = 16) (hy : y.length = 16) :
    Calls Try.prog 23 #[.agg (bvs x).toArray, .agg (bvs y).toArray] w fun e w' => e = .returned (.int .i64 (cmpL x y)) ∧ Below w.heap.size w w' := by
  have hb := Below.refl w.heap.size w
  have LX := Lib.hid hx
  have LY := Lib.hid hy
  clear hx hy
  go_enter Try.func23, Try.ntmps23
  go_wp2_with (refine wp_box_blk ulArr hb rfl rfl rfl rfl (Nat.le_refl _) ?_)
  intro w1 b1 g1 s1 hb1
  clear s1
  go_wp2_with (refine wp_box_blk ulArr hb1 rfl rfl rfl rfl hb1.size ?_)
  intro w2 b2 g2 s2 hb2
  clear s2
  have r1 := (b1.grown g2 (by simp)).rd (by rw [LX.out]; decide)
  have r2 := b2.rd (by rw [LY.out]; decide)
  go_wp2_with fail
  refine region_plan (fun w' => Below w2.heap.size w2 w') [(0, 0), (1, 0), (2, 1), (3, 0)] rfl (by kernel_rfl) (by kernel_rfl) rfl (by intro c a d v w h; cases d <;> exact h) (fun _ _ h => h) ?_
  intro w3 hpW hb3
  clear hpW
  simp only [planOps, List.filterMap_cons, List.filterMap_nil, List.getElem?_cons_succ, List.getElem?_cons_zero, Option.map_some]
  repeat (first | (refine plan_skip rfl ?_) | (refine plan_still (v := ?_) rfl (fun w' hS => ?_) ?_; rotate_left; (focus (go_simp; first | done | with_reducible rfl))); simp only [Act.put, List.setIfInBounds_toArray, List.set_cons_zero, List.set_cons_succ])
  refine plan_do ?_
  go_wp2_with (go_at_call 33; refine (bytesCompare_at x y (r1.kept hb3) (r2.kept hb3) LX.out LY.out).mono ?_)
  rintro e w4 ⟨rfl, rfl⟩
  go_wp2
  refine ⟨hb3, ?_⟩
  repeat (first | (refine plan_skip rfl ?_) | (refine plan_still (v := ?_) rfl (fun w' hS => ?_) ?_; rotate_left; (focus (go_simp; first | done | with_reducible rfl))); simp only [Act.put, List.setIfInBounds_toArray, List.set_cons_zero, List.set_cons_succ])
  refine plan_nil ?_
  go_wp2
  go_ret
  exact ⟨rfl, hb2.trans (hb3.mono hb2.size)⟩

set_option maxRecDepth 100000 in
theorem ulidCompare_ok (a1 a2 : Option Addr) (x y : List UInt8) (c1 c2 : Nat) (w : World) (h1 : Rd w a1 x) (h2 : Rd w a2 y) (hx : x.length = 16) (hy : y.length = 16) :
    Calls Try.prog 8 #[.slice a1 16 c1, .slice a2 16 c2] w fun e w' => e = .returned (.tuple #[.int .i64 (cmpL x y), .bool true]) ∧ Below w.heap.size w w' := by
  have hb := Below.refl w.heap.size w
  have LX := Lib.hid hx
  have LY := Lib.hid hy
  have BX := Lib.hid (show (bvs x).length = 16 by rw [bvs_length, hx])
  have BY := Lib.hid (show (bvs y).length = 16 by rw [bvs_length, hy])
  clear hx hy
  go_enter Try.func8, Try.ntmps8
  go_wp2_with (refine wp_alloc_blk ulArr hb rfl rfl rfl (Nat.le_refl _) ?_)
  intro w1 b1 g1 s1 hb1
  have sz1 := Lib.hid s1
  clear s1
  go_wp2_with (refine wp_alloc_blk ulArr hb1 rfl rfl rfl hb1.size ?_)
  intro w2 b2 g2 s2 hb2
  clear s2
  have b1' := b1.grown g2 (by simp)
  have hne : w.heap.size < w1.heap.size := by rw [sz1.out]; omega
  generalize hq : w1.heap.size = q at *
  go_wp2_with (refine wp_store_blk ulArr hb2 rfl rfl rfl (cs := Z16) rfl b1' (Nat.le_refl _) rfl rfl (by decide) ?_)
  intro w3 b3 g3 s3 hb3
  clear s3
  have b2' := b2.grown g3 (by intro e; have := Option.some.inj e; omega)
  go_wp2_with (refine wp_store_blk ulArr hb3 rfl rfl rfl (cs := Z16) rfl b2' (by omega) rfl rfl (by decide) ?_)
  intro w4 b4 g4 s4 hb4
  clear s4
  have b3' := b3.grown g4 (by intro e; have := Option.some.inj e; omega)
  go_wp2_with (go_at_call 22; refine (unmarshal_ok _ _ _ a1 x c1 _ hb4 b3' (Nat.le_refl _) rfl (h1.kept hb4) LX.out).mono ?_)
  rintro e w5 ⟨rfl, b5, g5, hb5⟩
  have b4' := b4.grown g5 (by intro e; have := Option.some.inj e; omega)
  go_wp2_with (go_at_call 22; refine (unmarshal_ok _ _ _ a2 y c2 _ hb5 b4' (by omega) rfl (h2.kept hb5) LY.out).mono ?_)
  rintro e w6 ⟨rfl, b6, g6, hb6⟩
  have b5' := b5.grown g6 (by intro e; have := Option.some.inj e; omega)
  go_wp2_with (first | (refine wp_load_blk ulArr rfl rfl rfl b5' BX.out ?_) | (refine wp_load_blk ulArr rfl rfl rfl b6 BY.out ?_) | (go_at_call 23; refine (uCompare_ok x y _ LX.out LY.out).mono ?_))
  rintro e w8 ⟨rfl, hb8⟩
  go_wp2
  exact ret_tmp2 rfl rfl rfl rfl ⟨rfl, hb6.trans (hb8.mono hb6.size)⟩
theorem d32_mono : Mono d32 := by
  intro i j h1 h2
  have h3 : ∀ j, j < 32 → ∀ i, i < j → d32.getD i 0 < d32.getD j 0 := by decide +kernel
  exact h3 j h2 i h1
end Go.Proofs.Ytpnpgckpjlbmdaa
