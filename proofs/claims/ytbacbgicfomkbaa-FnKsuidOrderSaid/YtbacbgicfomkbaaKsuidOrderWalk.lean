/- The law FnKsuidOrder returns true, and turns nothing that was there. -/
import Derived.Test.YtbacbgicfomkbaaTextK
import Derived.Test.YtbacbgicfomkbaaCmp
namespace Go.Proofs.Ytbacbgicfomkbaa
open Go.RowKit

set_option maxRecDepth 100000 in
theorem kCompare_ok (x y : List UInt8) (w : World) (hx : x.length = 20) (hy : y.length = 20) :
    Calls Try.prog 43 #[.agg (bvs x).toArray, .agg (bvs y).toArray] w fun e w' => e = .returned (.int .i64 (cmpL x y)) ∧ Below w.heap.size w w' := by
  have hb := Below.refl w.heap.size w
  have LX := Lib.hid hx
  have LY := Lib.hid hy
  clear hx hy
  go_enter Try.func43, Try.ntmps43
  go_wp2_with (refine wp_box_blk ksArr hb rfl rfl rfl rfl (Nat.le_refl _) ?_)
  intro w1 b1 g1 s1 hb1
  clear s1
  go_wp2_with (refine wp_box_blk ksArr hb1 rfl rfl rfl rfl hb1.size ?_)
  intro w2 b2 g2 s2 hb2
  clear s2
  have r1 := (b1.grown g2 (by simp)).rd (by rw [LX.out]; decide)
  have r2 := b2.rd (by rw [LY.out]; decide)
  go_wp2_with fail
  refine region_plan (fun w' => Below w2.heap.size w2 w') [(0, 0), (1, 0), (2, 1), (3, 0)] rfl (by kernel_rfl) (by kernel_rfl) rfl (by intro c a d v w h; cases d <;> exact h) (fun _ _ h => h) ?_
  intro w3 hpW hb3
  clear hpW
  simp only [planOps, List.filterMap_cons, List.filterMap_nil, List.getElem?_cons_succ, List.getElem?_cons_zero, Option.map_some]
  repeat (first | (refine plan_skip rfl ?_) | (refine plan_still (v := ?_) rfl (fun w' hS => ?_) ?_; rotate_left; (focus (go_simp; first | done | with_reducible rfl))); simp only [Act.put, List.setIfInBounds_toArray, List.set_cons_zero, List.set_cons_succ])
  refine plan_do ?_
  go_wp2_with (go_at_call 56; refine (bytesCompare_at x y (r1.kept hb3) (r2.kept hb3) LX.out LY.out).mono ?_)
  rintro e w4 ⟨rfl, rfl⟩
  go_wp2
  refine ⟨hb3, ?_⟩
  repeat (first | (refine plan_skip rfl ?_) | (refine plan_still (v := ?_) rfl (fun w' hS => ?_) ?_; rotate_left; (focus (go_simp; first | done | with_reducible rfl))); simp only [Act.put, List.setIfInBounds_toArray, List.set_cons_zero, List.set_cons_succ])
  refine plan_nil ?_
  go_wp2
  go_ret
  exact ⟨rfl, hb2.trans (hb3.mono hb2.size)⟩

set_option maxRecDepth 100000 in
theorem ksuidCompare_ok (a1 a2 : Option Addr) (x y : List UInt8) (c1 c2 : Nat) (w : World) (h1 : Rd w a1 x) (h2 : Rd w a2 y) (hx : x.length = 20) (hy : y.length = 20) :
    Calls Try.prog 25 #[.slice a1 20 c1, .slice a2 20 c2] w fun e w' => e = .returned (.tuple #[.int .i64 (cmpL x y), .bool true]) ∧ Below w.heap.size w w' := by
  have LX := Lib.hid hx
  have LY := Lib.hid hy
  have BX := Lib.hid (show (bvs x).length = 20 by rw [bvs_length, hx])
  have BY := Lib.hid (show (bvs y).length = 20 by rw [bvs_length, hy])
  clear hx hy
  go_enter Try.func25, Try.ntmps25
  go_wp2_with (go_at_call 36; refine (fromBytes_ok a1 x c1 _ h1 LX.out).mono ?_)
  rintro e w2 ⟨rfl, hb2⟩
  go_wp2_with (refine wp_alloc_blk ksArr hb2 rfl rfl rfl hb2.size ?_)
  intro w3 b3 g3 s3 hb3
  clear s3
  go_wp2_with (refine wp_store_blk ksArr hb3 rfl rfl rfl rfl b3 hb2.size rfl BX.out (bvs_one _) ?_)
  intro w4 b4 g4 s4 hb4
  clear s4
  go_wp2_with (go_at_call 36; refine (fromBytes_ok a2 y c2 _ (h2.kept hb4) LY.out).mono ?_)
  rintro e w5 ⟨rfl, hb5⟩
  have hb5' := hb4.trans (hb5.mono hb4.size)
  have b5 := b4.kept hb5
  go_wp2_with (refine wp_alloc_blk ksArr hb5' rfl rfl rfl hb5'.size ?_)
  intro w6 b6 g6 s6 hb6
  clear s6
  have b5' := b5.grown g6 (by simp)
  have hne : w2.heap.size < w5.heap.size := b5.lt
  go_wp2_with (refine wp_store_blk ksArr hb6 rfl rfl rfl rfl b6 hb5'.size rfl BY.out (bvs_one _) ?_)
  intro w7 b7 g7 s7 hb7
  clear s7
  have b5'' := b5'.grown g7 (by intro e; have := Option.some.inj e; omega)
  go_wp2_with (first | (refine wp_load_blk ksArr rfl rfl rfl b5'' BX.out ?_) | (refine wp_load_blk ksArr rfl rfl rfl b7 BY.out ?_) | (go_at_call 43; refine (kCompare_ok x y _ LX.out LY.out).mono ?_))
  rintro e w8 ⟨rfl, hb8⟩
  go_wp2
  exact ret_tmp2 rfl rfl rfl rfl ⟨rfl, hb7.trans (hb8.mono hb7.size)⟩

theorem below_drewN {B : Nat} {w w' : World} (h : Below B w w') (n : Nat) : Below B w (w'.drewN n) := ⟨h.os, h.tape, h.output, h.size, h.block⟩
theorem d62_mono : Mono d62 := by
  intro i j h1 h2
  have h3 : ∀ j, j < 62 → ∀ i, i < j → d62.getD i 0 < d62.getD j 0 := by decide +kernel
  exact h3 j h2 i h1

set_option maxRecDepth 100000 in
theorem ksuidOrder_main (a0 : Option Addr) (x0 : List UInt8) (c0 : Nat) (a1 : Option Addr) (x1 : List UInt8) (c1 : Nat) (w : World) (h0 : Rd w a0 x0) (h1 : Rd w a1 x1) (l0 : x0.length = 20) (l1 : x1.length = 20) :
    Calls Try.prog 7 #[.slice a0 20 c0, .slice a1 20 c1] w fun e w' => e = .returned (.bool true) ∧ Below w.heap.size w w' := by
  have T := Lib.hid (cmp_text d62 (by decide) d62_mono 27 x0 x1 (by rw [l0, l1]) (by rw [l0]; decide))
  have L0 := Lib.hid l0
  have L1 := Lib.hid l1
  clear l0 l1
  go_enter Try.func7, Try.ntmps7
  go_wp2_with (go_at_call 25; refine (ksuidCompare_ok a0 a1 x0 x1 c0 c1 _ h0 h1 L0.out L1.out).mono ?_)
  rintro e w2 ⟨rfl, hb2⟩
  go_wp2_with (go_at_call 22; refine (ksuidText_ok a0 x0 c0 _ (h0.kept hb2) L0.out).mono ?_)
  rintro e w3 ⟨rfl, hb3⟩
  have hb3' := hb2.trans (hb3.mono hb2.size)
  go_wp2_with (go_at_call 22; refine (ksuidText_ok a1 x1 c1 _ (h1.kept hb3') L1.out).mono ?_)
  rintro e w4 ⟨rfl, hb4⟩
  have hb4' := hb3'.trans (hb4.mono hb3'.size)
  have W0 := Lib.hid (writ_length d62 27 (num x0))
  have W1 := Lib.hid (writ_length d62 27 (num x1))
  generalize writ d62 27 (num x0) = t0 at *
  generalize writ d62 27 (num x1) = t1 at *
  have r0 := h0.kept hb4'
  have r1 := h1.kept hb4'
  have hcmp := compare_any a0 a1 x0 x1 c0 c1 w4 r0 r1
  rw [L0.out, L1.out] at hcmp
  go_wp2_with (first | (go_at_call 26; refine (sign_any _ _).mono ?_; rintro e w' ⟨rfl, rfl⟩) | (go_at_call 27; refine hcmp.mono ?_))
  rintro e w5 ⟨rfl, n5, rfl⟩
  have hsg : signI (cmpL x0 x1) = cmpL x0 x1 := signI_cmpL x0 x1
  have hb5 := below_drewN hb4' n5
  generalize w4.drewN n5 = w5 at *
  go_wp2_with (refine wp_of_string rfl rfl Try.underlying9 Try.underlying22 Try.underlying5 rfl W0.out (by decide) ?_)
  intro ga ca w6 ra _ hb6
  have hb6' := hb5.trans (hb6.mono hb5.size)
  go_wp2_with (refine wp_of_string rfl rfl Try.underlying9 Try.underlying22 Try.underlying5 rfl W1.out (by decide) ?_)
  intro gb cb w7 rb _ hb7
  have hb7' := hb6'.trans (hb7.mono hb6'.size)
  have hcmp2 := compare_any _ _ t0 t1 ca cb w7 (ra.kept hb7) rb
  have hcmp3 := fun n => compare_any a0 a1 x0 x1 c0 c1 (w7.drewN n) ((h0.kept hb7').drew n) ((h1.kept hb7').drew n)
  rw [W0.out, W1.out] at hcmp2
  rw [L0.out, L1.out] at hcmp3
  clear hcmp hb2 hb3 hb3' hb4 hb4' hb5 hb6 hb6' hb7 r0 r1 ra rb
  go_wp2_with (go_at_call 27; (with_reducible refine hcmp2.mono ?_))
  rintro e w8 ⟨rfl, n8, rfl⟩
  go_wp2_with (go_at_call 27; (with_reducible refine (hcmp3 n8).mono ?_))
  rintro e w9 ⟨rfl, n9, rfl⟩
  have hT : cmpL t0 t1 = cmpL x0 x1 := T.out
  go_wp2
  go_ret
  exact ⟨rfl, below_drewN hb7' _⟩

set_option maxRecDepth 100000 in
theorem ksuidOrder_walk (a0 : Option Addr) (x0 : List UInt8) (c0 : Nat) (a1 : Option Addr) (x1 : List UInt8) (c1 : Nat) (w : World) (h0 : Rd w a0 x0) (_ : x0.length ≤ c0) (_ : c0 ≤ 9223372036854775807) (h1 : Rd w a1 x1) (_ : x1.length ≤ c1) (_ : c1 ≤ 9223372036854775807) :
    Calls Try.prog 7 #[.slice a0 x0.length c0, .slice a1 x1.length c1] w fun e w' => e = .returned (.bool true) ∧ Below w.heap.size w w' := by
  by_cases hlen : x0.length = 20 ∧ x1.length = 20
  · rw [hlen.1, hlen.2]
    exact ksuidOrder_main a0 x0 c0 a1 x1 c1 w h0 h1 hlen.1 hlen.2
  · have hb := Below.refl w.heap.size w
    have e0 := h0.1
    have e1 := h1.1
    clear h0 h1
    generalize x0.length = n0 at *
    generalize x1.length = n1 at *
    by_cases hb0 : 2147483647 < n0
    · go_enter Try.func7, Try.ntmps7
      go_wp2
      go_ret
      exact ⟨rfl, hb⟩
    · by_cases hb1 : 2147483647 < n1
      · go_enter Try.func7, Try.ntmps7
        go_wp2
        go_ret
        exact ⟨rfl, hb⟩
      · by_cases h20 : n0 = 20
        · have q0 : ((n0 : Int) != 20) = false := by subst h20; rfl
          have q1 : ((n1 : Int) != 20) = true := by rw [bne_iff_ne]; omega
          go_enter Try.func7, Try.ntmps7
          go_wp2
          go_ret
          exact ⟨rfl, hb⟩
        · have q0 : ((n0 : Int) != 20) = true := by rw [bne_iff_ne]; omega
          go_enter Try.func7, Try.ntmps7
          go_wp2
          go_ret
          exact ⟨rfl, hb⟩
end Go.Proofs.Ytbacbgicfomkbaa
