/- Contracts of package ksuid's uint128. -/
import Derived.Test.YtbacbgicfomkbaaTextK
namespace Go.Proofs.Ytbacbgicfomkbaa
open Go.RowKit

/-- A number of 128 bits: its low half, its high half. -/
def u128 (lo hi : Nat) : List Value := [.int .u64 lo, .int .u64 hi]
theorem u128_one (lo hi : Nat) : ∀ u ∈ u128 lo hi, u.oneCell' = true := by
  intro u hu
  simp [u128] at hu
  rcases hu with rfl | rfl <;> rfl
theorem u128Arr : Arr Try.prog 77 2 (u128 0 0) where
  und := ⟨_, Try.underlying77, rfl⟩
  size := by kernel_rfl
  zero := fun w => by kernel_rfl
  len := rfl
set_option maxRecDepth 100000 in
theorem makeUint128_ok (hi lo : Nat) (w : World) :
    Calls Try.prog 59 #[.int .u64 hi, .int .u64 lo] w fun e w' => e = .returned (.agg (u128 lo hi).toArray) ∧ Below w.heap.size w w' := by
  have hb := Below.refl w.heap.size w
  go_enter Try.func59, Try.ntmps59
  go_wp2_with (refine wp_alloc_blk u128Arr hb rfl rfl rfl (Nat.le_refl _) ?_)
  intro w1 b1 g1 s1 hb1
  clear s1
  go_wp2_with (refine wp_store_blk u128Arr hb1 rfl rfl rfl (cs := u128 lo hi) rfl b1 (Nat.le_refl _) rfl rfl (u128_one _ _) ?_)
  intro w2 b2 g2 s2 hb2
  go_wp2
  exact ret_cell u128Arr rfl rfl rfl b2 rfl ⟨rfl, hb2⟩
theorem top_bit (n : Nat) (h : n < 18446744073709551616) : n / 9223372036854775808 = (n.testBit 63).toNat := by
  rw [Nat.testBit_eq_decide_div_mod_eq, show (2 : Nat) ^ 63 = 9223372036854775808 from rfl]
  by_cases e : n / 9223372036854775808 % 2 = 1
  · rw [decide_eq_true e]; simp; omega
  · rw [decide_eq_false e]; simp; omega
/-- The carry of an addition of 64 bits. -/
theorem carry64 (a b : Nat) (ha : a < 18446744073709551616) (hb : b < 18446744073709551616) :
    ((a &&& b) ||| ((a ||| b) &&& (18446744073709551615 - (a + b) % 18446744073709551616))) / 9223372036854775808 = (a + b) / 18446744073709551616 := by
  have hs : (a + b) % 18446744073709551616 < 2 ^ 64 := Nat.mod_lt _ (by decide)
  have hn : (18446744073709551615 - (a + b) % 18446744073709551616).testBit 63 = !((a + b) % 18446744073709551616).testBit 63 := by
    have := Nat.testBit_two_pow_sub_succ hs 63
    rw [show 2 ^ 64 - ((a + b) % 18446744073709551616 + 1) = 18446744073709551615 - (a + b) % 18446744073709551616 by omega] at this
    rw [this]; simp
  have hlt : ((a &&& b) ||| ((a ||| b) &&& (18446744073709551615 - (a + b) % 18446744073709551616))) < 18446744073709551616 :=
    Nat.or_lt_two_pow (n := 64) (Nat.lt_of_le_of_lt Nat.and_le_left ha) (Nat.lt_of_le_of_lt Nat.and_le_right (by omega))
  rw [top_bit _ hlt, Nat.testBit_or, Nat.testBit_and, Nat.testBit_and, Nat.testBit_or, hn]
  simp only [Nat.testBit_eq_decide_div_mod_eq, show (2 : Nat) ^ 63 = 9223372036854775808 from rfl]
  by_cases h1 : a / 9223372036854775808 % 2 = 1 <;> by_cases h2 : b / 9223372036854775808 % 2 = 1 <;> by_cases h3 : (a + b) % 18446744073709551616 / 9223372036854775808 % 2 = 1 <;> simp [h1, h2, h3] <;> omega
/-- The borrow of a subtraction of 64 bits. -/
theorem borrow64 (a b : Nat) (ha : a < 18446744073709551616) (hb : b < 18446744073709551616) :
    ((b &&& (18446744073709551615 - a)) ||| ((b ||| (18446744073709551615 - a)) &&& ((a + 18446744073709551616 - b) % 18446744073709551616))) / 9223372036854775808 = if a < b then 1 else 0 := by
  have hs : (a + 18446744073709551616 - b) % 18446744073709551616 < 2 ^ 64 := Nat.mod_lt _ (by decide)
  have hn : (18446744073709551615 - a).testBit 63 = !a.testBit 63 := by
    have := Nat.testBit_two_pow_sub_succ (show a < 2 ^ 64 from ha) 63
    rw [show 2 ^ 64 - (a + 1) = 18446744073709551615 - a by omega] at this
    rw [this]; simp
  have hlt : ((b &&& (18446744073709551615 - a)) ||| ((b ||| (18446744073709551615 - a)) &&& ((a + 18446744073709551616 - b) % 18446744073709551616))) < 18446744073709551616 :=
    Nat.or_lt_two_pow (n := 64) (Nat.lt_of_le_of_lt Nat.and_le_left hb) (Nat.lt_of_le_of_lt Nat.and_le_right hs)
  rw [top_bit _ hlt, Nat.testBit_or, Nat.testBit_and, Nat.testBit_and, Nat.testBit_or, hn]
  simp only [Nat.testBit_eq_decide_div_mod_eq, show (2 : Nat) ^ 63 = 9223372036854775808 from rfl]
  by_cases h1 : a / 9223372036854775808 % 2 = 1 <;> by_cases h2 : b / 9223372036854775808 % 2 = 1 <;> by_cases h3 : (a + 18446744073709551616 - b) % 18446744073709551616 / 9223372036854775808 % 2 = 1 <;> by_cases h4 : a < b <;> simp [h1, h2, h3, h4] <;> omega
set_option maxRecDepth 100000 in
theorem add128_ok (a0 a1 b0 b1 : Nat) (w : World) (ha0 : a0 < 18446744073709551616) (_ha1 : a1 < 18446744073709551616) (hb0 : b0 < 18446744073709551616) (_hb1 : b1 < 18446744073709551616) :
    Calls Try.prog 61 #[.agg (u128 a0 a1).toArray, .agg (u128 b0 b1).toArray] w fun e w' => e = .returned (.agg (u128 ((a0 + b0) % 18446744073709551616) ((a1 + b1 + (a0 + b0) / 18446744073709551616) % 18446744073709551616)).toArray) ∧ Below w.heap.size w w' := by
  have hb := Below.refl w.heap.size w
  obtain ⟨s, hs⟩ : ∃ s, (a0 + b0) % 18446744073709551616 = s := ⟨_, rfl⟩
  obtain ⟨c, hc⟩ : ∃ c, (a0 + b0) / 18446744073709551616 = c := ⟨_, rfl⟩
  obtain ⟨t, ht⟩ : ∃ t, (a1 + b1 + c) % 18446744073709551616 = t := ⟨_, rfl⟩
  have hcar := carry64 a0 b0 ha0 hb0
  have hsl : s < 18446744073709551616 := by omega
  rw [hc, ht, hs]
  rw [hs, hc] at hcar
  have e1 : IntKind.u64.wrap ((a0 : Int) + b0) = (s : Int) := by rw [IntKind.wrap_u64]; omega
  have f1 := u64_and_nat a0 b0 ha0 hb0
  have f2 := u64_or_nat a0 b0 ha0 hb0
  have l1 : a0 &&& b0 < 18446744073709551616 := Nat.lt_of_le_of_lt Nat.and_le_left ha0
  have l2 : a0 ||| b0 < 18446744073709551616 := Nat.or_lt_two_pow (n := 64) ha0 hb0
  have f3 := u64_andNot_nat (a0 ||| b0) s l2 hsl
  have l3 : (a0 ||| b0) &&& (18446744073709551615 - s) < 18446744073709551616 := Nat.lt_of_le_of_lt Nat.and_le_left l2
  have f4 := u64_or_nat _ _ l1 l3
  generalize a0 &&& b0 = x1 at *
  generalize a0 ||| b0 = x2 at *
  generalize x2 &&& (18446744073709551615 - s) = x3 at *
  generalize x1 ||| x3 = x4 at *
  have f5 : (x4 : Int) / 9223372036854775808 = (c : Int) := by omega
  have e2 : IntKind.u64.wrap (IntKind.u64.wrap ((a1 : Int) + b1) + c) = (t : Int) := by rw [IntKind.wrap_u64, IntKind.wrap_u64]; omega
  go_enter Try.func61, Try.ntmps61
  go_wp2_with (refine wp_box_blk u128Arr hb rfl rfl rfl rfl (Nat.le_refl _) ?_)
  intro w1 b1' g1 s1 hb1'
  clear s1
  go_wp2_with (refine wp_box_blk u128Arr hb1' rfl rfl rfl rfl hb1'.size ?_)
  intro w2 b2 g2 s2 hb2
  clear s2
  go_wp2_with (refine wp_alloc_blk u128Arr hb2 rfl rfl rfl hb2.size ?_)
  intro w3 b3 g3 s3 hb3
  clear s3
  have p1 := (b1'.grown g2 (by simp)).grown g3 (by simp)
  have p2 := b2.grown g3 (by simp)
  have n1 : w.heap.size < w1.heap.size := b1'.lt
  have n2 : w1.heap.size < w2.heap.size := b2.lt
  have n0 : w.heap.size ≤ w2.heap.size := hb2.size
  generalize w2.heap.size = q at *
  generalize w1.heap.size = r at *
  have c10 := p1.cell 0
  have c11 := p1.cell 1
  have c20 := p2.cell 0
  have c21 := p2.cell 1
  simp only [u128, List.getElem?_cons_zero, List.getElem?_cons_succ] at c10 c11 c20 c21
  go_wp2_with (refine wp_store_cell (i := 0) rfl rfl (by kernel_rfl) rfl rfl rfl b3 (by decide) ?_)
  intro w4 b4 g4 s4
  clear s4
  have hb4 := hb3.grown g4 hb3.size (by rintro j ⟨⟩; exact n0)
  have p14 := p1.grown g4 (by intro e; have := Option.some.inj e; omega)
  have p24 := p2.grown g4 (by intro e; have := Option.some.inj e; omega)
  have c11' := p14.cell 1
  have c21' := p24.cell 1
  simp only [u128, List.getElem?_cons_zero, List.getElem?_cons_succ] at c11' c21'
  clear c10 c11 c20 c21
  go_wp2_with (refine wp_store_cell (i := 1) rfl rfl (by kernel_rfl) rfl rfl rfl b4 (by rw [List.length_set]; decide) ?_)
  intro w5 b5 g5 s5
  clear s5
  have hb5 := hb4.grown g5 hb4.size (by rintro j ⟨⟩; exact n0)
  go_wp2
  exact ret_cell u128Arr rfl rfl rfl b5 rfl ⟨rfl, hb5⟩
theorem xor_max (a : Nat) (ha : a < 18446744073709551616) : 18446744073709551615 ^^^ a = 18446744073709551615 - a := by
  apply Nat.eq_of_testBit_eq
  intro i
  have h1 := Nat.testBit_two_pow_sub_succ (show a < 2 ^ 64 from ha) i
  rw [show 2 ^ 64 - (a + 1) = 18446744073709551615 - a by omega] at h1
  have h2 : (18446744073709551615 : Nat).testBit i = decide (i < 64) := Nat.testBit_two_pow_sub_one 64 i
  rw [Nat.testBit_xor, h1, h2]
  by_cases h : i < 64
  · simp [h]
  · have h3 : a.testBit i = false := Nat.testBit_lt_two_pow (Nat.lt_of_lt_of_le ha (Nat.pow_le_pow_right (n := 2) (by decide) (show 64 ≤ i by omega)))
    simp [h, h3]
set_option maxRecDepth 100000 in
theorem sub128_ok (a0 a1 b0 b1 : Nat) (w : World) (ha0 : a0 < 18446744073709551616) (_ha1 : a1 < 18446744073709551616) (hb0 : b0 < 18446744073709551616) (_hb1 : b1 < 18446744073709551616) :
    Calls Try.prog 69 #[.agg (u128 a0 a1).toArray, .agg (u128 b0 b1).toArray] w fun e w' => e = .returned (.agg (u128 ((a0 + 18446744073709551616 - b0) % 18446744073709551616) ((a1 + 18446744073709551616 - b1 - (if a0 < b0 then 1 else 0)) % 18446744073709551616)).toArray) ∧ Below w.heap.size w w' := by
  have hb := Below.refl w.heap.size w
  have hcar := borrow64 a0 b0 ha0 hb0
  obtain ⟨s, hs⟩ : ∃ s, (a0 + 18446744073709551616 - b0) % 18446744073709551616 = s := ⟨_, rfl⟩
  obtain ⟨c, hc⟩ : ∃ c : Nat, (if a0 < b0 then 1 else 0) = c := ⟨_, rfl⟩
  have hc1 : c ≤ 1 := by split at hc <;> omega
  rw [hc]
  obtain ⟨t, ht⟩ : ∃ t, (a1 + 18446744073709551616 - b1 - c) % 18446744073709551616 = t := ⟨_, rfl⟩
  have hsl : s < 18446744073709551616 := by omega
  rw [ht, hs]
  rw [hs, hc] at hcar
  have e1 : IntKind.u64.wrap ((a0 : Int) - b0) = (s : Int) := by rw [IntKind.wrap_u64]; omega
  have f0 := u64_xor_nat 18446744073709551615 a0 (by decide) ha0
  rw [xor_max a0 ha0] at f0
  have f0' : bits .xor .u64 IntKind.u64.max (a0 : Int) = ((18446744073709551615 - a0 : Nat) : Int) := f0
  have l0 : 18446744073709551615 - a0 < 18446744073709551616 := by omega
  have f1 := u64_andNot_nat b0 a0 hb0 ha0
  have f2 := u64_or_nat b0 _ hb0 l0
  have l1 : b0 &&& (18446744073709551615 - a0) < 18446744073709551616 := Nat.lt_of_le_of_lt Nat.and_le_left hb0
  have l2 : b0 ||| (18446744073709551615 - a0) < 18446744073709551616 := Nat.or_lt_two_pow (n := 64) hb0 l0
  have f3 := u64_and_nat _ s l2 hsl
  have l3 : (b0 ||| (18446744073709551615 - a0)) &&& s < 18446744073709551616 := Nat.lt_of_le_of_lt Nat.and_le_left l2
  have f4 := u64_or_nat _ _ l1 l3
  have l4 := Nat.or_lt_two_pow (n := 64) l1 l3
  clear f0 hc
  generalize b0 &&& (18446744073709551615 - a0) = x1 at *
  generalize 18446744073709551615 - a0 = x0 at *
  generalize b0 ||| x0 = x2 at *
  generalize x2 &&& s = x3 at *
  generalize x1 ||| x3 = x4 at *
  have f5 : (x4 : Int) / 9223372036854775808 = (c : Int) := by omega
  have e2 : IntKind.u64.wrap (IntKind.u64.wrap ((a1 : Int) - b1) - c) = (t : Int) := by rw [IntKind.wrap_u64, IntKind.wrap_u64]; omega
  go_enter Try.func69, Try.ntmps69
  go_wp2_with (refine wp_box_blk u128Arr hb rfl rfl rfl rfl (Nat.le_refl _) ?_)
  intro w1 b1' g1 s1 hb1'
  clear s1
  go_wp2_with (refine wp_box_blk u128Arr hb1' rfl rfl rfl rfl hb1'.size ?_)
  intro w2 b2 g2 s2 hb2
  clear s2
  go_wp2_with (refine wp_alloc_blk u128Arr hb2 rfl rfl rfl hb2.size ?_)
  intro w3 b3 g3 s3 hb3
  clear s3
  have p1 := (b1'.grown g2 (by simp)).grown g3 (by simp)
  have p2 := b2.grown g3 (by simp)
  have n1 : w.heap.size < w1.heap.size := b1'.lt
  have n2 : w1.heap.size < w2.heap.size := b2.lt
  have n0 : w.heap.size ≤ w2.heap.size := hb2.size
  generalize w2.heap.size = q at *
  generalize w1.heap.size = r at *
  have c10 := p1.cell 0
  have c11 := p1.cell 1
  have c20 := p2.cell 0
  have c21 := p2.cell 1
  simp only [u128, List.getElem?_cons_zero, List.getElem?_cons_succ] at c10 c11 c20 c21
  go_wp2_with (refine wp_store_cell (i := 0) rfl rfl (by kernel_rfl) rfl rfl rfl b3 (by decide) ?_)
  intro w4 b4 g4 s4
  clear s4
  have hb4 := hb3.grown g4 hb3.size (by rintro j ⟨⟩; exact n0)
  have p14 := p1.grown g4 (by intro e; have := Option.some.inj e; omega)
  have p24 := p2.grown g4 (by intro e; have := Option.some.inj e; omega)
  have c11' := p14.cell 1
  have c21' := p24.cell 1
  simp only [u128, List.getElem?_cons_zero, List.getElem?_cons_succ] at c11' c21'
  clear c10 c11 c20 c21
  go_wp2_with (refine wp_store_cell (i := 1) rfl rfl (by kernel_rfl) rfl rfl rfl b4 (by rw [List.length_set]; decide) ?_)
  intro w5 b5 g5 s5
  clear s5
  have hb5 := hb4.grown g5 hb4.size (by rintro j ⟨⟩; exact n0)
  go_wp2
  exact ret_cell u128Arr rfl rfl rfl b5 rfl ⟨rfl, hb5⟩
end Go.Proofs.Ytbacbgicfomkbaa
