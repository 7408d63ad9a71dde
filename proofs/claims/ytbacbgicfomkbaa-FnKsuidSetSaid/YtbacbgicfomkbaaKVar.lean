/- Contracts of package ksuid's numbers of few bytes, in a compressed set. -/
import Derived.Test.YtbacbgicfomkbaaKSetE
import Derived.Test.YtbacbgicfomkbaaKsNext
namespace Go.Proofs.Ytbacbgicfomkbaa
open Go.RowKit
set_option linter.unusedVariables false
set_option linter.unusedSimpArgs false
theorem and_mask (n k v : Nat) (hk : k ≤ n) (hv : v < 2 ^ n) : v &&& (2 ^ n - 2 ^ k) = v / 2 ^ k * 2 ^ k := by
  have hp : 0 < 2 ^ k := Nat.pow_pos (by decide)
  have hq : 2 ^ k ≤ 2 ^ n := Nat.pow_le_pow_right (by decide) hk
  apply Nat.eq_of_testBit_eq
  intro i
  have h1 := Nat.testBit_two_pow_sub_succ (show 2 ^ k - 1 < 2 ^ n by omega) i
  rw [show 2 ^ n - (2 ^ k - 1 + 1) = 2 ^ n - 2 ^ k by omega, Nat.testBit_two_pow_sub_one] at h1
  rw [Nat.testBit_and, h1, Nat.testBit_mul_two_pow, Nat.testBit_div_two_pow]
  by_cases hik : i < k
  · simp [hik, show ¬ k ≤ i by omega]
  · by_cases hin : i < n
    · simp [hik, hin, show k ≤ i by omega]
    · have h3 : v.testBit i = false := Nat.testBit_lt_two_pow (Nat.lt_of_lt_of_le hv (Nat.pow_le_pow_right (n := 2) (by decide) (show n ≤ i by omega)))
      simp [hik, hin, h3, show k ≤ i by omega]
theorem mk64 (k v : Nat) (M : Int) (hk : k ≤ 64) (hv : v < 18446744073709551616) (hM : M = ((18446744073709551616 - 2 ^ k : Nat) : Int)) : ∃ y : Nat, bits .and .u64 (v : Int) M = (y : Int) ∧ (v < 2 ^ k → y = 0) ∧ (¬ v < 2 ^ k → ((y : Int) == 0) = false) := by
  have hp : 0 < 2 ^ k := Nat.pow_pos (by decide)
  have hy := and_mask 64 k v hk hv
  refine ⟨v / 2 ^ k * 2 ^ k, ?_, fun h => by rw [Nat.div_eq_of_lt h, Nat.zero_mul], fun h => ?_⟩
  · rw [hM, u64_and_nat v _ hv (by omega)]
    exact congrArg _ hy
  · rw [beq_eq_false_iff_ne]
    have h1 : 1 ≤ v / 2 ^ k := (Nat.le_div_iff_mul_le hp).2 (by omega)
    have h2 := Nat.mul_le_mul_right (2 ^ k) h1
    omega
theorem mk32 (k v : Nat) (M : Int) (hk : k ≤ 32) (hv : v < 4294967296) (hM : M = ((4294967296 - 2 ^ k : Nat) : Int)) : ∃ y : Nat, bits .and .u32 (v : Int) M = (y : Int) ∧ (v < 2 ^ k → y = 0) ∧ (¬ v < 2 ^ k → ((y : Int) == 0) = false) := by
  have hp : 0 < 2 ^ k := Nat.pow_pos (by decide)
  have hy := and_mask 32 k v hk hv
  refine ⟨v / 2 ^ k * 2 ^ k, ?_, fun h => by rw [Nat.div_eq_of_lt h, Nat.zero_mul], fun h => ?_⟩
  · rw [hM, u32_and_nat v _ hv (by omega)]
    exact congrArg _ hy
  · rw [beq_eq_false_iff_ne]
    have h1 : 1 ≤ v / 2 ^ k := (Nat.le_div_iff_mul_le hp).2 (by omega)
    have h2 := Nat.mul_le_mul_right (2 ^ k) h1
    omega
set_option maxRecDepth 100000 in
theorem vlen64_ok (v : Nat) (w : World) (hv : v < 18446744073709551616) :
    Calls Try.prog 81 #[.int .u64 v] w fun e w' => ∃ n : Nat, e = .returned (.int .i64 n) ∧ 1 ≤ n ∧ n ≤ 8 ∧ v < 256 ^ n ∧ w' = w := by
  obtain ⟨y1, m1, z1, n1⟩ := mk64 8 v 18446744073709551360 (by decide) hv (by decide)
  obtain ⟨y2, m2, z2, n2⟩ := mk64 16 v 18446744073709486080 (by decide) hv (by decide)
  obtain ⟨y3, m3, z3, n3⟩ := mk64 24 v 18446744073692774400 (by decide) hv (by decide)
  obtain ⟨y4, m4, z4, n4⟩ := mk64 32 v 18446744069414584320 (by decide) hv (by decide)
  obtain ⟨y5, m5, z5, n5⟩ := mk64 40 v 18446742974197923840 (by decide) hv (by decide)
  obtain ⟨y6, m6, z6, n6⟩ := mk64 48 v 18446462598732840960 (by decide) hv (by decide)
  obtain ⟨y7, m7, z7, n7⟩ := mk64 56 v 18374686479671623680 (by decide) hv (by decide)
  by_cases h1 : v < 256
  · have HV1 : Hid (v < 256 ^ 1) := h1
    obtain rfl := z1 h1
    clear z1 n1 z2 n2 z3 n3 z4 n4 z5 n5 z6 n6 z7 n7
    clear m2
    clear m3
    clear m4
    clear m5
    clear m6
    clear m7
    go_enter Try.func81, Try.ntmps81
    go_wp2
    go_ret
    exact ⟨1, rfl, by decide, by decide, HV1.out, rfl⟩
  by_cases h2 : v < 65536
  · have HV2 : Hid (v < 256 ^ 2) := h2
    have q1 := n1 h1
    obtain rfl := z2 h2
    clear z1 n1 z2 n2 z3 n3 z4 n4 z5 n5 z6 n6 z7 n7
    clear m3
    clear m4
    clear m5
    clear m6
    clear m7
    go_enter Try.func81, Try.ntmps81
    go_wp2
    go_ret
    exact ⟨2, rfl, by decide, by decide, HV2.out, rfl⟩
  by_cases h3 : v < 16777216
  · have HV3 : Hid (v < 256 ^ 3) := h3
    have q1 := n1 h1
    have q2 := n2 h2
    obtain rfl := z3 h3
    clear z1 n1 z2 n2 z3 n3 z4 n4 z5 n5 z6 n6 z7 n7
    clear m4
    clear m5
    clear m6
    clear m7
    go_enter Try.func81, Try.ntmps81
    go_wp2
    go_ret
    exact ⟨3, rfl, by decide, by decide, HV3.out, rfl⟩
  by_cases h4 : v < 4294967296
  · have HV4 : Hid (v < 256 ^ 4) := h4
    have q1 := n1 h1
    have q2 := n2 h2
    have q3 := n3 h3
    obtain rfl := z4 h4
    clear z1 n1 z2 n2 z3 n3 z4 n4 z5 n5 z6 n6 z7 n7
    clear m5
    clear m6
    clear m7
    go_enter Try.func81, Try.ntmps81
    go_wp2
    go_ret
    exact ⟨4, rfl, by decide, by decide, HV4.out, rfl⟩
  by_cases h5 : v < 1099511627776
  · have HV5 : Hid (v < 256 ^ 5) := h5
    have q1 := n1 h1
    have q2 := n2 h2
    have q3 := n3 h3
    have q4 := n4 h4
    obtain rfl := z5 h5
    clear z1 n1 z2 n2 z3 n3 z4 n4 z5 n5 z6 n6 z7 n7
    clear m6
    clear m7
    go_enter Try.func81, Try.ntmps81
    go_wp2
    go_ret
    exact ⟨5, rfl, by decide, by decide, HV5.out, rfl⟩
  by_cases h6 : v < 281474976710656
  · have HV6 : Hid (v < 256 ^ 6) := h6
    have q1 := n1 h1
    have q2 := n2 h2
    have q3 := n3 h3
    have q4 := n4 h4
    have q5 := n5 h5
    obtain rfl := z6 h6
    clear z1 n1 z2 n2 z3 n3 z4 n4 z5 n5 z6 n6 z7 n7
    clear m7
    go_enter Try.func81, Try.ntmps81
    go_wp2
    go_ret
    exact ⟨6, rfl, by decide, by decide, HV6.out, rfl⟩
  by_cases h7 : v < 72057594037927936
  · have HV7 : Hid (v < 256 ^ 7) := h7
    have q1 := n1 h1
    have q2 := n2 h2
    have q3 := n3 h3
    have q4 := n4 h4
    have q5 := n5 h5
    have q6 := n6 h6
    obtain rfl := z7 h7
    clear z1 n1 z2 n2 z3 n3 z4 n4 z5 n5 z6 n6 z7 n7
    go_enter Try.func81, Try.ntmps81
    go_wp2
    go_ret
    exact ⟨7, rfl, by decide, by decide, HV7.out, rfl⟩
  have HV8 : Hid (v < 256 ^ 8) := hv
  have q1 := n1 h1
  have q2 := n2 h2
  have q3 := n3 h3
  have q4 := n4 h4
  have q5 := n5 h5
  have q6 := n6 h6
  have q7 := n7 h7
  clear z1 n1 z2 n2 z3 n3 z4 n4 z5 n5 z6 n6 z7 n7
  go_enter Try.func81, Try.ntmps81
  go_wp2
  go_ret
  exact ⟨8, rfl, by decide, by decide, HV8.out, rfl⟩
set_option maxRecDepth 100000 in
theorem vlen32_ok (v : Nat) (w : World) (hv : v < 4294967296) :
    Calls Try.prog 76 #[.int .u32 v] w fun e w' => ∃ n : Nat, e = .returned (.int .i64 n) ∧ 1 ≤ n ∧ n ≤ 4 ∧ v < 256 ^ n ∧ w' = w := by
  obtain ⟨y1, m1, z1, n1⟩ := mk32 8 v 4294967040 (by decide) hv (by decide)
  obtain ⟨y2, m2, z2, n2⟩ := mk32 16 v 4294901760 (by decide) hv (by decide)
  obtain ⟨y3, m3, z3, n3⟩ := mk32 24 v 4278190080 (by decide) hv (by decide)
  by_cases h1 : v < 256
  · have HV1 : Hid (v < 256 ^ 1) := h1
    obtain rfl := z1 h1
    clear z1 n1 z2 n2 z3 n3
    clear m2
    clear m3
    go_enter Try.func76, Try.ntmps76
    go_wp2
    go_ret
    exact ⟨1, rfl, by decide, by decide, HV1.out, rfl⟩
  by_cases h2 : v < 65536
  · have HV2 : Hid (v < 256 ^ 2) := h2
    have q1 := n1 h1
    obtain rfl := z2 h2
    clear z1 n1 z2 n2 z3 n3
    clear m3
    go_enter Try.func76, Try.ntmps76
    go_wp2
    go_ret
    exact ⟨2, rfl, by decide, by decide, HV2.out, rfl⟩
  by_cases h3 : v < 16777216
  · have HV3 : Hid (v < 256 ^ 3) := h3
    have q1 := n1 h1
    have q2 := n2 h2
    obtain rfl := z3 h3
    clear z1 n1 z2 n2 z3 n3
    go_enter Try.func76, Try.ntmps76
    go_wp2
    go_ret
    exact ⟨3, rfl, by decide, by decide, HV3.out, rfl⟩
  have HV4 : Hid (v < 256 ^ 4) := hv
  have q1 := n1 h1
  have q2 := n2 h2
  have q3 := n3 h3
  clear z1 n1 z2 n2 z3 n3
  go_enter Try.func76, Try.ntmps76
  go_wp2
  go_ret
  exact ⟨4, rfl, by decide, by decide, HV4.out, rfl⟩
section
variable {P : Program} {ops : Array Oper} {rest : List Oper} {o : Oper} {a : Act} {w : World} {Q : Exit → Act → World → Prop}
/-- The tail of an array: 'x[i:]'. -/
theorem wp_arr_from (hgd : o.guard = none) {t e n : Nat} {x y : Operand} (ho : o.op = .slice t x (some y) none none) (hu : P.underlying t = some (.array n e)) (hs : (P.info? e).map (·.size) = some 1)
    {g h : Nat} (hx : a.eval x = .pointer (some ⟨g, 0, none⟩)) (hy : a.eval y = .int .i64 (h : Int)) (hh : h < n) (hk : wpList P ops Q rest (a.put o.dst (.slice (some ⟨g, h, none⟩) (n - h) (n - h))) w) : wpList P ops Q (o :: rest) a w := by
  refine wpList_plain hgd fun K hK => ?_
  cases hq : P.info? e with
  | none => simp [hq] at hs
  | some inf =>
    have hs1 : inf.size = 1 := by simpa [hq] using hs
    have h1 : ¬ n = h := by omega
    have h2 : h ≤ n := by omega
    unfold Oper.wp execOp
    simp [ho, hx, hy, Instr.sliceAt, Instr.sureAddr, run_underlying hu, Instr.sliceBounds, Instr.sliceBound, asIntOf, sizeOf, typeInfo, hq, Result.andThen, h1, h2, hs1, Addr.add]
    have e : (if h = 0 then (⟨g, 0, none⟩ : Addr) else ⟨g, h, none⟩) = ⟨g, h, none⟩ := by split <;> simp_all
    rw [e]
    exact hK _ _ hk
end
theorem splice_zero {α : Type} (m : List α) {z : α} (n : Nat) (h : m.length = n) : splice (List.replicate n z) 0 m = m := by simp [splice, h]
theorem numZ : ∀ k, num (List.replicate k (0 : UInt8)) = 0
  | 0 => rfl
  | k + 1 => by
    rw [List.replicate_succ', num_append, numZ k]
    rfl
theorem pad_num (m n : Nat) (bs : List UInt8) (hl : bs.length = n) (hn : n ≤ m) : splice (List.replicate m (.int .u8 0)) (m - n) (bvs bs) = bvs (List.replicate (m - n) 0 ++ bs) ∧ num (List.replicate (m - n) (0 : UInt8) ++ bs) = num bs := by
  constructor
  · rw [bvs_append, splice, bvs_length, hl, List.take_replicate, show min (m - n) m = m - n by omega, List.drop_of_length_le (by rw [List.length_replicate]; omega), List.append_nil]
    congr 1
    simp [bvs, bv]
  · rw [num_append, numZ, Nat.zero_mul, Nat.zero_add]
theorem arr4b : Arr Try.prog 119 4 (List.replicate 4 (.int .u8 0)) where
  und := ⟨_, Try.underlying119, rfl⟩
  size := by kernel_rfl
  zero := fun w => by kernel_rfl
  len := rfl
theorem arr8b : Arr Try.prog 121 8 (List.replicate 8 (.int .u8 0)) where
  und := ⟨_, Try.underlying121, rfl⟩
  size := by kernel_rfl
  zero := fun w => by kernel_rfl
  len := rfl
theorem arr16b : Arr Try.prog 120 16 (List.replicate 16 (.int .u8 0)) where
  und := ⟨_, Try.underlying120, rfl⟩
  size := by kernel_rfl
  zero := fun w => by kernel_rfl
  len := rfl
theorem getN32 (ad : Option Addr) (cap : Nat) (bs : List UInt8) (w : World) (hr : Rd w ad bs) (hl : bs.length = 4) : Calls Try.prog 71 #[.slice ad 4 cap] w fun e w' => e = .returned (.int .u32 (num bs)) ∧ w = w' := by
  have := ks_get32 ad cap bs w hr (by omega)
  rwa [List.take_of_length_le (by omega), hl] at this
theorem getN64 (ad : Option Addr) (cap : Nat) (bs : List UInt8) (w : World) (hr : Rd w ad bs) (hl : bs.length = 8) : Calls Try.prog 83 #[.slice ad 8 cap] w fun e w' => e = .returned (.int .u64 (num bs)) ∧ w = w' := by
  have := ks_get64 ad cap bs w hr (by omega)
  rwa [List.take_of_length_le (by omega), hl] at this
set_option maxRecDepth 100000 in
theorem appv64_ok (base : Nat) (v : Value) (xs : List UInt8) (d n : Nat) (w : World) (ho : OwnB w base 5 v xs) (hbs : base ≤ w.heap.size) (hd : d < 18446744073709551616) (h1 : 1 ≤ n) (hn : n ≤ 8) (hl : xs.length ≤ 100000) :
    Calls Try.prog 82 #[v, .int .u64 d, .int .i64 n] w fun e w' => ∃ v', e = .returned v' ∧ OwnB w' base 5 v' (xs ++ be n d) ∧ w.grownBy w' v.ownBlock := by
  have hb := Below.refl w.heap.size w
  have HE : Hid ((be 8 d).drop (8 - n) = be n d) := by
    show _ = _
    have := be_drop (8 - n) n d
    rwa [show 8 - n + n = 8 by omega] at this
  have HP := Lib.hid (splice_zero (z := Value.int .u8 0) (bvs (be 8 d)) 8 (by rw [bvs_length, be_length]))
  go_enter Try.func82, Try.ntmps82
  go_wp2_with (refine wp_alloc_blk arr8b hb rfl rfl rfl (Nat.le_refl _) ?_)
  intro w1 b1 g1 s1 hb1
  clear s1
  go_wp2_with (refine wp_store_blk arr8b hb1 rfl rfl rfl (cs := List.replicate 8 (.int .u8 0)) rfl b1 (Nat.le_refl _) rfl rfl (by decide) ?_)
  intro w2 b2 g2 s2 hb2
  clear s2
  go_wp2_with (go_at_call 88; refine (ks_put64 _ 0 _ _ d _ _ _ b2 (by decide) (by decide) (by decide)).mono ?_)
  rintro e w3 ⟨rfl, b3, g3, s3⟩
  clear s3
  replace b3 : Blk w3 w.heap.size (splice (List.replicate 8 (.int .u8 0)) 0 (bvs (be 8 d))) 121 := b3
  rw [HP.out] at b3
  have hb3 := hb2.grown g3 hb2.size (by rintro j ⟨⟩; exact Nat.le_refl _)
  have ho3 := own_kept ho hb3
  have r3 := (b3.rd (by rw [be_length]; decide)).part (8 - n) n (by rw [be_length]; omega) h1
  rw [HE.out, Option.map_some, Addr.add_mid, Nat.zero_add, List.take_of_length_le (by rw [be_length]; exact Nat.le_refl _)] at r3
  have hk : ((8 : Int) - n) = ((8 - n : Nat) : Int) := by omega
  have hkw : IntKind.i64.wrap ((8 - n : Nat) : Int) = ((8 - n : Nat) : Int) := by rw [IntKind.wrap_i64]; omega
  have hkn : 8 - (8 - n) = n := by omega
  obtain ⟨k, hke⟩ : ∃ k, k = 8 - n := ⟨_, rfl⟩
  have hklt : k < 8 := by omega
  rw [← hke] at r3 hk hkw hkn
  clear hke b2 b1 g1 g2 g3 hb2 hb1
  go_wp2_with (first | (refine wp_arr_from (h := k) rfl rfl Try.underlying121 (by kernel_rfl) rfl (by first | rfl | (show Value.int _ _ = _; rw [hk]; done) | (rw [hk]; rfl)) hklt ?_) | (at_builtin; refine wp_append_rd rfl rfl Try.underlying22 info5 rfl rfl rfl ho3 r3 (by rw [be_length, hkn]) (by rw [be_length]; omega) (Nat.le_trans hbs hb3.size) ?_))
  intro v' w4 ho4 g4
  go_wp2
  go_ret
  exact ⟨_, rfl, ho4, grown_trans (grown_below hb3 _) g4⟩
set_option maxRecDepth 100000 in
theorem appv32_ok (base : Nat) (v : Value) (xs : List UInt8) (d n : Nat) (w : World) (ho : OwnB w base 5 v xs) (hbs : base ≤ w.heap.size) (hd : d < 4294967296) (h1 : 1 ≤ n) (hn : n ≤ 4) (hl : xs.length ≤ 100000) :
    Calls Try.prog 77 #[v, .int .u32 d, .int .i64 n] w fun e w' => ∃ v', e = .returned v' ∧ OwnB w' base 5 v' (xs ++ be n d) ∧ w.grownBy w' v.ownBlock := by
  have hb := Below.refl w.heap.size w
  have HE : Hid ((be 4 d).drop (4 - n) = be n d) := by
    show _ = _
    have := be_drop (4 - n) n d
    rwa [show 4 - n + n = 4 by omega] at this
  have HP := Lib.hid (splice_zero (z := Value.int .u8 0) (bvs (be 4 d)) 4 (by rw [bvs_length, be_length]))
  go_enter Try.func77, Try.ntmps77
  go_wp2_with (refine wp_alloc_blk arr4b hb rfl rfl rfl (Nat.le_refl _) ?_)
  intro w1 b1 g1 s1 hb1
  clear s1
  go_wp2_with (refine wp_store_blk arr4b hb1 rfl rfl rfl (cs := List.replicate 4 (.int .u8 0)) rfl b1 (Nat.le_refl _) rfl rfl (by decide) ?_)
  intro w2 b2 g2 s2 hb2
  clear s2
  go_wp2_with (go_at_call 66; refine (ks_put32 _ 0 _ _ d _ _ _ b2 (by decide) (by decide) (by decide)).mono ?_)
  rintro e w3 ⟨rfl, b3, g3, s3⟩
  clear s3
  replace b3 : Blk w3 w.heap.size (splice (List.replicate 4 (.int .u8 0)) 0 (bvs (be 4 d))) 119 := b3
  rw [HP.out] at b3
  have hb3 := hb2.grown g3 hb2.size (by rintro j ⟨⟩; exact Nat.le_refl _)
  have ho3 := own_kept ho hb3
  have r3 := (b3.rd (by rw [be_length]; decide)).part (4 - n) n (by rw [be_length]; omega) h1
  rw [HE.out, Option.map_some, Addr.add_mid, Nat.zero_add, List.take_of_length_le (by rw [be_length]; exact Nat.le_refl _)] at r3
  have hk : ((4 : Int) - n) = ((4 - n : Nat) : Int) := by omega
  have hkw : IntKind.i64.wrap ((4 - n : Nat) : Int) = ((4 - n : Nat) : Int) := by rw [IntKind.wrap_i64]; omega
  have hkn : 4 - (4 - n) = n := by omega
  obtain ⟨k, hke⟩ : ∃ k, k = 4 - n := ⟨_, rfl⟩
  have hklt : k < 4 := by omega
  rw [← hke] at r3 hk hkw hkn
  clear hke b2 b1 g1 g2 g3 hb2 hb1
  go_wp2_with (first | (refine wp_arr_from (h := k) rfl rfl Try.underlying119 (by kernel_rfl) rfl (by first | rfl | (show Value.int _ _ = _; rw [hk]; done) | (rw [hk]; rfl)) hklt ?_) | (at_builtin; refine wp_append_rd rfl rfl Try.underlying22 info5 rfl rfl rfl ho3 r3 (by rw [be_length, hkn]) (by rw [be_length]; omega) (Nat.le_trans hbs hb3.size) ?_))
  intro v' w4 ho4 g4
  go_wp2
  go_ret
  exact ⟨_, rfl, ho4, grown_trans (grown_below hb3 _) g4⟩
set_option maxRecDepth 100000 in
theorem varint64_ok (a1 : Option Addr) (bs : List UInt8) (n c : Nat) (w : World) (h : Rd w a1 bs) (hl : bs.length = n) (h1 : 1 ≤ n) (hn : n ≤ 8) :
    Calls Try.prog 68 #[.slice a1 n c] w fun e w' => e = .returned (.int .u64 (num bs)) ∧ Below w.heap.size w w' := by
  have hb := Below.refl w.heap.size w
  have HP := Lib.hid (pad_num 8 n bs hl hn)
  have HL := Lib.hid hl
  have L8 := Lib.hid (show (List.replicate (8 - n) (0 : UInt8) ++ bs).length = 8 by rw [List.length_append, List.length_replicate, hl]; omega)
  have hk : ((8 : Int) - n) = ((8 - n : Nat) : Int) := by omega
  have hkw : IntKind.i64.wrap ((8 - n : Nat) : Int) = ((8 - n : Nat) : Int) := by rw [IntKind.wrap_i64]; omega
  have hkn : 8 - (8 - n) = n := by omega
  obtain ⟨k, hke⟩ : ∃ k, k = 8 - n := ⟨_, rfl⟩
  have hklt : k < 8 := by omega
  have hkf : k + n ≤ 8 := by omega
  rw [← hke] at HP L8 hk hkw hkn
  clear hke hl
  go_enter Try.func68, Try.ntmps68
  go_wp2_with (refine wp_alloc_blk arr8b hb rfl rfl rfl (Nat.le_refl _) ?_)
  intro w1 b1 g1 s1 hb1
  clear s1
  go_wp2_with (refine wp_store_blk arr8b hb1 rfl rfl rfl (cs := List.replicate 8 (.int .u8 0)) rfl b1 (Nat.le_refl _) rfl rfl (by decide) ?_)
  intro w2 b2 g2 s2 hb2
  clear s2
  have r2 := h.kept hb2
  go_wp2_with (first | (refine wp_arr_from (h := k) rfl rfl Try.underlying121 (by kernel_rfl) rfl (by first | rfl | (show Value.int _ _ = _; rw [hk]; done) | (rw [hk]; rfl)) hklt ?_; rw [hkn]) | (refine wp_copy_mid (n := n) hb2 rfl rfl Try.underlying22 (by kernel_rfl) rfl rfl b2 bs r2 (Nat.le_refl _) hkf HL.out h1 ?_))
  intro w3 b3 g3 hb3
  replace b3 : Blk w3 w.heap.size (splice (List.replicate 8 (.int .u8 0)) k (bvs bs)) 121 := b3
  rw [HP.out.1] at b3
  have r3 := b3.rd (by rw [L8.out]; decide)
  go_wp2_with (go_at_call 83; refine (getN64 _ 8 _ _ r3 L8.out).mono ?_)
  rintro e w4 ⟨rfl, rfl⟩
  rw [HP.out.2]
  go_wp2
  go_ret
  exact ⟨rfl, hb3⟩
set_option maxRecDepth 100000 in
theorem varint32_ok (a1 : Option Addr) (bs : List UInt8) (n c : Nat) (w : World) (h : Rd w a1 bs) (hl : bs.length = n) (h1 : 1 ≤ n) (hn : n ≤ 4) :
    Calls Try.prog 65 #[.slice a1 n c] w fun e w' => e = .returned (.int .u32 (num bs)) ∧ Below w.heap.size w w' := by
  have hb := Below.refl w.heap.size w
  have HP := Lib.hid (pad_num 4 n bs hl hn)
  have HL := Lib.hid hl
  have L8 := Lib.hid (show (List.replicate (4 - n) (0 : UInt8) ++ bs).length = 4 by rw [List.length_append, List.length_replicate, hl]; omega)
  have hk : ((4 : Int) - n) = ((4 - n : Nat) : Int) := by omega
  have hkw : IntKind.i64.wrap ((4 - n : Nat) : Int) = ((4 - n : Nat) : Int) := by rw [IntKind.wrap_i64]; omega
  have hkn : 4 - (4 - n) = n := by omega
  obtain ⟨k, hke⟩ : ∃ k, k = 4 - n := ⟨_, rfl⟩
  have hklt : k < 4 := by omega
  have hkf : k + n ≤ 4 := by omega
  rw [← hke] at HP L8 hk hkw hkn
  clear hke hl
  go_enter Try.func65, Try.ntmps65
  go_wp2_with (refine wp_alloc_blk arr4b hb rfl rfl rfl (Nat.le_refl _) ?_)
  intro w1 b1 g1 s1 hb1
  clear s1
  go_wp2_with (refine wp_store_blk arr4b hb1 rfl rfl rfl (cs := List.replicate 4 (.int .u8 0)) rfl b1 (Nat.le_refl _) rfl rfl (by decide) ?_)
  intro w2 b2 g2 s2 hb2
  clear s2
  have r2 := h.kept hb2
  go_wp2_with (first | (refine wp_arr_from (h := k) rfl rfl Try.underlying119 (by kernel_rfl) rfl (by first | rfl | (show Value.int _ _ = _; rw [hk]; done) | (rw [hk]; rfl)) hklt ?_; rw [hkn]) | (refine wp_copy_mid (n := n) hb2 rfl rfl Try.underlying22 (by kernel_rfl) rfl rfl b2 bs r2 (Nat.le_refl _) hkf HL.out h1 ?_))
  intro w3 b3 g3 hb3
  replace b3 : Blk w3 w.heap.size (splice (List.replicate 4 (.int .u8 0)) k (bvs bs)) 119 := b3
  rw [HP.out.1] at b3
  have r3 := b3.rd (by rw [L8.out]; decide)
  go_wp2_with (go_at_call 71; refine (getN32 _ 4 _ _ r3 L8.out).mono ?_)
  rintro e w4 ⟨rfl, rfl⟩
  rw [HP.out.2]
  go_wp2
  go_ret
  exact ⟨rfl, hb3⟩
end Go.Proofs.Ytbacbgicfomkbaa
