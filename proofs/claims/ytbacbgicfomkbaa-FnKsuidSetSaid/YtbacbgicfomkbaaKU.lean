/- Contracts of package ksuid's uint128, by its number. -/
import Derived.Test.YtbacbgicfomkbaaKVar
namespace Go.Proofs.Ytbacbgicfomkbaa
open Go.RowKit
set_option linter.unusedVariables false
set_option linter.unusedSimpArgs false
/-- A number of 128 bits. -/
def uN (v : Nat) : List Value := u128 (v % 18446744073709551616) (v / 18446744073709551616)
theorem uN_one (v : Nat) : ∀ u ∈ uN v, u.oneCell' = true := u128_one _ _
theorem hi_lt (v : Nat) (h : v < 340282366920938463463374607431768211456) : v / 18446744073709551616 < 18446744073709551616 := by omega
theorem lo_lt (v : Nat) : v % 18446744073709551616 < 18446744073709551616 := Nat.mod_lt _ (by decide)
theorem uN_mk (lo hi v : Nat) (h : hi * 18446744073709551616 + lo = v) (hl : lo < 18446744073709551616) : u128 lo hi = uN v := by
  unfold uN
  rw [show v % 18446744073709551616 = lo by omega, show v / 18446744073709551616 = hi by omega]
theorem payloadN_ok (x : List UInt8) (w : World) (hx : x.length = 20) :
    Calls Try.prog 60 #[.agg (bvs x).toArray] w fun e w' => e = .returned (.agg (uN (vOf x)).toArray) ∧ Below w.heap.size w w' := by
  have h := uint128Payload_ok x w hx
  rw [(vOf_parts x hx).1, (vOf_parts x hx).2] at h
  exact h
theorem ksuidN_ok (v t : Nat) (w : World) (hv : v < 340282366920938463463374607431768211456) (ht : t < 4294967296) :
    Calls Try.prog 62 #[.agg (uN v).toArray, .int .u32 t] w fun e w' => e = .returned (.agg (bvs (kid t v)).toArray) ∧ Below w.heap.size w w' := by
  have h := u128ksuid_ok (v % 18446744073709551616) (v / 18446744073709551616) t w (lo_lt v) (hi_lt v hv) ht
  rw [be8_mod, ← be16_split] at h
  exact h
theorem oneN_ok (w : World) : Calls Try.prog 59 #[.int .u64 0, .int .u64 1] w fun e w' => e = .returned (.agg (uN 1).toArray) ∧ Below w.heap.size w w' := makeUint128_ok 0 1 w
theorem subN_ok (a b : Nat) (w : World) (ha : a < 340282366920938463463374607431768211456) (h : b ≤ a) :
    Calls Try.prog 69 #[.agg (uN a).toArray, .agg (uN b).toArray] w fun e w' => e = .returned (.agg (uN (a - b)).toArray) ∧ Below w.heap.size w w' := by
  have hs := sub128_ok (a % 18446744073709551616) (a / 18446744073709551616) (b % 18446744073709551616) (b / 18446744073709551616) w (lo_lt a) (hi_lt a ha) (lo_lt b) (hi_lt b (by omega))
  have e : u128 ((a % 18446744073709551616 + 18446744073709551616 - b % 18446744073709551616) % 18446744073709551616) ((a / 18446744073709551616 + 18446744073709551616 - b / 18446744073709551616 - (if a % 18446744073709551616 < b % 18446744073709551616 then 1 else 0)) % 18446744073709551616) = uN (a - b) := by
    apply uN_mk
    · split <;> omega
    · exact Nat.mod_lt _ (by decide)
  rw [e] at hs
  exact hs
theorem addN_ok (a b : Nat) (w : World) (h : a + b < 340282366920938463463374607431768211456) :
    Calls Try.prog 61 #[.agg (uN a).toArray, .agg (uN b).toArray] w fun e w' => e = .returned (.agg (uN (a + b)).toArray) ∧ Below w.heap.size w w' := by
  have hs := add128_ok (a % 18446744073709551616) (a / 18446744073709551616) (b % 18446744073709551616) (b / 18446744073709551616) w (lo_lt a) (hi_lt a (by omega)) (lo_lt b) (hi_lt b (by omega))
  have e : u128 ((a % 18446744073709551616 + b % 18446744073709551616) % 18446744073709551616) ((a / 18446744073709551616 + b / 18446744073709551616 + (a % 18446744073709551616 + b % 18446744073709551616) / 18446744073709551616) % 18446744073709551616) = uN (a + b) := by
    apply uN_mk
    · omega
    · exact Nat.mod_lt _ (by decide)
  rw [e] at hs
  exact hs
theorem eqN (a b : Nat) (w : World) : (Op.equalIn 10000 77 (.agg (uN a).toArray) (.agg (uN b).toArray)).run Try.prog w = .ok (decide (a = b)) w := by
  have h := eq_u128 (a % 18446744073709551616) (a / 18446744073709551616) (b % 18446744073709551616) (b / 18446744073709551616) w
  have e : ((((a % 18446744073709551616 : Nat) : Int) == ((b % 18446744073709551616 : Nat) : Int)) && (((a / 18446744073709551616 : Nat) : Int) == ((b / 18446744073709551616 : Nat) : Int))) = decide (a = b) := by
    rw [Bool.eq_iff_iff, Bool.and_eq_true, beq_iff_eq, beq_iff_eq, decide_eq_true_iff]
    omega
  rw [e] at h
  exact h
set_option maxRecDepth 100000 in
theorem incrN_ok (a : Nat) (w : World) (h : a + 1 < 340282366920938463463374607431768211456) :
    Calls Try.prog 64 #[.agg (uN a).toArray] w fun e w' => e = .returned (.agg (uN (a + 1)).toArray) ∧ Below w.heap.size w w' := by
  have hb := Below.refl w.heap.size w
  go_enter Try.func64, Try.ntmps64
  go_wp2_with (refine wp_box_blk u128Arr hb rfl rfl rfl rfl (Nat.le_refl _) ?_)
  intro w1 b1 g1 s1 hb1
  clear s1
  go_wp2_with (refine wp_alloc_blk u128Arr hb1 rfl rfl rfl hb1.size ?_)
  intro w2 b2 g2 s2 hb2
  clear s2
  have p1 := b1.grown g2 (by simp)
  have hs1 : w.heap.size ≤ w1.heap.size := hb1.size
  have HA : Hid (Calls Try.prog 61 #[.agg (uN a).toArray, .agg #[.int .u64 1, .int .u64 0]] w2 fun e w' => e = .returned (.agg (uN (a + 1)).toArray) ∧ Below w2.heap.size w2 w') := Lib.hid (addN_ok a 1 w2 h)
  go_wp2_with (first | (refine wp_load_blk u128Arr rfl rfl rfl p1 rfl ?_) | (go_at_call 61; refine HA.out.mono ?_))
  rintro e w3 ⟨rfl, hb3⟩
  have b3 := b2.kept hb3
  have hbw := hb2.trans (hb3.mono hb2.size)
  go_wp2_with (refine wp_store_blk u128Arr hbw rfl rfl rfl rfl b3 hs1 rfl rfl (uN_one _) ?_)
  intro w4 b4 g4 s4 hb4
  clear s4
  go_wp2
  exact ret_cell u128Arr rfl rfl rfl b4 rfl ⟨rfl, hb4⟩
/-- The cells that the code writes. -/
def cells16 (hi lo : Nat) : List Value :=
  [.int .u8 ((hi : Int) / 72057594037927936), .int .u8 ((hi : Int) / 281474976710656 % 256), .int .u8 ((hi : Int) / 1099511627776 % 256), .int .u8 ((hi : Int) / 4294967296 % 256), .int .u8 ((hi : Int) / 16777216 % 256), .int .u8 ((hi : Int) / 65536 % 256), .int .u8 ((hi : Int) / 256 % 256), .int .u8 ((hi : Int) % 256),
   .int .u8 ((lo : Int) / 72057594037927936), .int .u8 ((lo : Int) / 281474976710656 % 256), .int .u8 ((lo : Int) / 1099511627776 % 256), .int .u8 ((lo : Int) / 4294967296 % 256), .int .u8 ((lo : Int) / 16777216 % 256), .int .u8 ((lo : Int) / 65536 % 256), .int .u8 ((lo : Int) / 256 % 256), .int .u8 ((lo : Int) % 256)]
theorem cells16_eq (hi lo : Nat) (hh : hi < 18446744073709551616) (hl : lo < 18446744073709551616) : cells16 hi lo = bvs (be 8 hi ++ be 8 lo) := by
  rw [bvs_append, be8_cells, be8_cells]
  simp only [cells16, List.cons_append, List.nil_append, List.cons.injEq, Value.int.injEq, true_and, and_true]
  refine ⟨?_, ?_, ?_, ?_, ?_, ?_, ?_, ?_, ?_, ?_, ?_, ?_, ?_, ?_, ?_, ?_⟩ <;> omega
set_option maxRecDepth 100000 in
theorem bytesL_ok (lo hi : Nat) (w : World) (hlo : lo < 18446744073709551616) (hhi : hi < 18446744073709551616) :
    Calls Try.prog 87 #[.agg (u128 lo hi).toArray] w fun e w' => e = .returned (.agg (bvs (be 8 hi ++ be 8 lo)).toArray) ∧ Below w.heap.size w w' := by
  have hb := Below.refl w.heap.size w
  have HC := Lib.hid (cells16_eq hi lo hhi hlo)
  have L16 := Lib.hid (show (bvs (be 8 hi ++ be 8 lo)).length = 16 by simp [bvs_length, be_length])
  go_enter Try.func87, Try.ntmps87
  go_wp2_with (refine wp_box_blk u128Arr hb rfl rfl rfl rfl (Nat.le_refl _) ?_)
  intro w1 b1 g1 s1 hb1
  clear s1
  go_wp2_with (refine wp_alloc_blk arr16b hb1 rfl rfl rfl hb1.size ?_)
  intro w2 b2 g2 s2 hb2
  clear s2
  have p1 := b1.grown g2 (by simp)
  have c0 := p1.cell 0
  have c1 := p1.cell 1
  simp only [u128, List.getElem?_cons_zero, List.getElem?_cons_succ] at c0 c1
  have hs1 : w.heap.size ≤ w1.heap.size := hb1.size
  go_wp2_with (refine wp_store_blk arr16b hb2 rfl rfl rfl (cs := cells16 hi lo) rfl b2 hs1 rfl rfl (by rw [HC.out]; exact bvs_one _) ?_)
  intro w3 b3 g3 s3 hb3
  clear s3
  rw [HC.out] at b3
  go_wp2
  exact ret_cell arr16b rfl rfl rfl b3 L16.out ⟨rfl, hb3⟩
theorem bytesN_ok (v : Nat) (w : World) (hv : v < 340282366920938463463374607431768211456) :
    Calls Try.prog 87 #[.agg (uN v).toArray] w fun e w' => e = .returned (.agg (bvs (be 16 v)).toArray) ∧ Below w.heap.size w w' := by
  have h := bytesL_ok (v % 18446744073709551616) (v / 18446744073709551616) w (lo_lt v) (hi_lt v hv)
  rw [be8_mod, ← be16_split] at h
  exact h
set_option maxRecDepth 100000 in
theorem vlen128_ok (v : Nat) (w : World) (hv : v < 340282366920938463463374607431768211456) :
    Calls Try.prog 78 #[.agg (uN v).toArray] w fun e w' => ∃ n : Nat, e = .returned (.int .i64 n) ∧ 1 ≤ n ∧ n ≤ 16 ∧ v < 256 ^ n ∧ Below w.heap.size w w' := by
  have hb := Below.refl w.heap.size w
  obtain ⟨lo, hlo⟩ : ∃ lo, lo = v % 18446744073709551616 := ⟨_, rfl⟩
  obtain ⟨hi, hhi⟩ : ∃ hi, hi = v / 18446744073709551616 := ⟨_, rfl⟩
  have l1 : lo < 18446744073709551616 := by omega
  have l2 : hi < 18446744073709551616 := by omega
  have HV : Hid (v = hi * 18446744073709551616 + lo) := Lib.hid (by omega)
  unfold uN
  rw [← hlo, ← hhi]
  clear hlo hhi hv
  by_cases h0 : hi = 0
  · subst h0
    go_enter Try.func78, Try.ntmps78
    go_wp2_with (refine wp_box_blk u128Arr hb rfl rfl rfl rfl (Nat.le_refl _) ?_)
    intro w1 b1 g1 s1 hb1
    clear s1
    have c0 := b1.cell 0
    have c1 := b1.cell 1
    simp only [u128, List.getElem?_cons_zero, List.getElem?_cons_succ] at c0 c1
    go_wp2_with (go_at_call 81; refine (vlen64_ok lo _ l1).mono ?_)
    rintro e w2 ⟨n, rfl, h1, h8, hn, rfl⟩
    have HN : Hid (1 ≤ n ∧ n ≤ 16 ∧ v < 256 ^ n) := ⟨h1, by omega, by rw [HV.out]; omega⟩
    clear h1 h8 hn
    go_wp2
    go_ret
    exact ⟨n, rfl, HN.out.1, HN.out.2.1, HN.out.2.2, hb1⟩
  · have hne : ((hi : Int) != 0) = true := by rw [bne_iff_ne]; omega
    clear h0
    go_enter Try.func78, Try.ntmps78
    go_wp2_with (refine wp_box_blk u128Arr hb rfl rfl rfl rfl (Nat.le_refl _) ?_)
    intro w1 b1 g1 s1 hb1
    clear s1
    have c0 := b1.cell 0
    have c1 := b1.cell 1
    simp only [u128, List.getElem?_cons_zero, List.getElem?_cons_succ] at c0 c1
    go_wp2_with (go_at_call 81; refine (vlen64_ok hi _ l2).mono ?_)
    rintro e w2 ⟨n, rfl, h1, h8, hn, rfl⟩
    have hw : IntKind.i64.wrap ((8 : Int) + n) = ((8 + n : Nat) : Int) := by rw [IntKind.wrap_i64]; omega
    have HN : Hid (1 ≤ 8 + n ∧ 8 + n ≤ 16 ∧ v < 256 ^ (8 + n)) := ⟨by omega, by omega, by
      rw [HV.out, Nat.pow_add, show (256 : Nat) ^ 8 = 18446744073709551616 by decide]
      have := Nat.mul_le_mul_left 18446744073709551616 (show hi + 1 ≤ 256 ^ n from hn)
      omega⟩
    clear h1 h8 hn
    go_wp2
    go_ret
    exact ⟨8 + n, by first | rfl | (congr 2; omega) | (rw [hw]), HN.out.1, HN.out.2.1, HN.out.2.2, hb1⟩
set_option maxRecDepth 100000 in
theorem appv128_ok (base : Nat) (v : Value) (xs : List UInt8) (d n : Nat) (w : World) (ho : OwnB w base 5 v xs) (hbs : base ≤ w.heap.size) (hd : d < 340282366920938463463374607431768211456) (h1 : 1 ≤ n) (hn : n ≤ 16) (hl : xs.length ≤ 100000) :
    Calls Try.prog 79 #[v, .agg (uN d).toArray, .int .i64 n] w fun e w' => ∃ v', e = .returned v' ∧ OwnB w' base 5 v' (xs ++ be n d) ∧ w.grownBy w' v.ownBlock := by
  have hb := Below.refl w.heap.size w
  have HE : Hid ((be 16 d).drop (16 - n) = be n d) := by
    show _ = _
    have := be_drop (16 - n) n d
    rwa [show 16 - n + n = 16 by omega] at this
  have L16 := Lib.hid (show (bvs (be 16 d)).length = 16 by rw [bvs_length, be_length])
  have HD := Lib.hid hd
  clear hd
  go_enter Try.func79, Try.ntmps79
  go_wp2_with (refine wp_box_blk u128Arr hb rfl rfl rfl rfl (Nat.le_refl _) ?_)
  intro w1 b1 g1 s1 hb1
  clear s1
  go_wp2_with (first | (refine wp_load_blk u128Arr rfl rfl rfl b1 rfl ?_) | (go_at_call 87; refine (bytesN_ok d _ HD.out).mono ?_))
  rintro e w2 ⟨rfl, hb2⟩
  have hbw2 := hb1.trans (hb2.mono hb1.size)
  go_wp2_with (refine wp_alloc_blk arr16b hbw2 rfl rfl rfl hbw2.size ?_)
  intro w3 b3 g3 s3 hb3
  clear s3
  go_wp2_with (refine wp_store_blk arr16b hb3 rfl rfl rfl rfl b3 hbw2.size rfl L16.out (bvs_one _) ?_)
  intro w4 b4 g4 s4 hb4
  clear s4
  have ho4 := own_kept ho hb4
  have r4 := (b4.rd (by rw [be_length]; decide)).part (16 - n) n (by rw [be_length]; omega) h1
  rw [HE.out, Option.map_some, Addr.add_mid, Nat.zero_add, List.take_of_length_le (by rw [be_length]; exact Nat.le_refl _)] at r4
  have hk : ((16 : Int) - n) = ((16 - n : Nat) : Int) := by omega
  have hkw : IntKind.i64.wrap ((16 - n : Nat) : Int) = ((16 - n : Nat) : Int) := by rw [IntKind.wrap_i64]; omega
  have hkn : 16 - (16 - n) = n := by omega
  obtain ⟨k, hke⟩ : ∃ k, k = 16 - n := ⟨_, rfl⟩
  have hklt : k < 16 := by omega
  rw [← hke] at r4 hk hkw hkn
  clear hke b3 b1 g1 g3 g4 hb3 hb2 hbw2 hb1
  generalize w2.heap.size = gq at *
  go_wp2_with (first | (refine wp_arr_from (h := k) rfl rfl Try.underlying120 (by kernel_rfl) rfl (by first | rfl | (show Value.int _ _ = _; rw [hk]; done) | (rw [hk]; rfl)) hklt ?_) | (at_builtin; refine wp_append_rd rfl rfl Try.underlying22 info5 rfl rfl rfl ho4 r4 (by rw [be_length, hkn]) (by rw [be_length]; omega) (Nat.le_trans hbs hb4.size) ?_))
  intro v' w5 ho5 g5
  go_wp2
  go_ret
  exact ⟨_, rfl, ho5, grown_trans (grown_below hb4 _) g5⟩
set_option maxRecDepth 100000 in
theorem varint128_ok (a1 : Option Addr) (bs : List UInt8) (n c : Nat) (w : World) (h : Rd w a1 bs) (hl : bs.length = n) (h1 : 1 ≤ n) (hn : n ≤ 16) :
    Calls Try.prog 67 #[.slice a1 n c] w fun e w' => e = .returned (.agg (uN (num bs)).toArray) ∧ Below w.heap.size w w' := by
  have hb := Below.refl w.heap.size w
  have HP := Lib.hid (pad_num 16 n bs hl hn)
  have HL := Lib.hid hl
  have L16 := Lib.hid (show (List.replicate (16 - n) (0 : UInt8) ++ bs).length = 16 by rw [List.length_append, List.length_replicate, hl]; omega)
  have hk : ((16 : Int) - n) = ((16 - n : Nat) : Int) := by omega
  have hkw : IntKind.i64.wrap ((16 - n : Nat) : Int) = ((16 - n : Nat) : Int) := by rw [IntKind.wrap_i64]; omega
  have hkn : 16 - (16 - n) = n := by omega
  obtain ⟨k, hke⟩ : ∃ k, k = 16 - n := ⟨_, rfl⟩
  have hklt : k < 16 := by omega
  have hkf : k + n ≤ 16 := by omega
  rw [← hke] at HP L16 hk hkw hkn
  have HU : Hid (u128 (num ((List.replicate k (0 : UInt8) ++ bs).drop 8)) (num ((List.replicate k (0 : UInt8) ++ bs).take 8)) = uN (num bs)) := by
    show _ = _
    have e := num_append ((List.replicate k (0 : UInt8) ++ bs).take 8) ((List.replicate k (0 : UInt8) ++ bs).drop 8)
    have l := num_lt ((List.replicate k (0 : UInt8) ++ bs).drop 8)
    rw [List.take_append_drop, HP.out.2, List.length_drop, L16.out, show (256 : Nat) ^ (16 - 8) = 18446744073709551616 by decide] at e
    rw [List.length_drop, L16.out, show (256 : Nat) ^ (16 - 8) = 18446744073709551616 by decide] at l
    exact uN_mk _ _ _ e.symm l
  clear hke hl
  go_enter Try.func67, Try.ntmps67
  go_wp2_with (refine wp_alloc_blk u128Arr hb rfl rfl rfl (Nat.le_refl _) ?_)
  intro w0 b0 g0 s0 hb0
  clear s0
  go_wp2_with (refine wp_alloc_blk arr16b hb0 rfl rfl rfl hb0.size ?_)
  intro w1 b1 g1 s1 hb1
  clear s1
  go_wp2_with (refine wp_store_blk arr16b hb1 rfl rfl rfl (cs := List.replicate 16 (.int .u8 0)) rfl b1 hb0.size rfl rfl (by decide) ?_)
  intro w2 b2 g2 s2 hb2
  clear s2
  have q1 : w.heap.size < w0.heap.size := b0.lt
  have b02 := (b0.grown g1 (by simp)).grown g2 (by intro e; have := Option.some.inj e; omega)
  have r2 := h.kept hb2
  have hs0 : w.heap.size ≤ w0.heap.size := hb0.size
  generalize w0.heap.size = ga at *
  go_wp2_with (first | (refine wp_arr_from (h := k) rfl rfl Try.underlying120 (by kernel_rfl) rfl (by first | rfl | (show Value.int _ _ = _; rw [hk]; done) | (rw [hk]; rfl)) hklt ?_; rw [hkn]) | (refine wp_copy_mid (n := n) hb2 rfl rfl Try.underlying22 (by kernel_rfl) rfl rfl b2 bs r2 hs0 hkf HL.out h1 ?_))
  intro w3 b3 g3 hb3
  replace b3 : Blk w3 ga (splice (List.replicate 16 (.int .u8 0)) k (bvs bs)) 120 := b3
  rw [HP.out.1] at b3
  have b03 := b02.grown g3 (by intro e; have := Option.some.inj e; omega)
  have r3 := b3.rd (by rw [L16.out]; decide)
  go_wp2_with (go_at_call 75; refine (fromPayload_ok _ _ _ _ r3 L16.out).mono ?_)
  rintro e w4 ⟨rfl, hb4⟩
  rw [HU.out]
  have b4 := b03.kept hb4
  have hbw4 := hb3.trans (hb4.mono hb3.size)
  go_wp2_with (refine wp_store_blk u128Arr hbw4 rfl rfl rfl rfl b4 (Nat.le_refl _) rfl rfl (uN_one _) ?_)
  intro w5 b5 g5 s5 hb5
  clear s5
  go_wp2
  exact ret_cell u128Arr rfl rfl rfl b5 rfl ⟨rfl, hb5⟩
end Go.Proofs.Ytbacbgicfomkbaa
