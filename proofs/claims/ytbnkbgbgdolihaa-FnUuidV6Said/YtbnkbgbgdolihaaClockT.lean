/- Contracts: the time of a clock, for UUIDs of version 1 and 6. -/
import Derived.Test.YtbnkbgbgdolihaaUTime
import Derived.Test.YtbnkbgbgdolihaaHex
namespace Go.Proofs.Ytbnkbgbgdolihaa
open Go.RowKit
set_option linter.unusedVariables false
/-- The sequence with which a clock begins. -/
def seq0 (r0 r1 : UInt8) : Nat := (r0.toNat * 256 + r1.toNat) % 16384
set_option maxRecDepth 100000 in
set_option maxHeartbeats 1600000 in
theorem setSeq_ok (gk t lt l7 : Nat) (r0 r1 n0 n1 n2 n3 n4 n5 : UInt8) (w : World) (hk : Blk w gk (clockC t [r0, r1] [n0, n1, n2, n3, n4, n5] lt 0 l7) 79) :
    Calls Try.prog 64 #[.pointer (some ⟨gk, 0, none⟩), .int .i64 (-1)] w fun e w' => e = .returned (.tuple #[]) ∧ Blk w' gk (clockC t [r0, r1] [n0, n1, n2, n3, n4, n5] 0 (seq0 r0 r1 + 32768) l7) 79 ∧ w.grownBy w' (some gk) := by
  have hb := Below.refl w.heap.size w
  have hgk := hk.lt
  have hr0 := r0.toNat_lt
  have hr1 := r1.toNat_lt
  obtain ⟨a, ha⟩ : ∃ a, r0.toNat = a := ⟨_, rfl⟩
  obtain ⟨b, hb'⟩ : ∃ b, r1.toNat = b := ⟨_, rfl⟩
  obtain ⟨s, hs⟩ : ∃ s, seq0 r0 r1 = s := ⟨_, rfl⟩
  have hs' : (a * 256 + b) % 16384 = s := by rw [← hs, seq0, ha, hb']
  rw [hs]
  have f1 : bits .or .i64 ((a : Int) * 256) (b : Int) = ((a * 256 + b : Nat) : Int) := by
    have := i64_or_nat (a * 256) b (by omega) (by omega)
    rw [nat_join 8 (a * 256) b (by omega) (by omega)] at this
    rw [← this]; simp
  have f2 : bits .and .i64 ((a * 256 + b : Nat) : Int) 16383 = (s : Int) := by
    have := i64_and_nat (a * 256 + b) 16383 (by omega) (by decide)
    rw [show (a * 256 + b) &&& 16383 = (a * 256 + b) % 16384 from Nat.and_two_pow_sub_one_eq_mod _ 14, hs'] at this
    exact this
  have hsl : s < 16384 := by omega
  have f3 : bits .or .u16 (s : Int) 32768 = ((s + 32768 : Nat) : Int) := by
    have := u16_or_nat s 32768 (by omega) (by decide)
    rw [Nat.or_comm, nat_join 15 32768 s (by decide) (by omega), Nat.add_comm] at this
    exact this
  generalize hv : a * 256 + b = v at *
  generalize hq : s + 32768 = q at *
  have hqn : ¬ (0 : Int) = (q : Int) := by omega
  have hal : a < 256 := by omega
  have hbl : b < 256 := by omega
  have HA := Lib.hid ha
  have HB := Lib.hid hb'
  clear ha hb' hs hs' hv
  go_enter Try.func64, Try.ntmps64
  go_wp2_with (first | (refine wp_load_part arr2 rfl rfl rfl hk (mid := bvs [r0, r1]) rfl rfl ?_) | (refine wp_alloc_blk arr2 hb rfl rfl rfl (Nat.le_refl _) ?_))
  intro w1 b1 g1 s1 hb1
  clear s1
  have k1 := hk.kept hb1
  go_wp2_with (refine wp_store_blk arr2 hb1 rfl rfl rfl (cs := bvs [r0, r1]) rfl b1 (Nat.le_refl _) rfl rfl (bvs_one _) ?_)
  intro w2 b2 g2 s2 hb2
  clear s2
  have k2 := k1.grown g2 (by intro e; have := Option.some.inj e; omega)
  have c0 := b2.cell 0
  have c1 := b2.cell 1
  simp only [bvs, bv, List.map_cons, List.map_nil, List.getElem?_cons_zero, List.getElem?_cons_succ, HA.out, HB.out] at c0 c1
  have ck := (k2.cell 10).trans (clock_10 t lt 0 l7 [r0, r1] [n0, n1, n2, n3, n4, n5] rfl rfl)
  have hne : ((0 : Int) != (q : Int)) = true := by rw [bne_iff_ne]; omega
  go_wp2_with (refine wp_store_cell (i := 10) rfl rfl (by kernel_rfl) rfl rfl rfl k2 (by rw [clock_len _ _ _ _ _ _ rfl rfl]; decide) ?_)
  intro w3 k3 g3 s3
  clear s3
  rw [clock_set10 _ _ _ _ _ _ _ rfl rfl] at k3
  have ck3 := (k3.cell 10).trans (clock_10 t lt q l7 [r0, r1] [n0, n1, n2, n3, n4, n5] rfl rfl)
  clear ck
  go_wp2_with (refine wp_store_cell (i := 9) rfl rfl (by kernel_rfl) rfl rfl rfl k3 (by rw [clock_len _ _ _ _ _ _ rfl rfl]; decide) ?_)
  intro w4 k4 g4 s4
  clear s4
  have e4 := clock_set9 t lt q l7 0 [r0, r1] [n0, n1, n2, n3, n4, n5] rfl rfl
  have k4' : Blk w4 gk (clockC t [r0, r1] [n0, n1, n2, n3, n4, n5] 0 q l7) 79 := by rw [← e4]; exact k4
  have G2 : w.grownBy w2 (some gk) := grown_new (grown_none (grown_new (World.grownBy.refl w none) (grown_trans (grown_none g1 (some w.heap.size)) g2) (Nat.le_refl _)) _) (World.grownBy.refl w2 _) (Nat.le_refl _)
  go_wp2
  go_end0
  exact ⟨rfl, k4', grown_trans (grown_trans G2 g3) g4⟩
theorem Blk.rdPart {w : World} {g off n : Nat} {cs : List Value} {t : TypeId} {bs : List UInt8} (h : Blk w g cs t) (hm : (cs.drop off).take n = bvs bs) (hn : bs.length = n) (hl : n ≤ 1000) : Rd w (some ⟨g, off, none⟩) bs := by
  refine ⟨by omega, .inr ⟨g, off, rfl, fun i hi => ?_⟩⟩
  rw [h.cell, ← bvs_get bs i hi, ← hm, List.getElem?_take, List.getElem?_drop, if_pos (by omega)]
/-- The bytes of a UUID of version 1. -/
def v1L (now q : Nat) (nd : List UInt8) : List UInt8 := be 4 (now % 4294967296) ++ be 2 (now / 4294967296 % 65536) ++ be 2 (now / 281474976710656 % 4096 + 4096) ++ be 2 q ++ nd
theorem v1L_length (now q : Nat) (nd : List UInt8) (h : nd.length = 6) : (v1L now q nd).length = 16 := by simp [v1L, be_length, h]
set_option maxRecDepth 100000 in
set_option maxHeartbeats 1600000 in
theorem newUUID_ok (gk now q : Nat) (nd : List UInt8) (C C' : List Value) (tC : TypeId) (w : World) (hk : Blk w gk C tC) (hnode : (C'.drop 3).take 6 = bvs nd) (hnd : nd.length = 6) (hnow : now < 1000000000000000000) (hq : q < 65536)
    (hG : ∀ w1, Blk w1 gk C tC → Calls Try.prog 49 #[.pointer (some ⟨gk, 0, none⟩)] w1 fun e w' => e = .returned (.tuple #[.int .i64 now, .int .u16 q, .nilIface]) ∧ Blk w' gk C' tC ∧ w1.grownBy w' (some gk)) :
    Calls Try.prog 35 #[.pointer (some ⟨gk, 0, none⟩)] w fun e w' => e = .returned (.tuple #[.agg (bvs (v1L now q nd)).toArray, .nilIface]) ∧ Blk w' gk C' tC ∧ w.grownBy w' (some gk) := by
  have hb := Below.refl w.heap.size w
  have hgk := hk.lt
  have LV := Lib.hid (show (bvs (v1L now q nd)).length = 16 by rw [bvs_length, v1L_length _ _ _ hnd])
  obtain ⟨lo, hlo⟩ : ∃ a, now % 4294967296 = a := ⟨_, rfl⟩
  obtain ⟨mi, hmi⟩ : ∃ a, now / 4294967296 % 65536 = a := ⟨_, rfl⟩
  obtain ⟨h0, hh0⟩ : ∃ a, now / 281474976710656 % 4096 = a := ⟨_, rfl⟩
  obtain ⟨hi, hhi⟩ : ∃ a, h0 + 4096 = a := ⟨_, rfl⟩
  have f1 : bits .and .i64 (now : Int) 4294967295 = (lo : Int) := by
    have := i64_and_nat now 4294967295 (by omega) (by decide)
    rw [show now &&& 4294967295 = now % 4294967296 from Nat.and_two_pow_sub_one_eq_mod _ 32, hlo] at this
    exact this
  have d1 : (now : Int) / 4294967296 = ((now / 4294967296 : Nat) : Int) := by omega
  have d2 : (now : Int) / 281474976710656 = ((now / 281474976710656 : Nat) : Int) := by omega
  have f2 : bits .and .i64 ((now / 4294967296 : Nat) : Int) 65535 = (mi : Int) := by
    have := i64_and_nat (now / 4294967296) 65535 (by omega) (by decide)
    rw [show now / 4294967296 &&& 65535 = now / 4294967296 % 65536 from Nat.and_two_pow_sub_one_eq_mod _ 16, hmi] at this
    exact this
  have f3 : bits .and .i64 ((now / 281474976710656 : Nat) : Int) 4095 = (h0 : Int) := by
    have := i64_and_nat (now / 281474976710656) 4095 (by omega) (by decide)
    rw [show now / 281474976710656 &&& 4095 = now / 281474976710656 % 4096 from Nat.and_two_pow_sub_one_eq_mod _ 12, hh0] at this
    exact this
  have hh0l : h0 < 4096 := by omega
  have f4 : bits .or .u16 (h0 : Int) 4096 = (hi : Int) := by
    have := u16_or_nat h0 4096 (by omega) (by decide)
    rw [Nat.or_comm, nat_join 12 4096 h0 (by decide) (by omega), Nat.add_comm, hhi] at this
    exact this
  have hlol : lo < 4294967296 := by omega
  have hmil : mi < 65536 := by omega
  have HVL : Hid (bvs (v1L now q nd) = bvs (be 4 lo) ++ bvs (be 2 mi) ++ bvs (be 2 hi) ++ bvs (be 2 q) ++ bvs nd) := Lib.hid (by
    rw [v1L, hlo, hmi, hh0, hhi]; simp only [bvs_append])
  generalize now / 4294967296 = n1 at *
  generalize now / 281474976710656 = n2 at *
  have LN := Lib.hid hnd
  have HND := Lib.hid hnode
  have HGT := Lib.hid hG
  clear hlo hmi hh0 hhi hG hnode hnd
  go_enter Try.func35, Try.ntmps35
  go_wp2_with (refine wp_alloc_blk uuArr hb rfl rfl rfl (Nat.le_refl _) ?_)
  intro w1 b1 g1 s1 hb1
  clear s1
  go_wp2_with (refine wp_alloc_blk uuArr hb1 rfl rfl rfl hb1.size ?_)
  intro w2 b2 g2 s2 hb2
  clear s2
  have b12 := b1.grown g2 (by simp)
  have hs1 : w.heap.size < w1.heap.size := b1.lt
  have k2 := hk.kept hb2
  have G2 : w.grownBy w2 (some gk) := grown_below hb2 _
  generalize w1.heap.size = u at *
  go_wp2_with (go_at_call 49; refine (HGT.out _ k2).mono ?_)
  rintro e w3 ⟨rfl, k3, g3⟩
  have b13 := b12.grown g3 (by intro e; have := Option.some.inj e; omega)
  have b23 := b2.grown g3 (by intro e; have := Option.some.inj e; omega)
  have G3 := grown_trans G2 g3
  have hu : w.heap.size ≤ u := Nat.le_of_lt hs1
  go_wp2_with (go_at_call 50; refine (uu_put32 u 0 16 16 lo Z16 _ _ b23 (by decide) (by decide) (by decide)).mono ?_)
  rintro e w4 ⟨rfl, b4, g4, -⟩
  have b14 := b13.grown g4 (by intro e; have := Option.some.inj e; omega)
  have k4 := k3.grown g4 (by intro e; have := Option.some.inj e; omega)
  have G4 := grown_new G3 g4 hu
  go_wp2_with (go_at_call 51; refine (uu_put16 u 4 12 12 mi _ _ _ b4 (by decide) (by decide) (by rw [length_splice _ _ _ (by rw [bvs_length, be_length]; decide)]; decide)).mono ?_)
  rintro e w5 ⟨rfl, b5, g5, -⟩
  rw [splice_next _ _ _ 0 4 (by rw [bvs_length, be_length]) (by rw [bvs_length, be_length]; decide)] at b5
  have b15 := b14.grown g5 (by intro e; have := Option.some.inj e; omega)
  have k5 := k4.grown g5 (by intro e; have := Option.some.inj e; omega)
  have G5 := grown_new G4 g5 hu
  go_wp2_with (go_at_call 51; refine (uu_put16 u 6 10 10 hi _ _ _ b5 (by decide) (by decide) (by rw [length_splice _ _ _ (by simp only [List.length_append, bvs_length, be_length]; decide)]; decide)).mono ?_)
  rintro e w6 ⟨rfl, b6, g6, -⟩
  rw [splice_next _ _ _ 0 6 (by simp only [List.length_append, bvs_length, be_length]) (by rw [bvs_length, be_length]; decide)] at b6
  have b16 := b15.grown g6 (by intro e; have := Option.some.inj e; omega)
  have k6 := k5.grown g6 (by intro e; have := Option.some.inj e; omega)
  have G6 := grown_new G5 g6 hu
  go_wp2_with (go_at_call 51; refine (uu_put16 u 8 8 8 q _ _ _ b6 (by decide) (by decide) (by rw [length_splice _ _ _ (by simp only [List.length_append, bvs_length, be_length]; decide)]; decide)).mono ?_)
  rintro e w7 ⟨rfl, b7, g7, -⟩
  rw [splice_next _ _ _ 0 8 (by simp only [List.length_append, bvs_length, be_length]) (by rw [bvs_length, be_length]; decide)] at b7
  have b17 := b16.grown g7 (by intro e; have := Option.some.inj e; omega)
  have k7 := k6.grown g7 (by intro e; have := Option.some.inj e; omega)
  have G7 := grown_new G6 g7 hu
  have hu16 : (splice Z16 0 (bvs (be 4 lo) ++ bvs (be 2 mi) ++ bvs (be 2 hi) ++ bvs (be 2 q))).length = 16 := by rw [length_splice _ _ _ (by simp only [List.length_append, bvs_length, be_length]; decide)]; rfl
  have HU := Lib.hid hu16
  clear b1 b2 b12 b13 b14 b15 b16 b23 b4 b5 b6 k2 k3 k4 k5 k6 g1 g2 g3 g4 g5 g6 g7 G2 G3 G4 G5 G6 hu16 hb1 hb2
  go_wp2_with fail
  refine region_plan (fun w' => Below w7.heap.size w7 w') [(0, 0), (1, 0), (2, 0), (3, 0), (4, 0), (5, 2)] rfl (by kernel_rfl) (by kernel_rfl) rfl (by intro c a d v w h; cases d <;> exact h) (fun _ _ h => h) ?_
  intro w8 hpW hb8
  clear hpW
  simp only [planOps, List.filterMap_cons, List.filterMap_nil, List.getElem?_cons_succ, List.getElem?_cons_zero, Option.map_some]
  have b8 := b7.kept hb8
  have k8 := k7.kept hb8
  have b18 := b17.kept hb8
  have G8 := grown_then G7 hb8
  have r8 := k8.rdPart HND.out LN.out (by decide)
  repeat (first | (refine plan_skip rfl ?_) | (refine plan_still (v := ?_) rfl (fun w' hS => ?_) ?_; rotate_left; (focus (go_simp; first | done | with_reducible rfl))); simp only [Act.put, List.setIfInBounds_toArray, List.set_cons_zero, List.set_cons_succ])
  refine plan_last ?_
  go_wp2_with (refine wp_copy_min (k := 6) rfl rfl Try.underlying22 (by kernel_rfl) rfl rfl b8 nd r8 LN.out rfl (by rw [HU.out]; decide) (by decide) ?_)
  intro w9 b9 g9 s9
  clear s9
  rw [List.take_of_length_le (by rw [LN.out]; exact Nat.le_refl _), splice_next _ _ _ 0 10 (by simp only [List.length_append, bvs_length, be_length]) (by rw [bvs_length, LN.out]; decide)] at b9
  simp only [List.append_assoc] at b9
  have hvl := HVL.out
  simp only [List.append_assoc] at hvl
  rw [← hvl, splice_whole _ _ (by rw [LV.out]; rfl)] at b9
  clear hvl
  have b19 := b18.grown g9 (by intro e; have := Option.some.inj e; omega)
  have k9 := k8.grown g9 (by intro e; have := Option.some.inj e; omega)
  have G9 := grown_new G8 g9 hu
  go_wp2
  refine plan_nil ?_
  go_wp2_with (first | (refine wp_load_blk uuArr rfl rfl rfl b9 LV.out ?_) | (refine wp_store_blk uuArr (below_zero w9) rfl rfl rfl rfl b19 (Nat.zero_le _) rfl LV.out (bvs_one _) ?_))
  intro w10 b10 g10 s10 _
  clear s10
  have k10 := k9.grown g10 (by intro e; have := Option.some.inj e; omega)
  have G10 := grown_new G9 g10 (Nat.le_refl _)
  go_wp2
  exact ret_cell_tmp uuArr rfl rfl rfl rfl b10 LV.out ⟨rfl, k10, G10⟩
end Go.Proofs.Ytbnkbgbgdolihaa
