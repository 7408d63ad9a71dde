/- Contracts: the reference's V1, and the time and the sequence in a UUID of version 1. -/
import Derived.Test.YtbnkbgbgdolihaaClock1
namespace Go.Proofs.Ytbnkbgbgdolihaa
open Go.RowKit
set_option linter.unusedVariables false
theorem ori64 (i : Nat) (X Y : Nat) (h1 : Y % 2 ^ i = 0) (h2 : X < 2 ^ i) (h3 : Y < 9223372036854775808) (h4 : X < 9223372036854775808) : bits .or .i64 (X : Int) (Y : Int) = ((X + Y : Nat) : Int) := by
  rw [i64_or_nat X Y h4 h3, Nat.or_comm, nat_join i Y X h1 h2, Nat.add_comm]
set_option maxRecDepth 100000 in
set_option maxHeartbeats 1600000 in
theorem specV1_ok (now s : Nat) (an : Option Addr) (nd : List UInt8) (cn : Nat) (w : World) (hnd : Rd w an nd) (hnl : nd.length = 6) (hnow : now < 1000000000000000000) (hs : s < 16384) :
    Calls Try.prog 24 #[.int .u64 now, .int .i64 s, .slice an 6 cn] w fun e w' => ∃ a cap, e = .returned (.slice a 16 cap) ∧ Rd w' a (v1L now (s + 32768) nd) ∧ Below w.heap.size w w' := by
  have L := Lib.hid hnl
  obtain ⟨lo, hlo⟩ : ∃ a, now % 4294967296 = a := ⟨_, rfl⟩
  obtain ⟨n1, hn1⟩ : ∃ a, now / 4294967296 = a := ⟨_, rfl⟩
  obtain ⟨n2, hn2⟩ : ∃ a, now / 281474976710656 = a := ⟨_, rfl⟩
  obtain ⟨mi, hmi⟩ : ∃ a, n1 % 65536 = a := ⟨_, rfl⟩
  obtain ⟨h0, hh0⟩ : ∃ a, n2 % 4096 = a := ⟨_, rfl⟩
  obtain ⟨hi, hhi⟩ : ∃ a, h0 + 4096 = a := ⟨_, rfl⟩
  obtain ⟨q, hq⟩ : ∃ a, s + 32768 = a := ⟨_, rfl⟩
  have d1 : (now : Int) / 4294967296 = (n1 : Int) := by omega
  have d2 : (now : Int) / 281474976710656 = (n2 : Int) := by omega
  have f1 : bits .and .u64 (now : Int) 4294967295 = (lo : Int) := by
    have := u64_and_nat now 4294967295 (by omega) (by decide)
    rw [show now &&& 4294967295 = now % 4294967296 from Nat.and_two_pow_sub_one_eq_mod _ 32, hlo] at this
    exact this
  have f2 : bits .and .u64 (n1 : Int) 65535 = (mi : Int) := by
    have := u64_and_nat n1 65535 (by omega) (by decide)
    rw [show n1 &&& 65535 = n1 % 65536 from Nat.and_two_pow_sub_one_eq_mod _ 16, hmi] at this
    exact this
  have f3 : bits .and .u64 (n2 : Int) 4095 = (h0 : Int) := by
    have := u64_and_nat n2 4095 (by omega) (by decide)
    rw [show n2 &&& 4095 = n2 % 4096 from Nat.and_two_pow_sub_one_eq_mod _ 12, hh0] at this
    exact this
  have hh0l : h0 < 4096 := by omega
  have f4 : bits .or .u64 (h0 : Int) 4096 = (hi : Int) := by
    have := u64_or_nat h0 4096 (by omega) (by decide)
    rw [Nat.or_comm, nat_join 12 4096 h0 (by decide) (by omega), Nat.add_comm, hhi] at this
    exact this
  have f5 : bits .or .u64 (s : Int) 32768 = (q : Int) := by
    have := u64_or_nat s 32768 (by omega) (by decide)
    rw [Nat.or_comm, nat_join 15 32768 s (by decide) (by omega), Nat.add_comm, hq] at this
    exact this
  have hlol : lo < 18446744073709551616 := by omega
  have hmil : mi < 18446744073709551616 := by omega
  have hhil : hi < 18446744073709551616 := by omega
  have hql : q < 18446744073709551616 := by omega
  have HV : Hid (be 4 lo ++ (be 2 mi ++ be 2 hi) ++ (be 2 q ++ nd) = v1L now (s + 32768) nd) := Lib.hid (by
    rw [v1L, hlo, hn1, hn2, hmi, hh0, hhi, hq]; simp only [List.append_assoc])
  have HLO := Lib.hid hlol
  have HMI := Lib.hid hmil
  have HHI := Lib.hid hhil
  have HQ := Lib.hid hql
  clear hlo hn1 hn2 hmi hh0 hhi hq hnl hlol hmil hhil hql
  go_enter Try.func24, Try.ntmps24
  go_wp2_with (go_at_call 42; refine (specBytes_ok lo 4 _ (by decide) HLO.out).mono ?_)
  rintro e w1 ⟨rfl, b1, hb1⟩
  have r1 := b1.rd (by rw [be_length]; decide)
  go_wp2_with (go_at_call 42; refine (specBytes_ok mi 2 _ (by decide) HMI.out).mono ?_)
  rintro e w2 ⟨rfl, b2, hb2⟩
  have r2 := b2.rd (by rw [be_length]; decide)
  have hb12 := hb1.trans (hb2.mono hb1.size)
  go_wp2_with (go_at_call 42; refine (specBytes_ok hi 2 _ (by decide) HHI.out).mono ?_)
  rintro e w3 ⟨rfl, b3, hb3⟩
  have r3 := b3.rd (by rw [be_length]; decide)
  have hb13 := hb12.trans (hb3.mono hb12.size)
  go_wp2_with (go_at_call 41; (with_reducible refine (join_at (n1 := 2) (n2 := 2) _ _ (r2.kept hb3) r3 (be_length 2 mi) (be_length 2 hi) (by decide)).mono ?_); rintro e w4 ⟨j4, c4, rfl, r4, -, hb4⟩)
  have hb14 := hb13.trans (hb4.mono hb13.size)
  have r14 := ((r1.kept hb2).kept hb3).kept hb4
  refine (join_at (n1 := 4) (n2 := 4) _ _ r14 r4 (be_length 4 lo) (by simp [be_length]) (by decide)).mono ?_
  rintro e w5 ⟨j5, c5, rfl, r5, -, hb5⟩
  have hb15 := hb14.trans (hb5.mono hb14.size)
  clear r1 r2 r3 r4 r14 b1 b2 b3 hb1 hb2 hb3 hb4 hb5 hb12 hb13 hb14
  go_wp2_with (go_at_call 42; refine (specBytes_ok q 2 _ (by decide) HQ.out).mono ?_)
  rintro e w6 ⟨rfl, b6, hb6⟩
  have r6 := b6.rd (by rw [be_length]; decide)
  have hb16 := hb15.trans (hb6.mono hb15.size)
  have rn := hnd.kept hb16
  go_wp2_with (go_at_call 41; (with_reducible refine (join_at (n1 := 2) (n2 := 6) _ _ r6 rn (be_length 2 q) L.out (by decide)).mono ?_); rintro e w7 ⟨j7, c7, rfl, r7, -, hb7⟩)
  have hb17 := hb16.trans (hb7.mono hb16.size)
  have r57 := (r5.kept hb6).kept hb7
  refine (join_at (n1 := 8) (n2 := 8) _ _ r57 r7 (by simp [be_length]) (by simp [be_length, L.out]) (by decide)).mono ?_
  rintro e w8 ⟨j8, c8, rfl, r8, -, hb8⟩
  have hb18 := hb17.trans (hb8.mono hb17.size)
  rw [HV.out] at r8
  go_wp2
  go_ret
  exact ⟨_, _, rfl, r8, hb18⟩
set_option maxRecDepth 100000 in
set_option maxHeartbeats 1600000 in
theorem utime1_ok (x : List UInt8) (w : World) (hx : x.length = 16) (h1 : B x 6 / 16 = 1) :
    Calls Try.prog 39 #[.agg (bvs x).toArray] w fun e w' => e = .returned (.int .i64 ((num (x.take 4) + num ((x.drop 4).take 2) * 4294967296 + num ((x.drop 6).take 2) % 4096 * 281474976710656 : Nat) : Int)) ∧ Below w.heap.size w w' := by
  have hb := Below.refl w.heap.size w
  have L := Lib.hid hx
  have L16 := Lib.hid (show (bvs x).length = 16 by rw [bvs_length, hx])
  have p2 : (256 : Nat) ^ 2 = 65536 := by decide
  have p4 : (256 : Nat) ^ 4 = 4294967296 := by decide
  have L4 := Lib.hid (show (x.take 4).length = 4 by rw [List.length_take, hx]; rfl)
  have La := Lib.hid (show ((x.drop 4).take 2).length = 2 by rw [List.length_take, List.length_drop, hx]; rfl)
  have Lb := Lib.hid (show ((x.drop 6).take 2).length = 2 by rw [List.length_take, List.length_drop, hx]; rfl)
  have la := num_lt (x.take 4)
  have lb := num_lt ((x.drop 4).take 2)
  have lc := num_lt ((x.drop 6).take 2)
  rw [L4.out, p4] at la
  rw [La.out, p2] at lb
  rw [Lb.out, p2] at lc
  have H1 := Lib.hid h1
  clear hx h1 p2 p4
  obtain ⟨A, hA⟩ : ∃ v, num (x.take 4) = v := ⟨_, rfl⟩
  obtain ⟨Bm, hB⟩ : ∃ v, num ((x.drop 4).take 2) = v := ⟨_, rfl⟩
  obtain ⟨C, hC⟩ : ∃ v, num ((x.drop 6).take 2) = v := ⟨_, rfl⟩
  obtain ⟨D, hD⟩ : ∃ v, C % 4096 = v := ⟨_, rfl⟩
  rw [hA] at la
  rw [hB] at lb
  rw [hC] at lc
  rw [hA, hB, hC, hD]
  have HA := Lib.hid hA
  have HB := Lib.hid hB
  have HC := Lib.hid hC
  have hDl : D < 4096 := by omega
  have f1 : bits .or .i64 (A : Int) ((Bm : Int) * 4294967296) = ((A + Bm * 4294967296 : Nat) : Int) := by
    have := ori64 32 A (Bm * 4294967296) (by omega) (by omega) (by omega) (by omega)
    rw [← this]; simp
  have f2 : bits .and .u16 (C : Int) 4095 = (D : Int) := by
    have := u16_and_nat C 4095 (by omega) (by decide)
    rw [show C &&& 4095 = C % 4096 from Nat.and_two_pow_sub_one_eq_mod _ 12, hD] at this
    exact this
  have f3 : bits .or .i64 ((A + Bm * 4294967296 : Nat) : Int) ((D : Int) * 281474976710656) = ((A + Bm * 4294967296 + D * 281474976710656 : Nat) : Int) := by
    have := ori64 48 (A + Bm * 4294967296) (D * 281474976710656) (by omega) (by omega) (by omega) (by omega)
    rw [← this]; simp
  generalize A + Bm * 4294967296 + D * 281474976710656 = T2 at *
  generalize A + Bm * 4294967296 = T1 at *
  clear hA hB hC hD
  go_enter Try.func39, Try.ntmps39
  go_wp2_with (refine wp_box_blk uuArr hb rfl rfl rfl rfl (Nat.le_refl _) ?_)
  intro w1 b1 g1 s1 hb1
  clear s1
  go_wp2_with (first | (refine wp_load_blk uuArr rfl rfl rfl b1 L16.out ?_) | (go_at_call 27; refine (version_ok x _ L.out).mono ?_; rw [H1.out]))
  rintro e w2 ⟨rfl, hb2⟩
  have b2 := b1.kept hb2
  have hb12 := hb1.trans (hb2.mono hb1.size)
  have rx := b2.rd (by rw [L.out]; decide)
  have r4 := rx.take 4
  have ra := rx.part 4 2 (by rw [L.out]; decide) (by decide)
  have rb := rx.part 6 2 (by rw [L.out]; decide) (by decide)
  rw [Option.map_some, Addr.add_mid, Nat.zero_add] at ra rb
  have g4 := uu_get32 _ 16 (x.take 4) w2 r4 (by rw [L4.out]; decide)
  rw [L4.out, List.take_take, Nat.min_self, HA.out] at g4
  have ga := uu_get16 _ 12 ((x.drop 4).take 2) w2 ra (by rw [La.out]; decide)
  rw [La.out, List.take_take, Nat.min_self, HB.out] at ga
  have gb := uu_get16 _ 10 ((x.drop 6).take 2) w2 rb (by rw [Lb.out]; decide)
  rw [Lb.out, List.take_take, Nat.min_self, HC.out] at gb
  clear rx r4 ra rb
  go_wp2_with (first | (go_at_call 55; refine g4.mono ?_; rintro e w3 ⟨rfl, rfl⟩) | (go_at_call 56; (with_reducible refine ga.mono ?_); rintro e w3 ⟨rfl, rfl⟩) | (go_at_call 56; (with_reducible refine gb.mono ?_); rintro e w3 ⟨rfl, rfl⟩))
  go_ret
  exact ⟨rfl, hb12⟩
end Go.Proofs.Ytbnkbgbgdolihaa
