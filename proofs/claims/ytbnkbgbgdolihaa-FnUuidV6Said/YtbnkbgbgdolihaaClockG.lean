/- Contracts: a clock's GetTime. -/
import Derived.Test.YtbnkbgbgdolihaaClockT
namespace Go.Proofs.Ytbnkbgbgdolihaa
open Go.RowKit
set_option linter.unusedVariables false
/-- A time in times of 100 nanoseconds from 1582 on. -/
def stampOf (t : Nat) : Nat := t / 100 + 122192928000000000
/-- The sequence behind a time. -/
def seqNext (lt now s : Nat) : Nat := if now ≤ lt then (s + 1) % 16384 else s
theorem seqNext_lt (lt now s : Nat) (h : s < 16384) : seqNext lt now s < 16384 := by unfold seqNext; split <;> omega
set_option maxRecDepth 100000 in
set_option maxHeartbeats 1600000 in
theorem getTime_first (gk t l7 : Nat) (r0 r1 n0 n1 n2 n3 n4 n5 : UInt8) (w : World) (hk : Blk w gk (clockC t [r0, r1] [n0, n1, n2, n3, n4, n5] 0 0 l7) 79) (ht : t ≤ 4102444800000000000) :
    Calls Try.prog 61 #[.pointer (some ⟨gk, 0, none⟩)] w fun e w' => e = .returned (.tuple #[.int .i64 (stampOf t), .int .u16 (seq0 r0 r1 + 32768 : Nat), .nilIface]) ∧ Blk w' gk (clockC t [r0, r1] [n0, n1, n2, n3, n4, n5] (stampOf t) (seq0 r0 r1 + 32768) l7) 79 ∧ w.grownBy w' (some gk) := by
  have hset := setSeq_ok gk t 0 l7 r0 r1 n0 n1 n2 n3 n4 n5 w hk
  have c0 := (hk.cell 0).trans (clock_0 t 0 0 l7 [r0, r1] [n0, n1, n2, n3, n4, n5])
  have c10 := (hk.cell 10).trans (clock_10 t 0 0 l7 [r0, r1] [n0, n1, n2, n3, n4, n5] rfl rfl)
  obtain ⟨q, hq⟩ : ∃ q, seq0 r0 r1 + 32768 = q := ⟨_, rfl⟩
  obtain ⟨d, hd⟩ : ∃ d, t / 100 = d := ⟨_, rfl⟩
  obtain ⟨now, hnow⟩ : ∃ v, stampOf t = v := ⟨_, rfl⟩
  have hnd : now = d + 122192928000000000 := by rw [← hnow, stampOf, hd]
  have hdl : d ≤ 41024448000000000 := by omega
  have E1 : (t : Int) / 100 = (d : Int) := by omega
  have E2 : (d : Int) + 122192928000000000 = (now : Int) := by omega
  have hle : decide ((now : Int) ≤ 0) = false := decide_eq_false (by omega)
  have hnl : now < 1000000000000000000 := by omega
  rw [hq] at hset ⊢
  rw [hnow]
  have HSET := Lib.hid hset
  clear hset hq hd hnow hnd hdl
  go_enter Try.func61, Try.ntmps61
  go_wp2_with (go_at_call 64; refine HSET.out.mono ?_)
  rintro e w1 ⟨rfl, k1, g1⟩
  have d9 := (k1.cell 9).trans (clock_9 t 0 q l7 [r0, r1] [n0, n1, n2, n3, n4, n5] rfl rfl)
  clear c0 c10
  go_wp2_with (refine wp_store_cell (i := 9) rfl rfl (by kernel_rfl) rfl rfl rfl k1 (by rw [clock_len _ _ _ _ _ _ rfl rfl]; decide) ?_)
  intro w2 k2 g2 s2
  clear s2
  rw [clock_set9 _ _ _ _ _ _ _ rfl rfl] at k2
  have d10 := (k2.cell 10).trans (clock_10 t now q l7 [r0, r1] [n0, n1, n2, n3, n4, n5] rfl rfl)
  clear E1 E2 d9
  go_wp2
  go_quiet (fail)
  go_wp2
  exact ret_tmp3 rfl rfl rfl rfl rfl ⟨rfl, k2, grown_trans g1 (grown_trans g2 (by exact ⟨rfl, rfl, rfl, Nat.le_refl _, fun _ _ _ => rfl⟩))⟩
set_option maxRecDepth 100000 in
set_option maxHeartbeats 1600000 in
theorem getTime_next (gk t lt s l7 : Nat) (r0 r1 n0 n1 n2 n3 n4 n5 : UInt8) (w : World) (hk : Blk w gk (clockC t [r0, r1] [n0, n1, n2, n3, n4, n5] lt (s + 32768) l7) 79) (ht : t ≤ 4102444800000000000) (hs : s < 16384) (hlt : lt < 1000000000000000000) :
    Calls Try.prog 61 #[.pointer (some ⟨gk, 0, none⟩)] w fun e w' => e = .returned (.tuple #[.int .i64 (stampOf t), .int .u16 (seqNext lt (stampOf t) s + 32768 : Nat), .nilIface]) ∧ Blk w' gk (clockC t [r0, r1] [n0, n1, n2, n3, n4, n5] (stampOf t) (seqNext lt (stampOf t) s + 32768) l7) 79 ∧ w.grownBy w' (some gk) := by
  obtain ⟨q, hq⟩ : ∃ q, s + 32768 = q := ⟨_, rfl⟩
  obtain ⟨d, hd⟩ : ∃ d, t / 100 = d := ⟨_, rfl⟩
  obtain ⟨now, hnow⟩ : ∃ v, stampOf t = v := ⟨_, rfl⟩
  have hnd : now = d + 122192928000000000 := by rw [← hnow, stampOf, hd]
  have hdl : d ≤ 41024448000000000 := by omega
  have E1 : (t : Int) / 100 = (d : Int) := by omega
  have E2 : (d : Int) + 122192928000000000 = (now : Int) := by omega
  have hnl : now < 1000000000000000000 := by omega
  have hq0 : ((q : Int) == 0) = false := by rw [beq_eq_false_iff_ne]; omega
  have hq2 : q < 49152 := by omega
  rw [hq] at hk
  rw [hnow]
  have c0 := (hk.cell 0).trans (clock_0 t lt q l7 [r0, r1] [n0, n1, n2, n3, n4, n5])
  have c10 := (hk.cell 10).trans (clock_10 t lt q l7 [r0, r1] [n0, n1, n2, n3, n4, n5] rfl rfl)
  have c9 := (hk.cell 9).trans (clock_9 t lt q l7 [r0, r1] [n0, n1, n2, n3, n4, n5] rfl rfl)
  by_cases hle : now ≤ lt
  · have hsn : seqNext lt now s = (s + 1) % 16384 := by rw [seqNext, if_pos hle]
    rw [hsn]
    obtain ⟨s', hs'⟩ : ∃ v, (s + 1) % 16384 = v := ⟨_, rfl⟩
    rw [hs']
    have hdec : decide ((now : Int) ≤ (lt : Int)) = true := decide_eq_true (by omega)
    have hdec2 : decide (now ≤ lt) = true := decide_eq_true hle
    have f1 : bits .and .u16 ((q : Int) + 1) 16383 = (s' : Int) := by
      have := u16_and_nat (q + 1) 16383 (by omega) (by decide)
      rw [show (q + 1) &&& 16383 = (q + 1) % 16384 from Nat.and_two_pow_sub_one_eq_mod _ 14, show (q + 1) % 16384 = s' by omega] at this
      exact this
    obtain ⟨q', hq'⟩ : ∃ v, s' + 32768 = v := ⟨_, rfl⟩
    have f2 : bits .or .u16 (s' : Int) 32768 = (q' : Int) := by
      have := u16_or_nat s' 32768 (by omega) (by decide)
      rw [Nat.or_comm, nat_join 15 32768 s' (by decide) (by omega), Nat.add_comm, hq'] at this
      exact this
    rw [hq']
    clear hq hd hnow hnd hdl hle hsn hs' hq'
    go_enter Try.func61, Try.ntmps61
    go_wp2_with (refine wp_store_cell (i := 10) rfl rfl (by kernel_rfl) rfl rfl rfl hk (by rw [clock_len _ _ _ _ _ _ rfl rfl]; decide) ?_)
    intro w1 k1 g1 s1
    clear s1
    rw [clock_set10 _ _ _ _ _ _ _ rfl rfl] at k1
    clear c0 c9 c10 E1 E2
    go_wp2_with (refine wp_store_cell (i := 9) rfl rfl (by kernel_rfl) rfl rfl rfl k1 (by rw [clock_len _ _ _ _ _ _ rfl rfl]; decide) ?_)
    intro w2 k2 g2 s2
    clear s2
    rw [clock_set9 _ _ _ _ _ _ _ rfl rfl] at k2
    have d10 := (k2.cell 10).trans (clock_10 t now q' l7 [r0, r1] [n0, n1, n2, n3, n4, n5] rfl rfl)
    go_wp2
    go_quiet (fail)
    go_wp2
    exact ret_tmp3 rfl rfl rfl rfl rfl ⟨rfl, k2, grown_trans g1 (grown_trans g2 (by exact ⟨rfl, rfl, rfl, Nat.le_refl _, fun _ _ _ => rfl⟩))⟩
  · have hsn : seqNext lt now s = s := by rw [seqNext, if_neg hle]
    rw [hsn, hq]
    have hdec : decide ((now : Int) ≤ (lt : Int)) = false := decide_eq_false (by omega)
    have hdec2 : decide (now ≤ lt) = false := decide_eq_false hle
    clear hq hd hnow hnd hdl hle hsn
    go_enter Try.func61, Try.ntmps61
    go_wp2_with (refine wp_store_cell (i := 9) rfl rfl (by kernel_rfl) rfl rfl rfl hk (by rw [clock_len _ _ _ _ _ _ rfl rfl]; decide) ?_)
    intro w2 k2 g2 s2
    clear s2
    rw [clock_set9 _ _ _ _ _ _ _ rfl rfl] at k2
    have d10 := (k2.cell 10).trans (clock_10 t now q l7 [r0, r1] [n0, n1, n2, n3, n4, n5] rfl rfl)
    clear c0 c9 c10 E1 E2
    go_wp2
    go_quiet (fail)
    go_wp2
    exact ret_tmp3 rfl rfl rfl rfl rfl ⟨rfl, k2, grown_trans g2 (by exact ⟨rfl, rfl, rfl, Nat.le_refl _, fun _ _ _ => rfl⟩)⟩
theorem getTime_pub (gk : Nat) (v : Value) (C' : List Value) (tC : TypeId) (a b : Int) (w : World)
    (h : Calls Try.prog 61 #[.pointer (some ⟨gk, 0, none⟩)] w fun e w' => e = .returned (.tuple #[.int .i64 a, .int .u16 b, .nilIface]) ∧ Blk w' gk C' tC ∧ w.grownBy w' (some gk)) :
    Calls Try.prog 49 #[.pointer (some ⟨gk, 0, none⟩)] w fun e w' => e = .returned (.tuple #[.int .i64 a, .int .u16 b, .nilIface]) ∧ Blk w' gk C' tC ∧ w.grownBy w' (some gk) := by
  have H := Lib.hid h
  clear h
  go_enter Try.func49, Try.ntmps49
  go_wp2_with (go_at_call 61; refine H.out.mono ?_)
  rintro e w1 ⟨rfl, k1, g1⟩
  go_wp2
  exact ret_tmp3 rfl rfl rfl rfl rfl ⟨rfl, k1, g1⟩
end Go.Proofs.Ytbnkbgbgdolihaa
