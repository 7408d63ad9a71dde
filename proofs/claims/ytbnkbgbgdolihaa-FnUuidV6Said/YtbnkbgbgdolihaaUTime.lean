/- Contracts: the time and the clock sequence in a UUID; the reference's Number. -/
import Derived.Test.YtbnkbgbgdolihaaUuidKindWalk
import Derived.Test.YtbnkbgbgdolihaaUuidV7Walk
namespace Go.Proofs.Ytbnkbgbgdolihaa
open Go.RowKit
set_option linter.unusedVariables false
theorem num_take_succ (x : List UInt8) (k : Nat) (h : k < x.length) : num (x.take (k + 1)) = num (x.take k) * 256 + B x k := by
  rw [List.take_succ_eq_append_getElem h, num_append]
  have e : num [x[k]] = B x k := by simp [num, B, h]
  rw [e, List.length_singleton, Nat.pow_one]
theorem num_take_lt (x : List UInt8) (k : Nat) (h : k ≤ 8) : num (x.take k) < 18446744073709551616 := by
  have h1 := num_lt (x.take k)
  have h2 : 256 ^ (x.take k).length ≤ 256 ^ 8 := Nat.pow_le_pow_right (by decide) (by rw [List.length_take]; omega)
  have h3 : (256 : Nat) ^ 8 = 18446744073709551616 := by decide
  omega
set_option maxRecDepth 100000 in
theorem number_ok (a : Option Addr) (x : List UInt8) (n c : Nat) (w : World) (h : Rd w a x) (hl : x.length = n) (hn : n ≤ 8) :
    Calls Try.prog 25 #[.slice a n c] w fun e w' => e = .returned (.int .u64 (num x)) ∧ w = w' := by
  have L := Lib.hid hl
  clear hl
  go_enter Try.func25, Try.ntmps25
  go_wp2
  go_loopw [3, 8] (fun nv i wr => ∃ k : Nat, k ≤ n ∧ i = .int .i64 k ∧ nv = .int .u64 (num (x.take k)) ∧ w = wr) (fun _ i _ => n - (intOf i).toNat)
  case atStart => exact ⟨0, Nat.zero_le _, rfl, rfl, rfl⟩
  case round =>
    obtain ⟨k, hk, rfl, rfl, rfl⟩ := hrel
    by_cases hlt : k < n
    · obtain ⟨b, o, rfl, hc⟩ := h.2.resolve_left (by intro h; have := L.out; simp [h] at this; omega)
      have c1 := hc k (by rw [L.out]; exact hlt)
      have e1 := num_take_succ x k (by rw [L.out]; exact hlt)
      have l1 := num_take_lt x (k + 1) (by omega)
      have hbl := B_lt x k
      rw [e1] at l1
      have E1 := Lib.hid e1
      clear e1 hc
      generalize num (x.take k) = v at *
      generalize B x k = bb at *
      go_wp2
      go_roundw
      case rel => exact ⟨k + 1, by omega, by go_num, by rw [E1.out]; go_num, by first | rfl | trivial⟩
      case measure => simp [intOf]; omega
    · obtain rfl : k = n := by omega
      have e : x.take k = x := List.take_of_length_le (by rw [L.out]; exact Nat.le_refl _)
      rw [e]
      go_wp2
      go_ret
      exact ⟨rfl, rfl⟩
set_option maxRecDepth 100000 in
theorem utime7_ok (x : List UInt8) (w : World) (hx : x.length = 16) (h7 : B x 6 / 16 = 7) :
    Calls Try.prog 39 #[.agg (bvs x).toArray] w fun e w' => e = .returned (.int .i64 ((num (x.take 8) / 65536 * 10000 + 122192928000000000 : Nat) : Int)) ∧ Below w.heap.size w w' := by
  have hb := Below.refl w.heap.size w
  have L := Lib.hid hx
  have L16 := Lib.hid (show (bvs x).length = 16 by rw [bvs_length, hx])
  have L8 := Lib.hid (show (x.take 8).length = 8 by rw [List.length_take, hx]; rfl)
  have hlt := num_take_lt x 8 (by decide)
  have H7 := Lib.hid h7
  clear hx h7
  go_enter Try.func39, Try.ntmps39
  go_wp2_with (refine wp_box_blk uuArr hb rfl rfl rfl rfl (Nat.le_refl _) ?_)
  intro w1 b1 g1 s1 hb1
  clear s1
  go_wp2_with (first | (refine wp_load_blk uuArr rfl rfl rfl b1 L16.out ?_) | (go_at_call 27; refine (version_ok x _ L.out).mono ?_; rw [H7.out]))
  rintro e w2 ⟨rfl, hb2⟩
  have b2 := b1.kept hb2
  have hb12 := hb1.trans (hb2.mono hb1.size)
  have hg := uu_get64 _ 16 (x.take 8) w2 ((b2.rd (by rw [L.out]; decide)).take 8) (by rw [L8.out]; decide)
  rw [L8.out, List.take_take, Nat.min_self] at hg
  obtain ⟨V, hV⟩ : ∃ V, num (x.take 8) = V := ⟨_, rfl⟩
  rw [hV] at hg hlt
  have HV := Lib.hid hV
  clear hV
  go_wp2_with (go_at_call 54; refine hg.mono ?_; rintro e w3 ⟨rfl, rfl⟩)
  go_ret
  exact ⟨by rw [HV.out]; go_num, hb12⟩
set_option maxRecDepth 100000 in
theorem useq_ok (x : List UInt8) (w : World) (hx : x.length = 16) :
    Calls Try.prog 40 #[.agg (bvs x).toArray] w fun e w' => e = .returned (.int .i64 ((num ((x.drop 8).take 2) % 16384 : Nat) : Int)) ∧ Below w.heap.size w w' := by
  have hb := Below.refl w.heap.size w
  have L := Lib.hid hx
  have L2 := Lib.hid (show ((x.drop 8).take 2).length = 2 by rw [List.length_take, List.length_drop, hx]; rfl)
  have hlt := num_lt ((x.drop 8).take 2)
  rw [L2.out] at hlt
  have h16 : (256 : Nat) ^ 2 = 65536 := by decide
  rw [h16] at hlt
  have hand : bits .and .i64 (num ((x.drop 8).take 2) : Int) 16383 = ((num ((x.drop 8).take 2) % 16384 : Nat) : Int) := by
    have := i64_and_nat (num ((x.drop 8).take 2)) 16383 (by omega) (by decide)
    rw [show num ((x.drop 8).take 2) &&& 16383 = num ((x.drop 8).take 2) % 16384 from Nat.and_two_pow_sub_one_eq_mod _ 14] at this
    exact this
  clear hx h16
  go_enter Try.func40, Try.ntmps40
  go_wp2_with (refine wp_box_blk uuArr hb rfl rfl rfl rfl (Nat.le_refl _) ?_)
  intro w1 b1 g1 s1 hb1
  clear s1
  have r1 := (b1.rd (by rw [L.out]; decide)).part 8 2 (by rw [L.out]; decide) (by decide)
  rw [Option.map_some, Addr.add_mid, Nat.zero_add] at r1
  have hg := uu_get16 _ 8 ((x.drop 8).take 2) w1 r1 (by rw [L2.out]; decide)
  rw [L2.out, List.take_take, Nat.min_self] at hg
  obtain ⟨V, hV⟩ : ∃ V, num ((x.drop 8).take 2) = V := ⟨_, rfl⟩
  rw [hV] at hg hlt hand
  obtain ⟨R, hR⟩ : ∃ R, V % 16384 = R := ⟨_, rfl⟩
  rw [hR] at hand
  have HV := Lib.hid hV
  have HR := Lib.hid hR
  clear hV hR
  go_wp2_with (go_at_call 56; refine hg.mono ?_; rintro e w3 ⟨rfl, rfl⟩)
  go_ret
  exact ⟨by rw [HV.out, HR.out]; rfl, hb1⟩
set_option maxRecDepth 100000 in
theorem uuidTime7_ok (a1 : Option Addr) (x : List UInt8) (c1 : Nat) (w : World) (h1 : Rd w a1 x) (hx : x.length = 16) (h7 : B x 6 / 16 = 7) :
    Calls Try.prog 23 #[.slice a1 16 c1] w fun e w' => e = .returned (.tuple #[.int .i64 ((num (x.take 8) / 65536 * 10000 + 122192928000000000 : Nat) : Int), .int .i64 ((num ((x.drop 8).take 2) % 16384 : Nat) : Int), .bool true]) ∧ Below w.heap.size w w' := by
  have L := Lib.hid hx
  have L16 := Lib.hid (show (bvs x).length = 16 by rw [bvs_length, hx])
  have H7 := Lib.hid h7
  clear hx h7
  go_enter Try.func23, Try.ntmps23
  go_wp2_with (go_at_call 26; refine (uuFromBytes_ok a1 x c1 _ h1 L.out).mono ?_)
  rintro e w2 ⟨rfl, hb2⟩
  go_wp2_with (refine wp_alloc_blk uuArr hb2 rfl rfl rfl hb2.size ?_)
  intro w3 b3 g3 s3 hb3
  clear s3
  go_wp2_with (refine wp_store_blk uuArr hb3 rfl rfl rfl rfl b3 hb2.size rfl L16.out (bvs_one _) ?_)
  intro w4 b4 g4 s4 hb4
  clear s4
  go_wp2_with fail
  refine region_plan (fun w' => Below w4.heap.size w4 w') [(0, 0), (2, 0), (1, 1), (3, 1), (4, 0), (5, 0), (6, 0)] rfl (by kernel_rfl) (by kernel_rfl) rfl (by intro c a d v w h; cases d <;> exact h) (fun _ _ h => h) ?_
  intro w5 hpW hb5
  clear hpW
  simp only [planOps, List.filterMap_cons, List.filterMap_nil, List.getElem?_cons_succ, List.getElem?_cons_zero, Option.map_some]
  repeat (first | (refine plan_still rfl (still_blk uuArr rfl rfl (fun w' hS => b4.kept hS) L16.out) ?_) | (refine plan_skip rfl ?_) | (refine plan_still (v := ?_) rfl (fun w' hS => ?_) ?_; rotate_left; (focus (go_simp; first | done | with_reducible rfl))); simp only [Act.put, List.setIfInBounds_toArray, List.set_cons_zero, List.set_cons_succ])
  refine plan_do ?_
  go_wp2_with (go_at_call 39; refine (utime7_ok x _ L.out H7.out).mono ?_)
  rintro e w6 ⟨rfl, hb6⟩
  have hb46 := hb5.trans (hb6.mono hb5.size)
  go_wp2
  refine ⟨hb46, ?_⟩
  repeat (first | (refine plan_still rfl (still_blk uuArr rfl rfl (fun w' hS => b4.kept hS) L16.out) ?_) | (refine plan_skip rfl ?_) | (refine plan_still (v := ?_) rfl (fun w' hS => ?_) ?_; rotate_left; (focus (go_simp; first | done | with_reducible rfl))); simp only [Act.put, List.setIfInBounds_toArray, List.set_cons_zero, List.set_cons_succ])
  refine plan_do ?_
  go_wp2_with (go_at_call 40; refine (useq_ok x _ L.out).mono ?_)
  rintro e w7 ⟨rfl, hb7⟩
  have hb47 := hb46.trans (hb7.mono hb46.size)
  go_wp2
  refine ⟨hb47, ?_⟩
  repeat (first | (refine plan_skip rfl ?_) | (refine plan_still (v := ?_) rfl (fun w' hS => ?_) ?_; rotate_left; (focus (go_simp; first | done | with_reducible rfl))); simp only [Act.put, List.setIfInBounds_toArray, List.set_cons_zero, List.set_cons_succ])
  refine plan_nil ?_
  go_wp2
  exact ret_tmp3 rfl rfl rfl rfl rfl ⟨rfl, hb4.trans (hb47.mono hb4.size)⟩
/-- Where the times are a millisecond apart, each number has its own millisecond. -/
theorem nowAt_milli (ts : List Nat) : ∀ k, (∀ j, j < k → ts.getD j 0 + 1000000 ≤ ts.getD (j + 1) 0) → nowAt ts (k + 1) / 4096 = ts.getD k 0 / 1000000
  | 0, _ => by
    show next7 0 (ts.getD 0 0) / 4096 = _
    generalize ts.getD 0 0 = t
    unfold next7 now7
    split <;> omega
  | k + 1, h => by
    have ih := nowAt_milli ts k (fun j hj => h j (by omega))
    have hs := h k (by omega)
    show next7 (nowAt ts (k + 1)) (ts.getD (k + 1) 0) / 4096 = _
    generalize nowAt ts (k + 1) = l at *
    generalize ts.getD (k + 1) 0 = t at *
    generalize ts.getD k 0 = u at *
    unfold next7 now7
    split <;> omega
end Go.Proofs.Ytbnkbgbgdolihaa
