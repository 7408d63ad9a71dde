/- Contract of spec.Difference, where the second number is not the smaller one and not much greater. -/
import Derived.Test.YtcojcohipmoopaaMFn0
namespace Go.Proofs.Ytcojcohipmoopaa
open Go.RowKit
set_option linter.unusedVariables false
set_option linter.unusedSimpArgs false
/-- What the first bytes differ by is not more than what all do. -/
theorem num_take_dif (x y : List UInt8) (hl : x.length = y.length) (hle : num x ≤ num y) (k : Nat) (hk : k ≤ x.length) : num (x.take k) ≤ num (y.take k) ∧ num (y.take k) - num (x.take k) ≤ num y - num x := by
  have hx := num_append (x.take k) (x.drop k)
  have hy := num_append (y.take k) (y.drop k)
  rw [List.take_append_drop, List.length_drop] at hx hy
  rw [← hl] at hy
  have lx := num_lt (x.drop k)
  have ly := num_lt (y.drop k)
  rw [List.length_drop] at lx ly
  rw [← hl] at ly
  have hq : 1 ≤ 256 ^ (x.length - k) := Nat.pow_pos (by decide)
  generalize 256 ^ (x.length - k) = Q at *
  generalize num (x.take k) = p at *
  generalize num (y.take k) = q at *
  generalize num (x.drop k) = r at *
  generalize num (y.drop k) = s at *
  generalize num x = X at *
  generalize num y = Y at *
  have h1 : p ≤ q := by
    refine Nat.le_of_not_lt fun h => ?_
    have := Nat.mul_le_mul_right Q (show q + 1 ≤ p from h)
    rw [Nat.add_mul] at this
    omega
  refine ⟨h1, ?_⟩
  refine Nat.le_of_not_lt fun h => ?_
  have h2 : p + (Y - X) + 1 ≤ q := by omega
  have h3 := Nat.mul_le_mul_right Q h2
  rw [Nat.add_mul, Nat.add_mul] at h3
  have h4 : (Y - X) * 1 ≤ (Y - X) * Q := Nat.mul_le_mul_left _ hq
  omega
set_option maxRecDepth 100000 in
set_option maxHeartbeats 1000000 in
theorem difference_ok (a1 a2 : Option Addr) (x y : List UInt8) (n c1 c2 : Nat) (w : World) (h1 : Rd w a1 x) (h2 : Rd w a2 y) (l1 : x.length = n) (l2 : y.length = n) (hn : n ≤ 1000) (hle : num x ≤ num y) (hd : num y - num x ≤ 1099511627776) :
    Calls Try.prog 6 #[.slice a1 n c1, .slice a2 n c2] w fun e w' => e = .returned (.int .i64 ((num y - num x : Nat) : Int)) ∧ ∃ m, w' = w.drewN m := by
  have L1 := Lib.hid l1
  have L2 := Lib.hid l2
  have D := Lib.hid (fun k hk => num_take_dif x y (by rw [l1, l2]) hle k (by rw [l1]; exact hk))
  have HD := Lib.hid hd
  clear l1 l2 hle hd
  go_enter Try.func6, Try.ntmps6
  go_wp2
  go_loopw [5, 9] (fun z i wr => ∃ k : Nat, k ≤ n ∧ i = .int .i64 k ∧ z = .int .i64 ((num (y.take k) - num (x.take k) : Nat) : Int) ∧ ∃ m, wr = w.drewN m) (fun _ i _ => n - (intOf i).toNat)
  case atStart => exact ⟨0, Nat.zero_le _, rfl, rfl, 0, rfl⟩
  case round =>
    obtain ⟨k, hk, rfl, rfl, m, rfl⟩ := hrel
    by_cases hlt : k < n
    · obtain ⟨b1, o1, rfl, g1⟩ := h1.2.resolve_left (by intro h; have := L1.out; simp [h] at this; omega)
      obtain ⟨b2, o2, rfl, g2⟩ := h2.2.resolve_left (by intro h; have := L2.out; simp [h] at this; omega)
      have q1 := g1 k (by rw [L1.out]; exact hlt)
      have q2 := g2 k (by rw [L2.out]; exact hlt)
      have e1 := num_take_succ x k (by rw [L1.out]; exact hlt)
      have e2 := num_take_succ y k (by rw [L2.out]; exact hlt)
      have f1 := D.out k hk
      have f2 := D.out (k + 1) hlt
      have b1l := B_lt x k
      have b2l := B_lt y k
      rw [e1, e2] at f2
      have hdd := HD.out
      have E1 : Hid (num (List.take (k + 1) y) - num (List.take (k + 1) x) = num (y.take k) * 256 + B y k - (num (x.take k) * 256 + B x k)) := by show _ = _; rw [e1, e2]
      clear e1 e2 g1 g2 h1 h2
      generalize num (x.take k) = p at *
      generalize num (y.take k) = q at *
      generalize B x k = u at *
      generalize B y k = v at *
      obtain ⟨d, hd⟩ : ∃ d, q - p = d := ⟨_, rfl⟩
      obtain ⟨d', hd'⟩ : ∃ d', q * 256 + v - (p * 256 + u) = d' := ⟨_, rfl⟩
      rw [hd]
      have hdl : d ≤ 1099511627776 := by omega
      have hdl' : d' ≤ 1099511627776 := by omega
      have hdd2 : (d : Int) * 256 + v - u = d' := by omega
      have E2 : Hid (num (List.take (k + 1) y) - num (List.take (k + 1) x) = d') := by show _ = _; rw [E1.out, hd']
      have w1 : IntKind.i64.wrap ((d : Int) * 256) = (d : Int) * 256 := by rw [IntKind.wrap_i64]; omega
      have w2 : IntKind.i64.wrap ((d : Int) * 256 + v) = (d : Int) * 256 + v := by rw [IntKind.wrap_i64]; omega
      have w3 : IntKind.i64.wrap ((d : Int) * 256 + v - u) = (d' : Int) := by rw [IntKind.wrap_i64]; omega
      clear f1 f2 hd hd' hdd E1 hdd2 D HD
      go_wp2
      go_quiet (fail)
      go_wp2
      go_roundw
      case rel => exact ⟨k + 1, by omega, by go_num, by rw [E2.out], _, by first | rfl | (simp only [World.drewN_drewN]; rfl) | trace_state⟩
      case measure => simp [intOf]; omega
    · obtain rfl : k = n := by omega
      have e1 : x.take k = x := List.take_of_length_le (by rw [L1.out]; exact Nat.le_refl _)
      have e2 : y.take k = y := List.take_of_length_le (by rw [L2.out]; exact Nat.le_refl _)
      rw [e1, e2]
      go_wp2
      go_ret
      exact ⟨rfl, _, rfl⟩
end Go.Proofs.Ytcojcohipmoopaa
