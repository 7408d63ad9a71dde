/- The law FnUlidOrder returns true, and turns nothing that was there. -/
import Derived.Test.YtpnpgckpjlbmdaaUlidMore
namespace Go.Proofs.Ytpnpgckpjlbmdaa
open Go.RowKit

set_option maxRecDepth 100000 in
theorem ulidOrder_main (a0 : Option Addr) (x0 : List UInt8) (c0 : Nat) (a1 : Option Addr) (x1 : List UInt8) (c1 : Nat) (w : World) (h0 : Rd w a0 x0) (h1 : Rd w a1 x1) (l0 : x0.length = 16) (l1 : x1.length = 16) :
    Calls Try.prog 3 #[.slice a0 16 c0, .slice a1 16 c1] w fun e w' => e = .returned (.bool true) ∧ Below w.heap.size w w' := by
  have T := Lib.hid (cmp_text d32 (by decide) d32_mono 26 x0 x1 (by rw [l0, l1]) (by rw [l0]; decide))
  have L0 := Lib.hid l0
  have L1 := Lib.hid l1
  clear l0 l1
  go_enter Try.func3, Try.ntmps3
  go_wp2_with (go_at_call 8; refine (ulidCompare_ok a0 a1 x0 x1 c0 c1 _ h0 h1 L0.out L1.out).mono ?_)
  rintro e w2 ⟨rfl, hb2⟩
  go_wp2_with (go_at_call 9; refine (ulidText_ok a0 x0 c0 _ (h0.kept hb2) L0.out).mono ?_)
  rintro e w3 ⟨rfl, hb3⟩
  have hb3' := hb2.trans (hb3.mono hb2.size)
  go_wp2_with (go_at_call 9; refine (ulidText_ok a1 x1 c1 _ (h1.kept hb3') L1.out).mono ?_)
  rintro e w4 ⟨rfl, hb4⟩
  have hb4' := hb3'.trans (hb4.mono hb3'.size)
  have W0 := Lib.hid (writ_length d32 26 (num x0))
  have W1 := Lib.hid (writ_length d32 26 (num x1))
  generalize writ d32 26 (num x0) = t0 at *
  generalize writ d32 26 (num x1) = t1 at *
  have r0 := h0.kept hb4'
  have r1 := h1.kept hb4'
  have hcmp := compare_any a0 a1 x0 x1 c0 c1 w4 r0 r1
  rw [L0.out, L1.out] at hcmp
  go_wp2_with (go_at_call 10; refine hcmp.mono ?_)
  rintro e w5 ⟨rfl, n5, rfl⟩
  have hb5 := below_drewN hb4' n5
  generalize w4.drewN n5 = w5 at *
  go_wp2_with (refine wp_of_string rfl rfl Try.underlying9 Try.underlying22 Try.underlying5 rfl W0.out (by decide) ?_)
  intro ga ca w6 ra _ hb6
  have hb6' := hb5.trans (hb6.mono hb5.size)
  go_wp2_with (refine wp_of_string rfl rfl Try.underlying9 Try.underlying22 Try.underlying5 rfl W1.out (by decide) ?_)
  intro gb cb w7 rb _ hb7
  have hb7' := hb6'.trans (hb7.mono hb6'.size)
  have hcmp2 := compare_any _ _ t0 t1 ca cb w7 (ra.kept hb7) rb
  rw [W0.out, W1.out] at hcmp2
  clear hcmp hb2 hb3 hb3' hb4 hb4' hb5 hb6 hb6' hb7 r0 r1 ra rb
  go_wp2_with (go_at_call 10; (with_reducible refine hcmp2.mono ?_))
  rintro e w8 ⟨rfl, n8, rfl⟩
  have hT : cmpL t0 t1 = cmpL x0 x1 := T.out
  go_wp2
  go_ret
  exact ⟨rfl, below_drewN hb7' _⟩

set_option maxRecDepth 100000 in
theorem ulidOrder_walk (a0 : Option Addr) (x0 : List UInt8) (c0 : Nat) (a1 : Option Addr) (x1 : List UInt8) (c1 : Nat) (w : World) (h0 : Rd w a0 x0) (_ : x0.length ≤ c0) (_ : c0 ≤ 9223372036854775807) (h1 : Rd w a1 x1) (_ : x1.length ≤ c1) (_ : c1 ≤ 9223372036854775807) :
    Calls Try.prog 3 #[.slice a0 x0.length c0, .slice a1 x1.length c1] w fun e w' => e = .returned (.bool true) ∧ Below w.heap.size w w' := by
  by_cases hlen : x0.length = 16 ∧ x1.length = 16
  · rw [hlen.1, hlen.2]
    exact ulidOrder_main a0 x0 c0 a1 x1 c1 w h0 h1 hlen.1 hlen.2
  · have hb := Below.refl w.heap.size w
    have e0 := h0.1
    have e1 := h1.1
    clear h0 h1
    generalize x0.length = n0 at *
    generalize x1.length = n1 at *
    by_cases hb0 : 2147483647 < n0
    · go_enter Try.func3, Try.ntmps3
      go_wp2
      go_ret
      exact ⟨rfl, hb⟩
    · by_cases hb1 : 2147483647 < n1
      · go_enter Try.func3, Try.ntmps3
        go_wp2
        go_ret
        exact ⟨rfl, hb⟩
      · by_cases h16 : n0 = 16
        · have q0 : ((n0 : Int) != 16) = false := by subst h16; rfl
          have q1 : ((n1 : Int) != 16) = true := by rw [bne_iff_ne]; omega
          go_enter Try.func3, Try.ntmps3
          go_wp2
          go_ret
          exact ⟨rfl, hb⟩
        · have q0 : ((n0 : Int) != 16) = true := by rw [bne_iff_ne]; omega
          go_enter Try.func3, Try.ntmps3
          go_wp2
          go_ret
          exact ⟨rfl, hb⟩
end Go.Proofs.Ytpnpgckpjlbmdaa
