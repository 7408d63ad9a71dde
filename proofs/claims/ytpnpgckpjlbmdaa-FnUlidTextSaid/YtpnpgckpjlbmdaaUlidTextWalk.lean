/- The law FnUlidText returns true, and turns nothing that was there. -/
import Derived.Test.YtpnpgckpjlbmdaaUlidMore
namespace Go.Proofs.Ytpnpgckpjlbmdaa
open Go.RowKit

set_option maxRecDepth 100000 in
theorem ulidText_walk (a0 : Option Addr) (x0 : List UInt8) (c0 : Nat) (w : World) (h0 : Rd w a0 x0) (_ : x0.length ≤ c0) (_ : c0 ≤ 9223372036854775807) :
    Calls Try.prog 5 #[.slice a0 x0.length c0] w fun e w' => e = .returned (.bool true) ∧ Below w.heap.size w w' := by
  have hb := Below.refl w.heap.size w
  have hl := h0.1
  by_cases hlen : x0.length = 16
  · have L := Lib.hid hlen
    rw [hlen]
    clear hlen hl
    go_enter Try.func5, Try.ntmps5
    go_wp2_with (go_at_call 9; refine (ulidText_ok a0 x0 c0 _ h0 L.out).mono ?_)
    rintro e w2 ⟨rfl, hb2⟩
    have r2 := h0.kept hb2
    have hw := write_ok a0 x0 c0 d32 26 w2 r2 (by rw [L.out]; decide) (by rw [L.out]; decide) (by decide) (by decide) (by decide)
    rw [L.out] at hw
    go_wp2_with (go_at_call 16; refine hw.mono ?_)
    rintro e w3 ⟨rfl, hb3⟩
    generalize writ d32 26 (num x0) = t
    unfold str
    go_wp2
    go_ret
    exact ⟨rfl, hb2.trans (hb3.mono hb2.size)⟩
  · have hne : ((x0.length : Int) != 16) = true := by rw [bne_iff_ne]; omega
    by_cases hbig : 2147483647 < x0.length
    · go_enter Try.func5, Try.ntmps5
      go_wp2
      go_ret
      exact ⟨rfl, hb⟩
    · go_enter Try.func5, Try.ntmps5
      go_wp2_with (go_at_call 9; refine (ulidText_bad a0 x0.length c0 _ hlen).mono ?_)
      rintro e w2 ⟨rfl, hb2⟩
      go_wp2_with (go_at_call 12; refine (known_ok _).mono ?_)
      rintro e w3 ⟨rfl, hb3⟩
      go_wp2
      go_ret
      exact ⟨rfl, hb2.trans (hb3.mono hb2.size)⟩
end Go.Proofs.Ytpnpgckpjlbmdaa
