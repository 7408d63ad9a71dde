/- The law FnKsuidText returns true, and turns nothing that was there. -/
import Derived.Test.YtbacbgicfomkbaaTextK
namespace Go.Proofs.Ytbacbgicfomkbaa
open Go.RowKit

set_option maxRecDepth 100000 in
theorem ksuidText_walk (a0 : Option Addr) (x0 : List UInt8) (c0 : Nat) (w : World) (h0 : Rd w a0 x0) (_hc : x0.length ≤ c0) (_hc' : c0 ≤ 9223372036854775807) :
    Calls Try.prog 6 #[.slice a0 x0.length c0] w fun e w' => e = .returned (.bool true) ∧ Below w.heap.size w w' := by
  have hb := Below.refl w.heap.size w
  have hl := h0.1
  by_cases hlen : x0.length = 20
  · have L := Lib.hid hlen
    rw [hlen]
    clear hlen hl
    go_enter Try.func6, Try.ntmps6
    go_wp2_with (go_at_call 22; refine (ksuidText_ok a0 x0 c0 _ h0 L.out).mono ?_)
    rintro e w2 ⟨rfl, hb2⟩
    have r2 := h0.kept hb2
    have hw := write_ok a0 x0 c0 d62 27 w2 r2 (by rw [L.out]; decide) (by rw [L.out]; decide) (by decide) (by decide) (by decide)
    rw [L.out] at hw
    go_wp2_with (go_at_call 24; refine hw.mono ?_)
    rintro e w3 ⟨rfl, hb3⟩
    generalize writ d62 27 (num x0) = t
    unfold str
    go_wp2
    go_ret
    exact ⟨rfl, hb2.trans (hb3.mono hb2.size)⟩
  · have hne : ((x0.length : Int) != 20) = true := by rw [bne_iff_ne]; omega
    by_cases hbig : 2147483647 < x0.length
    · go_enter Try.func6, Try.ntmps6
      go_wp2
      go_ret
      exact ⟨rfl, hb⟩
    · go_enter Try.func6, Try.ntmps6
      go_wp2_with (go_at_call 22; refine (ksuidText_bad a0 x0.length c0 _ hlen).mono ?_)
      rintro e w2 ⟨rfl, hb2⟩
      go_wp2_with (go_at_call 23; refine (known_ok _).mono ?_)
      rintro e w3 ⟨rfl, hb3⟩
      go_wp2
      go_ret
      exact ⟨rfl, hb2.trans (hb3.mono hb2.size)⟩
end Go.Proofs.Ytbacbgicfomkbaa
