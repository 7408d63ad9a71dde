/- Contracts of the reference's small functions: Same, Join. -/
import Derived.Test.YtcojcohipmoopaaBe
namespace Go.Proofs.Ytcojcohipmoopaa
open Go.RowKit

theorem cmpL_zero : ∀ (x y : List UInt8), cmpL x y = 0 ↔ x = y
  | [], [] => by simp [cmpL]
  | [], _ :: _ => by simp [cmpL]
  | _ :: _, [] => by simp [cmpL]
  | a :: u, b :: v => by
    by_cases h : a = b
    · simp [cmpL, h, cmpL_zero u v]
    · simp only [cmpL, h, if_false, List.cons.injEq, false_and, iff_false]
      split <;> omega

theorem info5 : (Try.prog.info? 5).map (fun i => (i.zero, i.size, i.bytes)) = some (some (.int .u8 0), 1, 1) := by kernel_rfl


/-- The first bytes of a slice. -/
theorem Rd.take {w : World} {a : Option Addr} {bs : List UInt8} (h : Rd w a bs) (k : Nat) : Rd w a (bs.take k) := by
  refine ⟨by rw [List.length_take]; have := h.1; omega, ?_⟩
  rcases h.2 with rfl | ⟨b, off, rfl, hc⟩
  · exact .inl (by simp)
  · by_cases h0 : bs.take k = []
    · exact .inl h0
    · refine .inr ⟨b, off, rfl, fun i hi => ?_⟩
      rw [List.length_take] at hi
      rw [hc i (by omega)]
      simp [B, show i < k by omega]
theorem Rd.drew {w : World} {a : Option Addr} {bs : List UInt8} (h : Rd w a bs) (n : Nat) : Rd (w.drewN n) a bs := h
end Go.Proofs.Ytcojcohipmoopaa
