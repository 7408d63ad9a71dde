/- Contracts of package uuid: bytes to a UUID. -/
import Derived.Test.YtdjppileeeljnaaDoorTextK
import Derived.Test.YtdjppileeeljnaaDoorCmp
namespace Go.Proofs.YtdjppileeeljnaaDoor
open Go.RowKit

/-- Sixteen zero bytes. -/
def Z16 : List Value := List.replicate 16 (.int .u8 0)
theorem uuArr : Arr Tryd.prog 35 16 Z16 where
  und := ⟨_, Tryd.underlying35, rfl⟩
  size := by kernel_rfl
  zero := fun w => by kernel_rfl
  len := rfl
theorem below_drewN {B : Nat} {w w' : World} (h : Below B w w') (n : Nat) : Below B w (w'.drewN n) := ⟨h.os, h.tape, h.output, h.size, h.block⟩

end Go.Proofs.YtdjppileeeljnaaDoor
