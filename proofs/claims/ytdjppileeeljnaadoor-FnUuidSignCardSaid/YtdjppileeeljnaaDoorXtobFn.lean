/- Contracts of uuid.xtob, over the table that the rows list. -/
import Derived.Test.YtdjppileeeljnaaDoorXtob
import Derived.Test.YtdjppileeeljnaaDoorGuard
namespace Go.Proofs.YtdjppileeeljnaaDoor
open Go.RowKit
set_option linter.unusedVariables false
set_option linter.unusedSimpArgs false

/-- What xtob hands back of two signs. -/
def xtN (c d : Nat) : Int := bits .or .u8 ((hexV c : Int) * 16 % 256) (hexV d : Int)
theorem xtN_ok (c d : Nat) (hc : okH c = true) (hd : okH d = true) : xtN c d = ((16 * hexV c + hexV d : Nat) : Int) := by
  have h1 := hexV_or c (by simpa [okH] using hc)
  have h2 := hexV_or d (by simpa [okH] using hd)
  unfold xtN
  generalize hexV c = x at *
  generalize hexV d = y at *
  have e1 : (x : Int) * 16 % 256 = ((x * 16 : Nat) : Int) := by omega
  rw [e1, u8_or_nat _ _ (by omega) (by omega), nat_join 4 (x * 16) y (by omega) (by omega), Nat.mul_comm x]
theorem okH_int (c : Nat) : ((hexV c : Int) != 255) = okH c := by
  unfold okH
  rw [Bool.eq_iff_iff, bne_iff_ne, decide_eq_true_iff]
  omega
set_option maxRecDepth 100000 in
theorem xtob_ok (c d : Nat) (hc : c < 256) (hd : d < 256) (w : World) (hT : XTab w) :
    Calls Tryd.prog 20 #[.int .u8 (c : Int), .int .u8 (d : Int)] w fun e w' => e = .returned (.tuple #[.int .u8 (xtN c d), .bool (okH c && okH d)]) ∧ w' = w := by
  have h1 := hT c hc
  have h2 := hT d hd
  have HN : Hid (xtN c d = bits .or .u8 ((hexV c : Int) * 16 % 256) (hexV d : Int)) := Lib.hid rfl
  have i1 := okH_int c
  have i2 := okH_int d
  have I1 := Lib.hid i1
  have I2 := Lib.hid i2
  clear hT i1 i2
  have l1 := hexV_lt c
  have l2 := hexV_lt d
  generalize hexV c = x at *
  generalize hexV d = y at *
  go_enter Tryd.func20, Tryd.ntmps20
  go_wp2
  all_goals
    refine ret_tmp2 rfl rfl rfl rfl ⟨?_, rfl⟩
    rw [HN.out, ← I1.out, ← I2.out]
    first
      | rfl
      | (obtain rfl : x = 255 := by omega
         rfl)
theorem XTab.keptB {w w' : World} {b : Nat} (h : XTab w) (hb : Below b w w') (hb0 : 0 < b) : XTab w' := fun c hc => by
  rw [hb.cell hb0]
  exact h c hc
theorem XTab.lt {w : World} (h : XTab w) : 0 < w.heap.size := World.block_lt_of_cell? w _ (h 0 (by decide))
end Go.Proofs.YtdjppileeeljnaaDoor
