/- Contracts of package uuid: bytes to a UUID. -/
import Derived.Test.YtjmmkjdlkecmhaaTextK
import Derived.Test.YtjmmkjdlkecmhaaCmp
namespace Go.Proofs.Ytjmmkjdlkecmhaa
open Go.RowKit

/-- Sixteen zero bytes. -/
def Z16 : List Value := List.replicate 16 (.int .u8 0)
theorem uuArr : Arr Try.prog 36 16 Z16 where
  und := ⟨_, Try.underlying36, rfl⟩
  size := by kernel_rfl
  zero := fun w => by kernel_rfl
  len := rfl
theorem below_drewN {B : Nat} {w w' : World} (h : Below B w w') (n : Nat) : Below B w (w'.drewN n) := ⟨h.os, h.tape, h.output, h.size, h.block⟩

set_option maxRecDepth 100000 in
theorem unmarshal_ok {B0 : Nat} {w0 : World} (g : Nat) (cs : List Value) (t : TypeId) (a1 : Option Addr) (x : List UInt8) (c1 : Nat) (w : World) (hb : Below B0 w0 w) (hg : Blk w g cs t) (hB : B0 ≤ g) (hcs : cs.length = 16) (h1 : Rd w a1 x) (hx : x.length = 16) :
    Calls Try.prog 19 #[.pointer (some ⟨g, 0, none⟩), .slice a1 16 c1] w fun e w' => e = .returned .nilIface ∧ Blk w' g (bvs x) t ∧ w.grownBy w' (some g) ∧ Below B0 w0 w' := by
  have L := Lib.hid hx
  have C := Lib.hid hcs
  clear hx hcs
  go_enter Try.func19, Try.ntmps19
  go_wp2_with (refine wp_copy_all (n := 16) hb rfl rfl Try.underlying22 (by kernel_rfl) rfl rfl hg x h1 hB rfl rfl C.out L.out ?_)
  intro w2 b2 g2 s2 hb2
  clear s2
  go_wp2
  go_ret
  exact ⟨rfl, b2, g2, hb2⟩
theorem unmarshal_bad (g : Nat) (a1 : Option Addr) (n c1 : Nat) (w : World) (hne : ((n : Int) != 16) = true) :
    Calls Try.prog 19 #[.pointer (some ⟨g, 0, none⟩), .slice a1 n c1] w fun e w' => e = .returned (.iface 64 (.pointer (some ⟨w.heap.size, 0, none⟩))) ∧ Below w.heap.size w w' := by
  go_enter Try.func19, Try.ntmps19
  go_wp2_with (go_at_call 25; refine (errNew_ok _ _).mono ?_; rintro e w2 ⟨rfl, hb2⟩)
  go_ret
  exact ⟨rfl, hb2⟩

set_option maxRecDepth 100000 in
theorem uuFromBytes_ok (a1 : Option Addr) (x : List UInt8) (c1 : Nat) (w : World) (h1 : Rd w a1 x) (hx : x.length = 16) :
    Calls Try.prog 12 #[.slice a1 16 c1] w fun e w' => e = .returned (.tuple #[.agg (bvs x).toArray, .nilIface]) ∧ Below w.heap.size w w' := by
  have hb := Below.refl w.heap.size w
  have L := Lib.hid hx
  have L16 := Lib.hid (show (bvs x).length = 16 by rw [bvs_length, hx])
  clear hx
  go_enter Try.func12, Try.ntmps12
  go_wp2_with (refine wp_alloc_blk uuArr hb rfl rfl rfl (Nat.le_refl _) ?_)
  intro w1 b1 g1 s1 hb1
  clear s1
  go_wp2_with (go_at_call 19; refine (unmarshal_ok _ _ _ a1 x c1 _ hb1 b1 (Nat.le_refl _) rfl (h1.kept hb1) L.out).mono ?_)
  rintro e w2 ⟨rfl, b2, g2, hb2⟩
  go_wp2_with (first | (refine wp_load_blk uuArr rfl rfl rfl b2 L16.out ?_) | refine wp_store_blk uuArr hb2 rfl rfl rfl rfl b2 (Nat.le_refl _) L16.out L16.out (bvs_one _) ?_)
  intro w4 b4 g4 s4 hb4
  go_wp2
  refine ret_cell_tmp uuArr rfl rfl rfl rfl b4 L16.out ⟨rfl, hb4⟩
set_option maxRecDepth 100000 in
theorem uuFromBytes_bad (a1 : Option Addr) (n c1 : Nat) (w : World) (hne : ((n : Int) != 16) = true) :
    Calls Try.prog 12 #[.slice a1 n c1] w fun e w' => e = .returned (.tuple #[.agg Z16.toArray, .iface 64 (.pointer (some ⟨w.heap.size + 1, 0, none⟩))]) ∧ Below w.heap.size w w' := by
  have hb := Below.refl w.heap.size w
  go_enter Try.func12, Try.ntmps12
  go_wp2_with (refine wp_alloc_blk uuArr hb rfl rfl rfl (Nat.le_refl _) ?_)
  intro w1 b1 g1 s1 hb1
  have sz := Lib.hid s1
  clear s1
  go_wp2_with (go_at_call 19; refine (unmarshal_bad _ a1 n c1 _ hne).mono ?_)
  rintro e w2 ⟨rfl, hb2⟩
  rw [sz.out]
  have b2 := b1.kept hb2
  have hb2' := hb1.trans (hb2.mono hb1.size)
  go_wp2_with (first | (refine wp_load_blk uuArr rfl rfl rfl b2 rfl ?_) | refine wp_store_blk uuArr hb2' rfl rfl rfl (cs := Z16) rfl b2 (Nat.le_refl _) rfl rfl (by decide) ?_)
  intro w4 b4 g4 s4 hb4
  go_wp2
  refine ret_cell_tmp uuArr rfl rfl rfl rfl b4 rfl ⟨rfl, hb4⟩
end Go.Proofs.Ytjmmkjdlkecmhaa
