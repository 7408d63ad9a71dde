/- Contracts of package ksuid: bytes to a KSUID and back, sequences. -/
import Derived.Test.YtcojcohipmoopaaBe
import Derived.Deep.RegionHeld3
namespace Go.Proofs.Ytcojcohipmoopaa
open Go.RowKit

/-- Twenty zero bytes. -/
def Z20 : List Value := List.replicate 20 (.int .u8 0)
theorem ksArr : Arr Try.prog 65 20 Z20 where
  und := ⟨_, Try.underlying65, rfl⟩
  size := by kernel_rfl
  zero := fun w => by kernel_rfl
  len := rfl

set_option maxRecDepth 100000 in
theorem fromBytes_ok (a1 : Option Addr) (x : List UInt8) (c1 : Nat) (w : World) (h1 : Rd w a1 x) (hx : x.length = 20) :
    Calls Try.prog 14 #[.slice a1 20 c1] w fun e w' => e = .returned (.tuple #[.agg (bvs x).toArray, .nilIface]) ∧ Below w.heap.size w w' := by
  have hb := Below.refl w.heap.size w
  have HX := Lib.hid hx
  clear hx
  go_enter Try.func14, Try.ntmps14
  go_wp2_with (refine wp_alloc_blk ksArr hb rfl rfl rfl (Nat.le_refl _) ?_)
  intro w1 b1 g1 s1 hb1
  go_wp2_with (refine wp_alloc_blk ksArr hb1 rfl rfl s1 (by omega) ?_)
  intro w2 b2 g2 s2 hb2
  have r2 := h1.kept hb2
  go_wp2_with (refine wp_copy_all (n := 20) hb2 rfl rfl Try.underlying28 (by kernel_rfl) rfl rfl b2 x r2 (by omega) rfl rfl rfl HX.out ?_)
  intro w3 b3 g3 s3 hb3
  have l20 : (bvs x).length = 20 := by rw [bvs_length]; exact HX.out
  have L20 := Lib.hid l20
  clear l20
  have b1' := (b1.grown g2 (by simp)).grown g3 (by simp)
  go_wp2_with (first | (refine wp_load_blk ksArr rfl rfl rfl b3 L20.out ?_) | refine wp_store_blk ksArr hb3 rfl rfl rfl rfl b1' (Nat.le_refl _) rfl L20.out (bvs_one _) ?_)
  intro w4 b4 g4 s4 hb4
  go_wp2
  refine ret_cell_tmp ksArr rfl rfl rfl rfl b4 L20.out ⟨rfl, hb4⟩

theorem splice_mid (x : List UInt8) (v n k m : Nat) (hx : x.length = n) (hk : k + m = n) : splice (bvs x) k (bvs (be m v)) = bvs (x.take k ++ be m v) := by
  simp [splice, bvs, be_length, hx, hk]


/-- A sequence in memory: its seed and its count. -/
def seqC (x : List UInt8) (n : Nat) : List Value := bvs x ++ [.int .u32 n]
theorem seqC_seed (x : List UInt8) (n : Nat) (hx : x.length = 20) : ((seqC x n).drop 0).take 20 = bvs x := by simp [seqC, ← hx, bvs_length]
theorem seqC_count (x : List UInt8) (n : Nat) (hx : x.length = 20) : (seqC x n)[20]? = some (.int .u32 n) := by
  rw [seqC, List.getElem?_append_right (by rw [bvs_length, hx]; exact Nat.le_refl _)]; simp [bvs_length, hx]
theorem seqC_length (x : List UInt8) (n : Nat) (hx : x.length = 20) : (seqC x n).length = 21 := by simp [seqC, bvs_length, hx]
theorem seqC_set (x : List UInt8) (n m : Nat) (hx : x.length = 20) : (seqC x n).set 20 (.int .u32 m) = seqC x m := by
  rw [seqC, List.set_append_right _ _ (by rw [bvs_length, hx]; exact Nat.le_refl _)]; simp [bvs_length, hx, seqC]
theorem free_of {w : World} {g : Nat} {cs : List Value} {t : TypeId} (h : Blk w g cs t) (i : Nat) : w.frozen? ⟨g, i, none⟩ = false := h.free i


set_option maxRecDepth 100000 in
theorem nil_ok (w : World) : Calls Try.prog 16 #[] w fun e w' => e = .returned (.agg Z20.toArray) ∧ Below w.heap.size w w' := by
  have hb := Below.refl w.heap.size w
  go_enter Try.func16, Try.ntmps16
  go_wp2_with (refine wp_alloc_blk ksArr hb rfl rfl rfl (Nat.le_refl _) ?_)
  intro w1 b1 g1 s1 hb1
  go_wp2_with (refine wp_store_blk ksArr hb1 rfl rfl rfl (cs := Z20) rfl b1 (Nat.le_refl _) rfl rfl (by decide) ?_)
  intro w2 b2 g2 s2 hb2
  go_wp2
  exact ret_cell ksArr rfl rfl rfl b2 rfl ⟨rfl, hb2⟩




end Go.Proofs.Ytcojcohipmoopaa
