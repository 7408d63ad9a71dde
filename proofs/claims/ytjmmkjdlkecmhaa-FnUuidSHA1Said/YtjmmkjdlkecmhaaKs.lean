/- Contracts of package ksuid: bytes to a KSUID and back, sequences. -/
import Derived.Test.YtjmmkjdlkecmhaaBe
import Derived.Deep.RegionHeld3
namespace Go.Proofs.Ytjmmkjdlkecmhaa
open Go.RowKit



theorem splice_mid (x : List UInt8) (v n k m : Nat) (hx : x.length = n) (hk : k + m = n) : splice (bvs x) k (bvs (be m v)) = bvs (x.take k ++ be m v) := by
  simp [splice, bvs, be_length, hx, hk]


/-- A sequence in memory: its seed and its count. -/
def seqC (x : List UInt8) (n : Nat) : List Value := bvs x ++ [.int .u32 n]
theorem seqC_seed (x : List UInt8) (n : Nat) (hx : x.length = 20) : ((seqC x n).drop 0).take 20 = bvs x := by simp [seqC, ← hx, bvs_length]
theorem seqC_count (x : List UInt8) (n : Nat) (hx : x.length = 20) : (seqC x n)[20]? = some (.int .u32 n) := by
  rw [seqC, List.getElem?_append_right (by rw [bvs_length, hx]; exact Nat.le_refl _)]; simp [bvs_length, hx]
theorem seqC_length (x : List UInt8) (n : Nat) (hx : x.length = 20) : (seqC x n).length = 21 := by simp [seqC, bvs_length, hx]
theorem seqC_set (x : List UInt8) (n m : Nat) (hx : x.length = 20) : (seqC x n).set 20 (.int .u32 m) = seqC x m := by
  rw [seqC, List.set_append_right _ _ (by rw [bvs_length, hx]; exact Nat.le_refl _)]; simp [bvs_length, hx, seqC]
theorem free_of {w : World} {g : Nat} {cs : List Value} {t : TypeId} (h : Blk w g cs t) (i : Nat) : w.frozen? ⟨g, i, none⟩ = false := h.free i



theorem errNew_ok (s : ByteArray) (w : World) : Calls Try.prog 25 #[.string s] w fun e w' => e = .returned (.iface 64 (.pointer (some ⟨w.heap.size, 0, none⟩))) ∧ Below w.heap.size w w' := by
  go_enter Try.func25, Try.ntmps25
  go_wp2
  go_ret
  exact ⟨rfl, (Below.refl _ _).alloc (Nat.le_refl _) _⟩



end Go.Proofs.Ytjmmkjdlkecmhaa
