/- Contracts of package ksuid: bytes to a KSUID and back, sequences. -/
import Derived.Test.YtbacbgicfomkbaaBe
import Derived.Deep.RegionHeld3
namespace Go.Proofs.Ytbacbgicfomkbaa
open Go.RowKit

/-- Twenty zero bytes. -/
def Z20 : List Value := List.replicate 20 (.int .u8 0)
theorem ksArr : Arr Try.prog 59 20 Z20 where
  und := ⟨_, Try.underlying59, rfl⟩
  size := by kernel_rfl
  zero := fun w => by kernel_rfl
  len := rfl

set_option maxRecDepth 100000 in
theorem fromBytes_ok (a1 : Option Addr) (x : List UInt8) (c1 : Nat) (w : World) (h1 : Rd w a1 x) (hx : x.length = 20) :
    Calls Try.prog 36 #[.slice a1 20 c1] w fun e w' => e = .returned (.tuple #[.agg (bvs x).toArray, .nilIface]) ∧ Below w.heap.size w w' := by
  have hb := Below.refl w.heap.size w
  have HX := Lib.hid hx
  clear hx
  go_enter Try.func36, Try.ntmps36
  go_wp2_with (refine wp_alloc_blk ksArr hb rfl rfl rfl (Nat.le_refl _) ?_)
  intro w1 b1 g1 s1 hb1
  go_wp2_with (refine wp_alloc_blk ksArr hb1 rfl rfl s1 (by omega) ?_)
  intro w2 b2 g2 s2 hb2
  have r2 := h1.kept hb2
  go_wp2_with (refine wp_copy_all (n := 20) hb2 rfl rfl Try.underlying22 (by kernel_rfl) rfl rfl b2 x r2 (by omega) rfl rfl rfl HX.out ?_)
  intro w3 b3 g3 s3 hb3
  have l20 : (bvs x).length = 20 := by rw [bvs_length]; exact HX.out
  have L20 := Lib.hid l20
  clear l20
  have b1' := (b1.grown g2 (by simp)).grown g3 (by simp)
  go_wp2_with (first | (refine wp_load_blk ksArr rfl rfl rfl b3 L20.out ?_) | refine wp_store_blk ksArr hb3 rfl rfl rfl rfl b1' (Nat.le_refl _) rfl L20.out (bvs_one _) ?_)
  intro w4 b4 g4 s4 hb4
  go_wp2
  refine ret_cell_tmp ksArr rfl rfl rfl rfl b4 L20.out ⟨rfl, hb4⟩

theorem splice_mid (x : List UInt8) (v n k m : Nat) (hx : x.length = n) (hk : k + m = n) : splice (bvs x) k (bvs (be m v)) = bvs (x.take k ++ be m v) := by
  simp [splice, bvs, be_length, hx, hk]

set_option maxRecDepth 100000 in
theorem withSeq_ok (x : List UInt8) (v : Nat) (w : World) (hx : x.length = 20) :
    Calls Try.prog 55 #[.agg (bvs x).toArray, .int .u16 v] w fun e w' => e = .returned (.agg (bvs (x.take 18 ++ be 2 v)).toArray) ∧ Below w.heap.size w w' := by
  have hb := Below.refl w.heap.size w
  have L := Lib.hid (bvs_length x)
  have HX := Lib.hid hx
  have HS := Lib.hid (splice_mid x v 20 18 2 hx rfl)
  have L2 := Lib.hid (show (bvs (x.take 18 ++ be 2 v)).length = 20 by simp [bvs_length, be_length, hx])
  clear hx
  go_enter Try.func55, Try.ntmps55
  go_wp2_with (refine wp_box_blk ksArr hb rfl rfl rfl rfl (Nat.le_refl _) ?_)
  intro w1 b1 g1 s1 hb1
  go_wp2_with (refine wp_alloc_blk ksArr hb1 rfl rfl s1 (by omega) ?_)
  intro w2 b2 g2 s2 hb2
  have b1' := b1.grown g2 (by simp)
  go_wp2_with (go_at_call 72; refine (ks_put16 _ 18 _ _ _ _ _ _ b1' (by omega) (by omega) (by rw [L.out, HX.out]; omega)).mono ?_)
  rintro e w3 ⟨rfl, b3, g3, s3⟩
  have hb3 := hb2.grown g3 (by omega) (by rintro k ⟨⟩; exact Nat.le_refl _)
  have b2' := b2.grown g3 (by simp)
  rw [HS.out] at b3
  go_wp2_with (first | (refine wp_load_blk ksArr rfl rfl rfl b3 L2.out ?_) | refine wp_store_blk ksArr hb3 rfl rfl rfl rfl b2' (by omega) rfl L2.out (bvs_one _) ?_)
  intro w4 b4 g4 s4 hb4
  go_wp2
  exact ret_cell ksArr rfl rfl rfl b4 L2.out ⟨rfl, hb4⟩

/-- A sequence in memory: its seed and its count. -/
def seqC (x : List UInt8) (n : Nat) : List Value := bvs x ++ [.int .u32 n]
theorem seqC_seed (x : List UInt8) (n : Nat) (hx : x.length = 20) : ((seqC x n).drop 0).take 20 = bvs x := by simp [seqC, ← hx, bvs_length]
theorem seqC_count (x : List UInt8) (n : Nat) (hx : x.length = 20) : (seqC x n)[20]? = some (.int .u32 n) := by
  rw [seqC, List.getElem?_append_right (by rw [bvs_length, hx]; exact Nat.le_refl _)]; simp [bvs_length, hx]
theorem seqC_length (x : List UInt8) (n : Nat) (hx : x.length = 20) : (seqC x n).length = 21 := by simp [seqC, bvs_length, hx]
theorem seqC_set (x : List UInt8) (n m : Nat) (hx : x.length = 20) : (seqC x n).set 20 (.int .u32 m) = seqC x m := by
  rw [seqC, List.set_append_right _ _ (by rw [bvs_length, hx]; exact Nat.le_refl _)]; simp [bvs_length, hx, seqC]
theorem free_of {w : World} {g : Nat} {cs : List Value} {t : TypeId} (h : Blk w g cs t) (i : Nat) : w.frozen? ⟨g, i, none⟩ = false := h.free i

set_option maxRecDepth 100000 in
theorem seqNext_ok (x : List UInt8) (n gs : Nat) (t : TypeId) (w : World) (hx : x.length = 20) (hn : n ≤ 65535) (hg : Blk w gs (seqC x n) t) :
    Calls Try.prog 37 #[.pointer (some ⟨gs, 0, none⟩)] w fun e w' => e = .returned (.tuple #[.agg (bvs (x.take 18 ++ be 2 n)).toArray, .nilIface]) ∧ Blk w' gs (seqC x (n + 1)) t ∧ w.grownBy w' (some gs) := by
  have hb := Below.refl w.heap.size w
  have lt := hg.lt
  have L := Lib.hid (bvs_length x)
  have HX := Lib.hid hx
  have L20 := Lib.hid (show (bvs x).length = 20 by rw [bvs_length, hx])
  have L2 := Lib.hid (show (bvs (x.take 18 ++ be 2 n)).length = 20 by simp [bvs_length, be_length, hx])
  have HC := Lib.hid (seqC_count x n hx)
  clear hx
  go_enter Try.func37, Try.ntmps37
  go_wp2_with (refine wp_alloc_blk ksArr hb rfl rfl rfl (Nat.le_refl _) ?_)
  intro w1 b1 g1 s1 hb1
  have q1 := hg.kept hb1
  go_wp2_with (first | (refine wp_load_part ksArr rfl rfl rfl q1 (seqC_seed x n HX.out) L20.out ?_) | (refine wp_alloc_blk ksArr hb1 rfl rfl s1 (by omega) ?_))
  intro w2 b2 g2 s2 hb2
  have q2 := hg.kept hb2
  have b1' := b1.grown g2 (by simp)
  go_wp2_with (refine wp_store_blk ksArr hb2 rfl rfl rfl rfl b2 (by omega) rfl L20.out (bvs_one _) ?_)
  intro w3 b3 g3 s3 hb3
  have q3 := hg.kept hb3
  have b1'' := b1'.grown g3 (by simp)
  have c3 : w3.cell? ⟨gs, 20, none⟩ = some (.int .u32 n) := by rw [q3.cell]; exact HC.out
  have HS : Hid ((seqC x n).set 20 (.int .u32 ((n : Int) + 1)) = seqC x (n + 1)) := seqC_set x n (n + 1) HX.out
  have HL := Lib.hid (seqC_length x n HX.out)
  go_wp2_with (refine wp_store_cell (i := 20) rfl rfl (by kernel_rfl) rfl rfl rfl q3 (by rw [HL.out]; omega) ?_)
  intro w4 q4 g4 s4
  have b1''' := b1''.grown g4 (by simp; omega)
  have b3' := b3.grown g4 (by simp; omega)
  go_wp2_with (first | (refine wp_load_blk ksArr rfl rfl rfl b3' L20.out ?_) | (go_at_call 55; refine (withSeq_ok _ _ _ HX.out).mono ?_))
  rintro e w5 ⟨rfl, hb5⟩
  rw [HS.out] at q4
  have q5 := q4.kept hb5
  have b5 := b1'''.kept hb5
  go_wp2_with (refine wp_store_blk ksArr (Below.refl 0 w5) rfl rfl rfl rfl b5 (Nat.zero_le _) rfl L2.out (bvs_one _) ?_)
  intro w6 b6 g6 s6 _
  have q6 := q5.grown g6 (by simp; omega)
  have hG := grown_new (grown_then (grown_trans (grown_below hb3 (some gs)) g4) hb5) g6 (Nat.le_refl _)
  go_wp2
  exact ret_cell_tmp ksArr rfl rfl rfl rfl b6 L2.out ⟨rfl, q6, hG⟩

set_option maxRecDepth 100000 in
theorem nil_ok (w : World) : Calls Try.prog 53 #[] w fun e w' => e = .returned (.agg Z20.toArray) ∧ Below w.heap.size w w' := by
  have hb := Below.refl w.heap.size w
  go_enter Try.func53, Try.ntmps53
  go_wp2_with (refine wp_alloc_blk ksArr hb rfl rfl rfl (Nat.le_refl _) ?_)
  intro w1 b1 g1 s1 hb1
  go_wp2_with (refine wp_store_blk ksArr hb1 rfl rfl rfl (cs := Z20) rfl b1 (Nat.le_refl _) rfl rfl (by decide) ?_)
  intro w2 b2 g2 s2 hb2
  go_wp2
  exact ret_cell ksArr rfl rfl rfl b2 rfl ⟨rfl, hb2⟩

theorem errNew_ok (s : ByteArray) (w : World) : Calls Try.prog 54 #[.string s] w fun e w' => e = .returned (.iface 106 (.pointer (some ⟨w.heap.size, 0, none⟩))) ∧ Below w.heap.size w w' := by
  go_enter Try.func54, Try.ntmps54
  go_wp2
  go_ret
  exact ⟨rfl, (Below.refl _ _).alloc (Nat.le_refl _) _⟩

set_option maxRecDepth 100000 in
theorem bytes_ok (x : List UInt8) (w : World) (_hx : x.length = 20) :
    Calls Try.prog 38 #[.agg (bvs x).toArray] w fun e w' => e = .returned (.slice (some ⟨w.heap.size, 0, none⟩) 20 20) ∧ Blk w' w.heap.size (bvs x) 59 ∧ Below w.heap.size w w' ∧ w'.heap.size = w.heap.size + 1 := by
  have hb := Below.refl w.heap.size w
  go_enter Try.func38, Try.ntmps38
  go_wp2_with (refine wp_box_blk ksArr hb rfl rfl rfl rfl (Nat.le_refl _) ?_)
  intro w1 b1 g1 s1 hb1
  go_wp2
  go_ret
  exact ⟨rfl, b1, hb1, s1⟩

set_option maxRecDepth 100000 in
theorem seqNext_end (x : List UInt8) (n gs : Nat) (t : TypeId) (w : World) (hx : x.length = 20) (hn : 65535 < n) (hg : Blk w gs (seqC x n) t) :
    Calls Try.prog 37 #[.pointer (some ⟨gs, 0, none⟩)] w fun e w' => (∃ a, e = .returned (.tuple #[.agg Z20.toArray, .iface 106 (.pointer (some a))])) ∧ Below w.heap.size w w' := by
  have hb := Below.refl w.heap.size w
  have lt := hg.lt
  have HX := Lib.hid hx
  have L20 := Lib.hid (show (bvs x).length = 20 by rw [bvs_length, hx])
  have HC := Lib.hid (seqC_count x n hx)
  clear hx
  go_enter Try.func37, Try.ntmps37
  go_wp2_with (refine wp_alloc_blk ksArr hb rfl rfl rfl (Nat.le_refl _) ?_)
  intro w1 b1 g1 s1 hb1
  have q1 := hg.kept hb1
  go_wp2_with (first | (refine wp_load_part ksArr rfl rfl rfl q1 (seqC_seed x n HX.out) L20.out ?_) | (refine wp_alloc_blk ksArr hb1 rfl rfl s1 (by omega) ?_))
  intro w2 b2 g2 s2 hb2
  have q2 := hg.kept hb2
  have b1' := b1.grown g2 (by simp)
  go_wp2_with (refine wp_store_blk ksArr hb2 rfl rfl rfl rfl b2 (by omega) rfl L20.out (bvs_one _) ?_)
  intro w3 b3 g3 s3 hb3
  have q3 := hg.kept hb3
  have b1'' := b1'.grown g3 (by simp)
  have c3 : w3.cell? ⟨gs, 20, none⟩ = some (.int .u32 n) := by rw [q3.cell]; exact HC.out
  go_wp2_with (go_at_call 53; refine (nil_ok _).mono ?_)
  rintro e w4 ⟨rfl, hb4⟩
  go_wp2_with (go_at_call 54; refine (errNew_ok _ _).mono ?_)
  rintro e w5 ⟨rfl, hb5⟩
  have b5 := (b1''.kept hb4).kept hb5
  have hb6 := (hb3.trans (hb4.mono (by omega))).trans (hb5.mono (by have := hb4.size; omega))
  go_wp2_with (refine wp_store_blk ksArr hb6 rfl rfl rfl (cs := Z20) rfl b5 (by omega) rfl rfl (by decide) ?_)
  intro w6 b6 g6 s6 hb7
  go_wp2
  exact ret_cell_tmp ksArr rfl rfl rfl rfl b6 rfl ⟨⟨_, rfl⟩, hb7⟩

end Go.Proofs.Ytbacbgicfomkbaa
